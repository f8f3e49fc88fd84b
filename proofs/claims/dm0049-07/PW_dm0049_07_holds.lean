import PyProof.Rows.All
import Wide.All
import OpenK.AllK
import Wide.FinOn
import PyProof.DictItems
import PyProof.Rows.SortShellK
import KE.KSetIn
import KE.KBytesWalk
import KE.BytesMake
import PyProof.Rows.CallKw2
import PyProof.SliceMore
import Lean
import PySem.Challenge.RW_dm0049_07
open PySem renaming wpAny_bind → Zq, wpAny_pure → Zs, Params → Zv, Shared → Zx, wpAny_holding → ZF, Around → ZI, Program → ZJ, model → ZP, World → ZQ, wpAny → ZS, strKind → a8, wpAny_standAt → a9, Addr → b0, builtinLookup_eq_fast → b9, sizeLine → c9, SetTable → d5, wpAny_call_entry → d6, wpAny_mono → e9, starEach → f0, wpAny_callSpecial?_slot → f2, wpAny_newObj_type → f6, isSubtype_type → f7, wpAny_of_eq → f9, typeLookup_type → g4, letOwnedTupleGo → g5, sizeLine_eq → j7, wpAny_setState_of → j8, rawInt → k5, eval → k7, typeLookup → k8, wpAny_rule → l6, mainGlobals → l9, assign → m0, wpAny_isInstance → m8, assignEach → n6, wpAny_seqItems → n9, wpAny_fieldsOf → o0, recursionLimit → o1, Builtin → o6, codeAny_call_builtin → p6, sysModules → p8, pyNext → s6, builtinsNs → s7, entryFor_of_tree → s8, wpAny_attempt → s9, firstArgMember → t0, wpAny_call → t8, compareOp → u0, backTo → u5, wpAny_field → w5, foldedSetIterable → w9, codeAny_builtin → y0, intKind → y3, GenState → y7, isSubtype → y8, wpAny_setField_rec → A2, FuncData → A6, wpAny_specialOf → A7, storeName → A8, holding → A9, codeAmong → B0, closureFor_none → B1, argsOk → B2, KeyKind → B8
open List renaming mem_cons_self → Zr, mem_cons_of_mem → Zt, length_map → Zu, mem_cons → Zy, length_cons → Zz, length_append → ZA, map_cons → ZD, cons_append → ZE, perm_append_comm → ZG, nil_append → ZH, mem_singleton → ZK, nodup_cons → ZL, lookup_cons → ZN, mem_map_of_mem → ZO, length_nil → ZR, map_append → ZT, getElem?_eq_getElem → ZU, mem_map → ZV, append_assoc → ZW, reverse_cons → ZX, mem_append_right → ZY, all_eq_true → c5, getElem?_map → d4, mem_append → d8, mem_append_left → f8, foldl_cons → g6, append_nil → g7, range' → g9, filterMap_cons → k9, map_map → m4, drop_of_length_le → m5, drop_eq_getElem_cons → m6, perm_middle → n0, not_mem_nil → n5, getElem?_eq_none → n8, mem_filter → o8, find?_cons → o9, map_congr_left → p9, length_singleton → r8, replicate → t5, zip_cons_cons → u7, pairwise_cons → u8, filterMap_append → u9, getElem?_eq_some_iff → w6, map_nil → y2, length → y6, filterMap_map → A5, length_replicate → B4, eq_nil_or_concat → B5, concat_eq_append → B6
open PySem.Str renaming ofString → Zw
open PySem.Heap renaming get?_push_size → ZB, get?_push_of_some → ZC, SameBut → a7, get?_update_self → c6, lt_size → e8, size_push → z5
open Nat renaming zero_le → ZM, le_refl → ZZ, le_trans → d7, lt_or_ge → j4, le_of_ble_eq_true → j5, ne_of_lt → j9, le_of_lt → n7, lt_irrefl → r6, lt_succ_self → t9
open PySem.Heap.SameBut renaming update → c0
open Bool renaming false_eq_true → c7, false_ne_true → d3, and_eq_true → i9, eq_iff_iff → y1
open Int renaming toNat_natCast → c8
open PySem.Obj renaming mapSeq → d9, mapFields → o7, isFreed_of_fields → u6, data_mapFields → A4
open PySem.W renaming peek → f1, boot_drawn → l7
open PySem.W.KFB renaming if_not → g8
open PySem.Sem renaming bind_eq_wrap' → j3, wrap_wrap → m9, onRaise_eq_wrap → y4
open PySem.Value renaming none → j6, type → y9
open Option renaming map_eq_some_iff → k0, map_some → B3
open Array renaming mk → k6, length_toList → l5, getElem?_eq_getElem → m7, getElem?_toList → r9, perm_iff_toList_perm → t7, getElem?_eq_none → A0
open Option.some renaming injEq → l8, inj → r7
open Pure renaming pure → o4
open List.Perm renaming swap → o5, cons → w7, append_left → B7
open List.cons renaming inj → p5
open PySem.F renaming slot_tuple_iterator_next → p7
open PySem.SetTable renaming below → r0, grown → z4
open PySem.W.Fast renaming te10110043849684766642 → t6
open PySem.Calls renaming Constant_str → w0
open PySem.Around renaming under_plainId → w8
open PySem.W.Looks renaming of_peek → y5
open PySem.W.SharedT renaming mk → z1
open ToString renaming toString → A3
open PySem PySem.W
set_option Elab.async false
set_option linter.all false
set_option maxRecDepth 100000
set_option maxHeartbeats 0
set_option tactic.hygienic false
local macro_rules | `(@_) => `(by kernel_rfl)
local macro_rules | `(⋯) => `(by omega)
local macro_rules |`($a:term → $b)=>`(∀$(Lean.mkIdent `O):ident:$a,$b)
set_option compiler.extract_closed false
local macro_rules |`(tactic|omega)=>`(tactic|first|exact Nat.le_of_ble_eq_true rfl|with_reducible assumption|exact Nat.lt_of_lt_of_le (by with_reducible assumption) (Nat.le_of_ble_eq_true (by rfl))|exact Nat.le_of_lt (Nat.lt_of_lt_of_le (by with_reducible assumption) (Nat.le_of_ble_eq_true (by rfl)))|exact Nat.lt_of_le_of_lt (by with_reducible assumption) (Nat.le_of_ble_eq_true (by rfl))|lia|omega (splitNatSub:=true))
namespace Mine.Internal
noncomputable abbrev B9:Str:=⟨⟨[95,95,100,101,98,117,103,95,95]⟩⟩
section
set_option autoImplicit true
variable{P:Prop}
theorem aA{p q:Prop}(h:p/\q)(c:p->q->P):P:=c h.1 h.2
theorem di{p q r:Prop}(h:p/\q/\r)(c:p->q->r->P):P:=c h.1 h.2.1 h.2.2
theorem tv{p q r s:Prop}(h:p/\q/\r/\s)(c:p->q->r->s->P):P:=c h.1 h.2.1 h.2.2.1 h.2.2.2
theorem Ab{p q r s t:Prop}(h:p/\q/\r/\s/\t)(c:p->q->r->s->t->P):P:=c h.1 h.2.1 h.2.2.1 h.2.2.2.1 h.2.2.2.2
theorem Zk{p q r s t k:Prop}(h:p/\q/\r/\s/\t/\k)(c:p->q->r->s->t->k->P):P:=c h.1 h.2.1 h.2.2.1 h.2.2.2.1 h.2.2.2.2.1 h.2.2.2.2.2
theorem It{p q r s t k l m n:Prop}(h:p/\q/\r/\s/\t/\k/\l/\m/\n)(c:p->q->r->s->t->k->l->m->n->P):P:=c h.1 h.2.1 h.2.2.1 h.2.2.2.1 h.2.2.2.2.1 h.2.2.2.2.2.1 h.2.2.2.2.2.2.1 h.2.2.2.2.2.2.2.1 h.2.2.2.2.2.2.2.2
theorem Zl{p q r s t k l m n o:Prop}(h:p/\q/\r/\s/\t/\k/\l/\m/\n/\o)(c:p->q->r->s->t->k->l->m->n->o->P):P:=c h.1 h.2.1 h.2.2.1 h.2.2.2.1 h.2.2.2.2.1 h.2.2.2.2.2.1 h.2.2.2.2.2.2.1 h.2.2.2.2.2.2.2.1 h.2.2.2.2.2.2.2.2.1 h.2.2.2.2.2.2.2.2.2
theorem aw{p:a->Prop}(h:∃x,p x)(c:∀x,p x->P):P:=h.elim fun x h=>c x h
theorem ae{p q:a->Prop}(h:∃x,p x/\q x)(c:∀x,p x->q x->P):P:=h.elim fun x h=>aA h (c x)
theorem aU{p q r:a->Prop}(h:∃x,p x/\q x/\r x)(c:∀x,p x->q x->r x->P):P:=h.elim fun x h=>di h (c x)
theorem jy{p q r s:a->Prop}(h:∃x,p x/\q x/\r x/\s x)(c:∀x,p x->q x->r x->s x->P):P:=h.elim fun x h=>tv h (c x)
theorem Aa{p q r s t:a->Prop}(h:∃x,p x/\q x/\r x/\s x/\t x)(c:∀x,p x->q x->r x->s x->t x->P):P:=h.elim fun x h=>Ab h (c x)
theorem gF{p:a->b->Prop}(h:∃x y,p x y)(c:∀x y,p x y->P):P:=h.elim fun x h=>aw h (c x)
theorem bI{p q:a->b->Prop}(h:∃x y,p x y/\q x y)(c:∀x y,p x y->q x y->P):P:=h.elim fun x h=>ae h (c x)
theorem bW{p q r:a->b->Prop}(h:∃x y,p x y/\q x y/\r x y)(c:∀x y,p x y->q x y->r x y->P):P:=h.elim fun x h=>aU h (c x)
theorem lA{p q r s:a->b->Prop}(h:∃x y,p x y/\q x y/\r x y/\s x y)(c:∀x y,p x y->q x y->r x y->s x y->P):P:=h.elim fun x h=>jy h (c x)
theorem Ir{p q r s t:a->b->Prop}(h:∃x y,p x y/\q x y/\r x y/\s x y/\t x y)(c:∀x y,p x y->q x y->r x y->s x y->t x y->P):P:=h.elim fun x h=>Aa h (c x)
theorem lz{p q r s t k:a->b->Prop}(h:∃x y,p x y/\q x y/\r x y/\s x y/\t x y/\k x y)(c:∀x y,p x y->q x y->r x y->s x y->t x y->k x y->P):P:=h.elim fun x h=>h.elim fun y h=>c x y h.1 h.2.1 h.2.2.1 h.2.2.2.1 h.2.2.2.2.1 h.2.2.2.2.2
theorem jx{p q:a->b->c->Prop}(h:∃x y z,p x y z/\q x y z)(c:∀x y z,p x y z->q x y z->P):P:=h.elim fun x h=>bI h (c x)
theorem bv{p q r:a->b->c->Prop}(h:∃x y z,p x y z/\q x y z/\r x y z)(c:∀x y z,p x y z->q x y z->r x y z->P):P:=h.elim fun x h=>bW h (c x)
theorem jw{p q r s:a->b->c->Prop}(h:∃x y z,p x y z/\q x y z/\r x y z/\s x y z)(c:∀x y z,p x y z->q x y z->r x y z->s x y z->P):P:=h.elim fun x h=>lA h (c x)
theorem oS{p q r s t:a->b->c->Prop}(h:∃x y z,p x y z/\q x y z/\r x y z/\s x y z/\t x y z)(c:∀x y z,p x y z->q x y z->r x y z->s x y z->t x y z->P):P:=h.elim fun x h=>Ir h (c x)
theorem eh{p q r s t k:a->b->c->Prop}(h:∃x y z,p x y z/\q x y z/\r x y z/\s x y z/\t x y z/\k x y z)(c:∀x y z,p x y z->q x y z->r x y z->s x y z->t x y z->k x y z->P):P:=h.elim fun x h=>lz h (c x)
theorem Iq{p q r s t k l:a->b->c->Prop}(h:∃x y z,p x y z/\q x y z/\r x y z/\s x y z/\t x y z/\k x y z/\l x y z)(c:∀x y z,p x y z->q x y z->r x y z->s x y z->t x y z->k x y z->l x y z->P):P:=h.elim fun x h=>h.elim fun y h=>h.elim fun z h=>c x y z h.1 h.2.1 h.2.2.1 h.2.2.2.1 h.2.2.2.2.1 h.2.2.2.2.2.1 h.2.2.2.2.2.2
theorem tu{p q r s t k l m n:a->b->c->Prop}(h:∃x y z,p x y z/\q x y z/\r x y z/\s x y z/\t x y z/\k x y z/\l x y z/\m x y z/\n x y z)(c:∀x y z,p x y z->q x y z->r x y z->s x y z->t x y z->k x y z->l x y z->m x y z->n x y z->P):P:=h.elim fun x h=>h.elim fun y h=>h.elim fun z h=>c x y z h.1 h.2.1 h.2.2.1 h.2.2.2.1 h.2.2.2.2.1 h.2.2.2.2.2.1 h.2.2.2.2.2.2.1 h.2.2.2.2.2.2.2.1 h.2.2.2.2.2.2.2.2
theorem Zi{p q:a->b->c->d->Prop}(h:∃x y z u,p x y z u/\q x y z u)(c:∀x y z u,p x y z u->q x y z u->P):P:=h.elim fun x h=>jx h (c x)
theorem dq{p q r:a->b->c->d->Prop}(h:∃x y z u,p x y z u/\q x y z u/\r x y z u)(c:∀x y z u,p x y z u->q x y z u->r x y z u->P):P:=h.elim fun x h=>bv h (c x)
theorem Ip{p q r s:a->b->c->d->Prop}(h:∃x y z u,p x y z u/\q x y z u/\r x y z u/\s x y z u)(c:∀x y z u,p x y z u->q x y z u->r x y z u->s x y z u->P):P:=h.elim fun x h=>jw h (c x)
theorem Zh{p q r s t:a->b->c->d->Prop}(h:∃x y z u,p x y z u/\q x y z u/\r x y z u/\s x y z u/\t x y z u)(c:∀x y z u,p x y z u->q x y z u->r x y z u->s x y z u->t x y z u->P):P:=h.elim fun x h=>oS h (c x)
theorem Zg{p q r s t k:a->b->c->d->Prop}(h:∃x y z u,p x y z u/\q x y z u/\r x y z u/\s x y z u/\t x y z u/\k x y z u)(c:∀x y z u,p x y z u->q x y z u->r x y z u->s x y z u->t x y z u->k x y z u->P):P:=h.elim fun x h=>eh h (c x)
theorem Zf{p q r s t:a->b->c->d->e->Prop}(h:∃x y z u v,p x y z u v/\q x y z u v/\r x y z u v/\s x y z u v/\t x y z u v)(c:∀x y z u v,p x y z u v->q x y z u v->r x y z u v->s x y z u v->t x y z u v->P):P:=h.elim fun x h=>Zh h (c x)
theorem Io{p q r s t k l m n:a->b->c->d->e->Prop}(h:∃x y z u v,p x y z u v/\q x y z u v/\r x y z u v/\s x y z u v/\t x y z u v/\k x y z u v/\l x y z u v/\m x y z u v/\n x y z u v)(c:∀x y z u v,p x y z u v->q x y z u v->r x y z u v->s x y z u v->t x y z u v->k x y z u v->l x y z u v->m x y z u v->n x y z u v->P):P:=h.elim fun x h=>h.elim fun y h=>h.elim fun z h=>h.elim fun u h=>h.elim fun v h=>c x y z u v h.1 h.2.1 h.2.2.1 h.2.2.2.1 h.2.2.2.2.1 h.2.2.2.2.2.1 h.2.2.2.2.2.2.1 h.2.2.2.2.2.2.2.1 h.2.2.2.2.2.2.2.2
theorem tr{p q:a->b->c->d->e->f->Prop}(h:∃x y z u v w,p x y z u v w/\q x y z u v w)(c:∀x y z u v w,p x y z u v w->q x y z u v w->P):P:=h.elim fun x h=>h.elim fun y h=>h.elim fun z h=>h.elim fun u h=>h.elim fun v h=>h.elim fun w h=>c x y z u v w h.1 h.2
theorem bB{p q:a->Prop}(x)(h0:p x)(h1:q x):∃x,p x/\q x:=⟨x,h0,h1⟩
theorem eF{p q r:a->Prop}(x)(h0:p x)(h1:q x)(h2:r x):∃x,p x/\q x/\r x:=⟨x,h0,h1,h2⟩
theorem XB{p q r s:a->Prop}(x)(h0:p x)(h1:q x)(h2:r x)(h3:s x):∃x,p x/\q x/\r x/\s x:=⟨x,h0,h1,h2,h3⟩
theorem sY{p:a->b->Prop}(x)(y)(h0:p x y):∃x y,p x y:=⟨x,y,h0⟩
theorem ed{p q:a->b->Prop}(x)(y)(h0:p x y)(h1:q x y):∃x y,p x y/\q x y:=⟨x,y,h0,h1⟩
theorem sX{p q r:a->b->Prop}(x)(y)(h0:p x y)(h1:q x y)(h2:r x y):∃x y,p x y/\q x y/\r x y:=⟨x,y,h0,h1,h2⟩
theorem HX{p q r s:a->b->Prop}(x)(y)(h0:p x y)(h1:q x y)(h2:r x y)(h3:s x y):∃x y,p x y/\q x y/\r x y/\s x y:=⟨x,y,h0,h1,h2,h3⟩
theorem XA{p q:a->b->c->Prop}(x)(y)(z)(h0:p x y z)(h1:q x y z):∃x y z,p x y z/\q x y z:=⟨x,y,z,h0,h1⟩
theorem zK{p q r:a->b->c->Prop}(x)(y)(z)(h0:p x y z)(h1:q x y z)(h2:r x y z):∃x y z,p x y z/\q x y z/\r x y z:=⟨x,y,z,h0,h1,h2⟩
theorem Xz{p q r s:a->b->c->Prop}(x)(y)(z)(h0:p x y z)(h1:q x y z)(h2:r x y z)(h3:s x y z):∃x y z,p x y z/\q x y z/\r x y z/\s x y z:=⟨x,y,z,h0,h1,h2,h3⟩
theorem il{p q r:a->b->c->d->Prop}(x)(y)(z)(u)(h0:p x y z u)(h1:q x y z u)(h2:r x y z u):∃x y z u,p x y z u/\q x y z u/\r x y z u:=⟨x,y,z,u,h0,h1,h2⟩
theorem Xy{p q r s:a->b->c->d->Prop}(x)(y)(z)(u)(h0:p x y z u)(h1:q x y z u)(h2:r x y z u)(h3:s x y z u):∃x y z u,p x y z u/\q x y z u/\r x y z u/\s x y z u:=⟨x,y,z,u,h0,h1,h2,h3⟩
theorem zJ{p q r s t k:a->b->c->d->Prop}(x)(y)(z)(u)(h0:p x y z u)(h1:q x y z u)(h2:r x y z u)(h3:s x y z u)(h4:t x y z u)(h5:k x y z u):∃x y z u,p x y z u/\q x y z u/\r x y z u/\s x y z u/\t x y z u/\k x y z u:=⟨x,y,z,u,h0,h1,h2,h3,h4,h5⟩
theorem Xx{p q r s t k l m:a->b->c->d->Prop}(x)(y)(z)(u)(h0:p x y z u)(h1:q x y z u)(h2:r x y z u)(h3:s x y z u)(h4:t x y z u)(h5:k x y z u)(h6:l x y z u)(h7:m x y z u):∃x y z u,p x y z u/\q x y z u/\r x y z u/\s x y z u/\t x y z u/\k x y z u/\l x y z u/\m x y z u:=⟨x,y,z,u,h0,h1,h2,h3,h4,h5,h6,h7⟩
end
theorem bC{α:Type}{P:α->Prop}(x:α)(h:x∈[]):P x:=(n5 h).elim
noncomputable def sQ{α:Type _}(p:α->Bool)(l:List α):Bool :=
 @List.rec α (fun O=>Bool) false (fun a O ih=>@Bool.rec (fun O=>Bool) ih true (p a)) l
theorem Wd{α:Type _}(p:α->Bool)(l:List α):sQ p l=l.any p:=by
 induction l with
 |nil=>rfl
 |cons a l ih =>
  show @Bool.rec (fun O=>Bool) (sQ p l) true (p a)=_
  rw[List.any_cons,← ih]
  cases p a <;> rfl
noncomputable def zo{α:Type _}(as:Array α)(p:α->Bool)(start stop:Nat):Bool :=
 @Bool.rec (fun O=>Bool) (Array.any as p start stop) (sQ p as.toList) (Nat.beq start 0&&Nat.beq stop as.size)
theorem Wc:@Array.any=@zo:=by
 funext α as p start stop
 unfold zo
 cases h:(Nat.beq start 0&&Nat.beq stop as.size) with
 |false=>rfl
 |true =>
  obtain⟨h1,h2⟩:=Bool.and_eq_true_iff.mp h
  have e1:=Nat.eq_of_beq_eq_true h1
  have e2:=Nat.eq_of_beq_eq_true h2
  subst e1;subst e2
  show _=sQ p as.toList
  rw[Wd,Array.any_toList]
set_option genSizeOf false in set_option genInjectivity false in
inductive ŝ {α:Type _} (a:α):α->Type
 |refl:ŝ a a
theorem ŝ.eq{α:Type _}{a b:α}(h:ŝ a b):a=b:=by cases h;rfl
noncomputable def xS:Σ' F:_->Builtin,ŝ PySem.W.Fast.tw4202317264376624991 (F @Array.any.{0}):=by
 refine⟨?F,?h⟩
 case h =>
  delta PySem.W.Fast.tw4202317264376624991
  generalize @Array.any.{0}=z
  exact .refl
noncomputable def Em:Builtin:=xS.1 @zo.{0}
theorem OV:Builtin.«type.__new__» = Em:=PySem.W.Fast.te4202317264376624991.trans (xS.2.eq.trans (congrArg xS.1 Wc))
noncomputable def ej(id:String):Option Builtin :=
 @Bool.rec (fun O=>Option Builtin) (PySem.W.Fast.tw14364793385576792824 id) (some Em) (Nat.beq (PySem.code id) (PySem.code "type.__new__"))
theorem Jw:treeTable "type.__new__" = some Builtin.«type.__new__» := by kernel_rfl
theorem Jx:treeTable=ej:=by
 funext id
 unfold ej
 cases h:Nat.beq (PySem.code id) (PySem.code "type.__new__") with
 |false=>exact congrFun PySem.W.Fast.te14364793385576792824 id
 |true =>
  have e:=PySem.code_inj _ _ (Nat.eq_of_beq_eq_true h)
  subst e
  exact Jw.trans (congrArg some OV)
noncomputable section
noncomputable abbrev NS(l:List Nat):Str:=⟨⟨l⟩⟩
set_option backward.match.sparseCases false in
noncomputable def bo:Stmt->List Stmt
 |.FunctionDef _ _ b _ _ _ _ _ _ _=>b
 |.ClassDef _ _ _ b _ _ _ _ _ _ _=>b
 |_=>[]
noncomputable def nJ:List Stmt->Nat->Stmt
 | [],_ => .Pass ⟨0,0,0,0⟩
 |s::_,0=>s
 |_::r,n+1=>nJ r n
set_option backward.match.sparseCases false in
 def bV(s:Stmt):Str:=match docOf (bo s) with
 |some d=>d
 |none=>⟨⟨[]⟩⟩
noncomputable abbrev Zo:List Str:=[]
 abbrev q0:Str:=NS [95,119,97,108,108]
 abbrev q1:Str:=NS [107]
 abbrev q2:Str:=NS [95,95,110,97,109,101,95,95]
 abbrev q3:Str:=NS [99,112,121,51,49,51,46,100,105,102,102,108,105,98]
 abbrev q4:Str:=NS [95,116,117,112,108,101,103,101,116,116,101,114]
 abbrev q5:Str:=NS [95,95,105,110,105,116,95,95]
 abbrev q6:Str:=NS [115,101,108,102]
 abbrev q7:Str:=NS [105,110,100,101,120]
 abbrev q8:Str:=NS [100,111,99]
 abbrev q9:Str:=NS [95,95,100,111,99,95,95]
 abbrev kg:Str:=NS [95,95,103,101,116,95,95]
 abbrev pN:Str:=NS [111,98,106]
 abbrev CD:Str:=NS [111,98,106,116,121,112,101]
 abbrev Nu:Str:=NS [105,115,115,117,98,99,108,97,115,115]
 abbrev No:Str:=NS [116,121,112,101]
 abbrev Nm:Str:=NS [116,117,112,108,101]
 abbrev Nh:Str:=NS [95,95,103,101,116,105,116,101,109,95,95]
 abbrev jX:Str:=NS [95,95,115,101,116,95,95]
 abbrev Cw:Str:=NS [118,97,108,117,101]
 abbrev ML:Str:=NS [65,116,116,114,105,98,117,116,101,69,114,114,111,114]
 abbrev jV:Str:=NS [95,95,100,101,108,101,116,101,95,95]
 abbrev eS:Str:=NS [77,97,116,99,104]
 abbrev Mq:Str:=NS [77,97,116,99,104,40,97,44,32,98,44,32,115,105,122,101,41]
 abbrev uT:Str:=NS [95,95,115,108,111,116,115,95,95]
 abbrev uS:Str:=NS [95,102,105,101,108,100,115]
 abbrev dG:Str:=NS [97]
 abbrev du:Str:=NS [98]
 abbrev iE:Str:=NS [115,105,122,101]
 abbrev uR:Str:=NS [95,102,105,101,108,100,95,100,101,102,97,117,108,116,115]
 abbrev jU:Str:=NS [95,95,110,101,119,95,95]
 abbrev Cn:Str:=NS [95,99,108,115]
 abbrev iD:Str:=NS [95,109,97,107,101]
 abbrev Cm:Str:=NS [99,108,115]
 abbrev Cl:Str:=NS [105,116,101,114,97,98,108,101]
 abbrev uQ:Str:=NS [114,101,115,117,108,116]
 abbrev Mp:Str:=NS [108,101,110]
 abbrev Mo:Str:=NS [84,121,112,101,69,114,114,111,114]
 abbrev Mn:Str:=NS [99,108,97,115,115,109,101,116,104,111,100]
 abbrev jT:Str:=NS [95,114,101,112,108,97,99,101]
 abbrev Ck:Str:=NS [107,119,100,115]
 abbrev uP:Str:=NS [95,95,99,108,97,115,115,95,95]
 abbrev Mm:Str:=NS [95,95,108,101,110,95,95]
 abbrev Ml:Str:=NS [112,111,112]
 abbrev Mk:Str:=NS [109,97,112]
 abbrev Mj:Str:=NS [108,105,115,116]
 abbrev uO:Str:=NS [95,95,114,101,112,108,97,99,101,95,95]
 abbrev jS:Str:=NS [95,95,114,101,112,114,95,95]
 abbrev jR:Str:=NS [95,97,115,100,105,99,116]
 abbrev jQ:Str:=NS [95,95,103,101,116,110,101,119,97,114,103,115,95,95]
 abbrev uN:Str:=NS [95,95,109,97,116,99,104,95,97,114,103,115,95,95]
 abbrev gP:Str:=NS [95,99,97,108,99,117,108,97,116,101,95,114,97,116,105,111]
 abbrev uM:Str:=NS [109,97,116,99,104,101,115]
 abbrev pL:Str:=NS [108,101,110,103,116,104]
 abbrev fB:Str:=NS [83,101,113,117,101,110,99,101,77,97,116,99,104,101,114]
 abbrev pK:Str:=NS [105,115,106,117,110,107]
 abbrev uL:Str:=NS [97,117,116,111,106,117,110,107]
 abbrev eQ:Str:=NS []
 abbrev jP:Str:=NS [115,101,116,95,115,101,113,115]
 abbrev jO:Str:=NS [115,101,116,95,115,101,113,49]
 abbrev jN:Str:=NS [115,101,116,95,115,101,113,50]
 abbrev uK:Str:=NS [109,97,116,99,104,105,110,103,95,98,108,111,99,107,115]
 abbrev Cj:Str:=NS [111,112,99,111,100,101,115]
 abbrev Ci:Str:=NS [102,117,108,108,98,99,111,117,110,116]
 abbrev uJ:Str:=NS [95,83,101,113,117,101,110,99,101,77,97,116,99,104,101,114,95,95,99,104,97,105,110,95,98]
 abbrev pJ:Str:=NS [95,95,99,104,97,105,110,95,98]
 abbrev pI:Str:=NS [98,50,106]
 abbrev lX:Str:=NS [105]
 abbrev Ch:Str:=NS [101,108,116]
 abbrev Mi:Str:=NS [101,110,117,109,101,114,97,116,101]
 abbrev Cg:Str:=NS [105,110,100,105,99,101,115]
 abbrev Mh:Str:=NS [115,101,116,100,101,102,97,117,108,116]
 abbrev Mg:Str:=NS [97,112,112,101,110,100]
 abbrev Cf:Str:=NS [98,106,117,110,107]
 abbrev Ce:Str:=NS [106,117,110,107]
 abbrev Mf:Str:=NS [115,101,116]
 abbrev Me:Str:=NS [107,101,121,115]
 abbrev Md:Str:=NS [97,100,100]
 abbrev Cd:Str:=NS [98,112,111,112,117,108,97,114]
 abbrev Cc:Str:=NS [112,111,112,117,108,97,114]
 abbrev lW:Str:=NS [110]
 abbrev Cb:Str:=NS [110,116,101,115,116]
 abbrev Ca:Str:=NS [105,100,120,115]
 abbrev Mc:Str:=NS [105,116,101,109,115]
 abbrev jM:Str:=NS [102,105,110,100,95,108,111,110,103,101,115,116,95,109,97,116,99,104]
 abbrev uI:Str:=NS [97,108,111]
 abbrev uH:Str:=NS [97,104,105]
 abbrev uG:Str:=NS [98,108,111]
 abbrev uF:Str:=NS [98,104,105]
 abbrev BZ:Str:=NS [105,115,98,106,117,110,107]
 abbrev Mb:Str:=NS [95,95,99,111,110,116,97,105,110,115,95,95]
 abbrev BY:Str:=NS [98,101,115,116,105]
 abbrev BX:Str:=NS [98,101,115,116,106]
 abbrev BW:Str:=NS [98,101,115,116,115,105,122,101]
 abbrev BV:Str:=NS [106,50,108,101,110]
 abbrev BU:Str:=NS [110,111,116,104,105,110,103]
 abbrev Ma:Str:=NS [114,97,110,103,101]
 abbrev BS:Str:=NS [106,50,108,101,110,103,101,116]
 abbrev LZ:Str:=NS [103,101,116]
 abbrev BR:Str:=NS [110,101,119,106,50,108,101,110]
 abbrev pH:Str:=NS [106]
 abbrev kf:Str:=NS [103,101,116,95,109,97,116,99,104,105,110,103,95,98,108,111,99,107,115]
 abbrev CM:Str:=NS [108,97]
 abbrev CL:Str:=NS [108,98]
 abbrev CK:Str:=NS [113,117,101,117,101]
 abbrev vy:Str:=NS [120]
 abbrev ND:Str:=NS [115,111,114,116]
 abbrev mf:Str:=NS [105,49]
 abbrev me:Str:=NS [106,49]
 abbrev CJ:Str:=NS [107,49]
 abbrev CI:Str:=NS [110,111,110,95,97,100,106,97,99,101,110,116]
 abbrev mc:Str:=NS [105,50]
 abbrev lZ:Str:=NS [106,50]
 abbrev CH:Str:=NS [107,50]
 abbrev ke:Str:=NS [103,101,116,95,111,112,99,111,100,101,115]
 abbrev CG:Str:=NS [97,110,115,119,101,114]
 abbrev CF:Str:=NS [97,105]
 abbrev CE:Str:=NS [98,106]
 abbrev kd:Str:=NS [116,97,103]
 abbrev NC:Str:=NS [114,101,112,108,97,99,101]
 abbrev NB:Str:=NS [100,101,108,101,116,101]
 abbrev NA:Str:=NS [105,110,115,101,114,116]
 abbrev Nz:Str:=NS [101,113,117,97,108]
 abbrev kc:Str:=NS [103,101,116,95,103,114,111,117,112,101,100,95,111,112,99,111,100,101,115]
 abbrev CC:Str:=NS [99,111,100,101,115]
 abbrev Ny:Str:=NS [109,97,120]
 abbrev Nw:Str:=NS [109,105,110]
 abbrev CB:Str:=NS [110,110]
 abbrev pM:Str:=NS [103,114,111,117,112]
 abbrev kb:Str:=NS [114,97,116,105,111]
 abbrev Nv:Str:=NS [115,117,109]
 abbrev Nt:Str:=NS [116,114,105,112,108,101]
 abbrev Nr:Str:=NS [46,48]
 abbrev jZ:Str:=NS [113,117,105,99,107,95,114,97,116,105,111]
 abbrev jY:Str:=NS [114,101,97,108,95,113,117,105,99,107,95,114,97,116,105,111]
 abbrev iO:Str:=NS [95,102,111,114,109,97,116,95,114,97,110,103,101,95,117,110,105,102,105,101,100]
 abbrev vu:Str:=NS [115,116,97,114,116]
 abbrev vt:Str:=NS [115,116,111,112]
 abbrev vr:Str:=NS [98,101,103,105,110,110,105,110,103]
 abbrev Nq:Str:=NS [123,125]
 abbrev Np:Str:=NS [102,111,114,109,97,116]
 abbrev Nn:Str:=NS [123,125,44,123,125]
 abbrev iN:Str:=NS [117,110,105,102,105,101,100,95,100,105,102,102]
 abbrev vq:Str:=NS [102,114,111,109,102,105,108,101]
 abbrev vp:Str:=NS [116,111,102,105,108,101]
 abbrev vk:Str:=NS [102,114,111,109,102,105,108,101,100,97,116,101]
 abbrev vj:Str:=NS [116,111,102,105,108,101,100,97,116,101]
 abbrev vh:Str:=NS [108,105,110,101,116,101,114,109]
 abbrev vf:Str:=NS [10]
 abbrev iM:Str:=NS [95,99,104,101,99,107,95,116,121,112,101,115]
 abbrev vd:Str:=NS [115,116,97,114,116,101,100]
 abbrev vc:Str:=NS [102,114,111,109,100,97,116,101]
 abbrev Nl:Str:=NS [9,123,125]
 abbrev uZ:Str:=NS [116,111,100,97,116,101]
 abbrev Nk:Str:=NS [45,45,45,32,123,125,123,125,123,125]
 abbrev Nj:Str:=NS [43,43,43,32,123,125,123,125,123,125]
 abbrev uY:Str:=NS [102,105,114,115,116]
 abbrev uX:Str:=NS [108,97,115,116]
 abbrev uW:Str:=NS [102,105,108,101,49,95,114,97,110,103,101]
 abbrev uV:Str:=NS [102,105,108,101,50,95,114,97,110,103,101]
 abbrev Ni:Str:=NS [64,64,32,45,123,125,32,43,123,125,32,64,64,123,125]
 abbrev lY:Str:=NS [108,105,110,101]
 abbrev Ng:Str:=NS [32]
 abbrev Nf:Str:=NS [45]
 abbrev Nd:Str:=NS [43]
 abbrev iL:Str:=NS [95,102,111,114,109,97,116,95,114,97,110,103,101,95,99,111,110,116,101,120,116]
 abbrev iK:Str:=NS [99,111,110,116,101,120,116,95,100,105,102,102]
 abbrev Cz:Str:=NS [112,114,101,102,105,120]
 abbrev Nc:Str:=NS [100,105,99,116]
 abbrev Nb:Str:=NS [43,32]
 abbrev Na:Str:=NS [45,32]
 abbrev MZ:Str:=NS [33,32]
 abbrev MY:Str:=NS [32,32]
 abbrev MX:Str:=NS [42,42,42,32,123,125,123,125,123,125]
 abbrev MW:Str:=NS [42,42,42,42,42,42,42,42,42,42,42,42,42,42,42]
 abbrev MV:Str:=NS [42,42,42,32,123,125,32,42,42,42,42,123,125]
 abbrev MU:Str:=NS [97,110,121]
 abbrev Cy:Str:=NS [95]
 abbrev MT:Str:=NS [45,45,45,32,123,125,32,45,45,45,45,123,125]
 abbrev Cx:Str:=NS [97,114,103,115]
 abbrev MS:Str:=NS [105,115,105,110,115,116,97,110,99,101]
 abbrev MR:Str:=NS [115,116,114]
 abbrev MQ:Str:=NS [32,40]
 abbrev MP:Str:=NS [41]
 abbrev Cv:Str:=NS [97,114,103]
 abbrev iJ:Str:=NS [114,101,115,116,111,114,101]
 abbrev Cu:Str:=NS [100,101,108,116,97]
 abbrev Ct:Str:=NS [119,104,105,99,104]
 abbrev MO:Str:=NS [105,110,116]
 abbrev MN:Str:=NS [75,101,121,69,114,114,111,114]
 abbrev MM:Str:=NS [86,97,108,117,101,69,114,114,111,114]
 abbrev Cs:Str:=NS [112,114,101,102,105,120,101,115]
 abbrev jW:Str:=NS [108,97,119,95,100,109,48,48,52,57,95,48,55]
 abbrev iI:Str:=NS [95,108,97,119,95,108,105,110,101]
 abbrev iH:Str:=NS [95,108,97,119,95,104,97,108,118,101,115]
 abbrev uU:Str:=NS [114,111,119,115]
 abbrev Cr:Str:=NS [112,97,114,116,115]
 abbrev Cq:Str:=NS [104,97,108,102]
 abbrev Cp:Str:=NS [114,111,119]
 abbrev MK:Str:=NS [42,42]
 abbrev MJ:Str:=NS [45,45]
 abbrev MI:Str:=NS [42]
 abbrev MH:Str:=NS [33]
 abbrev MG:Str:=NS [45,43]
 abbrev iG:Str:=NS [95,108,97,119,95,115,105,100,101,115]
 abbrev iF:Str:=NS [108,97,119]
 abbrev MF:Str:=NS [115,99,114,105,112,116]
 abbrev ME:Str:=NS [97,98,115]
 abbrev MD:Str:=NS [45,97]
 abbrev MC:Str:=NS [43,97]
 abbrev MB:Str:=NS [108,105,110,101,115]
 abbrev MA:Str:=NS [101,120,116,101,110,100]
 abbrev Mz:Str:=NS [111,110,101]
 abbrev My:Str:=NS [116,119,111]
 abbrev Mx:Str:=NS [102,117,108,108]
 abbrev Mw:Str:=NS [98,111,100,121]
 abbrev Mv:Str:=NS [110,101,97,114]
 abbrev Mu:Str:=NS [108,101,102,116]
 abbrev Mt:Str:=NS [114,105,103,104,116]
 abbrev Ms:Str:=NS [115,101,99,111,110,100]
 abbrev Mr:Str:=NS [102,97,115,116]
 abbrev aq:Str:=NS [47,99,108,97,105,109,47,99,117,116,46,112,121]
noncomputable def FP(x0 x1 x2 x3 x4 x5 x6 x7 x8 x9 x10 x11 x12 x13 x14 x15 x16 x17 x18 x19 x20 x21 x22 x23 x24 x25 x26 x27 x28 x29 x30 x31 x32 x33 x34 x35 x36 x37 x38 x39 x40 x41 x42 x43 x44 x45 x46 x47 x48 x49 x50 x51 x52 x53 x54 x55 x56 x57 x58 x59 x60 x61 x62 x63 x64 x65 x66 x67 x68 x69 x70 x71 x72 x73 x74 x75 x76 x77 x78 x79 x80 x81 x82 x83 x84 x85 x86 x87 x88 x89 x90 x91 x92 x93 x94 x95 x96 x97 x98 x99 x100 x101 x102 x103 x104 x105 x106 x107 x108 x109 x110 x111 x112 x113 x114 x115 x116 x117 x118 x119 x120 x121 x122 x123 x124 x125 x126 x127 x128 x129 x130 x131 x132 x133 x134 x135 x136 x137 x138 x139 x140 x141 x142 x143 x144 x145 x146 x147 x148 x149 x150 x151 x152 x153 x154 x155 x156 x157 x158 x159 x160 x161 x162 x163 x164 x165 x166 x167 x168 x169 x170 x171 x172 x173 x174 x175 x176 x177 x178 x179 x180 x181 x182 x183 x184 x185 x186 x187 ž Ž ż Ż ź Ź Ÿ ŷ Ŷ ŵ Ŵ ų Ų ű Ű ů Ů ŭ Ŭ ū Ū ũ Ũ ŧ Ŧ ť Ť ţ Ţ š Š ş Ş d:Str):ZJ:=by
 refine' (?f:(p:ZJ)->((∀a b s u p r e1 e2 e3 e4 e5 e6 e7 v,Stmt.ClassDef (Zw "SequenceMatcher") a b (.Expr (.Constant (.str s) u v) p::r) e1 e2 e3 e4 e5 e6 e7=.ClassDef x53 a b (.Expr (.Constant (.str d) u v) p::r) e1 e2 e3 e4 e5 e6 e7)->("_wall":Str)=x0->("k":Str)=x1->("__name__":Str)=x2->("cpy313.difflib":Str)=x3->("_tuplegetter":Str)=x4->("__init__":Str)=x5->("self":Str)=x6->("index":Str)=x7->("doc":Str)=x8->("__doc__":Str)=x9->("__get__":Str)=x10->("obj":Str)=x11->("objtype":Str)=x12->("issubclass":Str)=x13->("type":Str)=x14->("tuple":Str)=x15->("__getitem__":Str)=x16->("__set__":Str)=x17->("value":Str)=x18->("AttributeError":Str)=x19->("__delete__":Str)=x20->("Match":Str)=x21->("Match(a, b, size)":Str)=x22->("__slots__":Str)=x23->("_fields":Str)=x24->("a":Str)=x25->("b":Str)=x26->("size":Str)=x27->("_field_defaults":Str)=x28->("__new__":Str)=x29->("_cls":Str)=x30->("_make":Str)=x31->("cls":Str)=x32->("iterable":Str)=x33->("result":Str)=x34->("len":Str)=x35->("TypeError":Str)=x36->("classmethod":Str)=x37->("_replace":Str)=x38->("kwds":Str)=x39->("__class__":Str)=x40->("__len__":Str)=x41->("pop":Str)=x42->("map":Str)=x43->("list":Str)=x44->("__replace__":Str)=x45->("__repr__":Str)=x46->("_asdict":Str)=x47->("__getnewargs__":Str)=x48->("__match_args__":Str)=x49->("_calculate_ratio":Str)=x50->("matches":Str)=x51->("length":Str)=x52->("SequenceMatcher":Str)=x53->("isjunk":Str)=x54->("autojunk":Str)=x55->("":Str)=x56->("set_seqs":Str)=x57->("set_seq1":Str)=x58->("set_seq2":Str)=x59->("matching_blocks":Str)=x60->("opcodes":Str)=x61->("fullbcount":Str)=x62->("_SequenceMatcher__chain_b":Str)=x63->("__chain_b":Str)=x64->("b2j":Str)=x65->("i":Str)=x66->("elt":Str)=x67->("enumerate":Str)=x68->("indices":Str)=x69->("setdefault":Str)=x70->("append":Str)=x71->("bjunk":Str)=x72->("junk":Str)=x73->("set":Str)=x74->("keys":Str)=x75->("add":Str)=x76->("bpopular":Str)=x77->("popular":Str)=x78->("n":Str)=x79->("ntest":Str)=x80->("idxs":Str)=x81->("items":Str)=x82->("find_longest_match":Str)=x83->("alo":Str)=x84->("ahi":Str)=x85->("blo":Str)=x86->("bhi":Str)=x87->("isbjunk":Str)=x88->("__contains__":Str)=x89->("besti":Str)=x90->("bestj":Str)=x91->("bestsize":Str)=x92->("j2len":Str)=x93->("nothing":Str)=x94->("range":Str)=x95->("j2lenget":Str)=x96->("get":Str)=x97->("newj2len":Str)=x98->("j":Str)=x99->("get_matching_blocks":Str)=x100->("la":Str)=x101->("lb":Str)=x102->("queue":Str)=x103->("x":Str)=x104->("sort":Str)=x105->("i1":Str)=x106->("j1":Str)=x107->("k1":Str)=x108->("non_adjacent":Str)=x109->("i2":Str)=x110->("j2":Str)=x111->("k2":Str)=x112->("get_opcodes":Str)=x113->("answer":Str)=x114->("ai":Str)=x115->("bj":Str)=x116->("tag":Str)=x117->("replace":Str)=x118->("delete":Str)=x119->("insert":Str)=x120->("equal":Str)=x121->("get_grouped_opcodes":Str)=x122->("codes":Str)=x123->("max":Str)=x124->("min":Str)=x125->("nn":Str)=x126->("group":Str)=x127->("ratio":Str)=x128->("sum":Str)=x129->("triple":Str)=x130->(".0":Str)=x131->("quick_ratio":Str)=x132->("real_quick_ratio":Str)=x133->("_format_range_unified":Str)=x134->("start":Str)=x135->("stop":Str)=x136->("beginning":Str)=x137->("{}":Str)=x138->("format":Str)=x139->("{},{}":Str)=x140->("unified_diff":Str)=x141->("fromfile":Str)=x142->("tofile":Str)=x143->("fromfiledate":Str)=x144->("tofiledate":Str)=x145->("lineterm":Str)=x146->("\n":Str)=x147->("_check_types":Str)=x148->("started":Str)=x149->("fromdate":Str)=x150->("\t{}":Str)=x151->("todate":Str)=x152->("--- {}{}{}":Str)=x153->("+++ {}{}{}":Str)=x154->("first":Str)=x155->("last":Str)=x156->("file1_range":Str)=x157->("file2_range":Str)=x158->("@@ -{} +{} @@{}":Str)=x159->("line":Str)=x160->(" ":Str)=x161->("-":Str)=x162->("+":Str)=x163->("_format_range_context":Str)=x164->("context_diff":Str)=x165->("prefix":Str)=x166->("dict":Str)=x167->("+ ":Str)=x168->("- ":Str)=x169->("! ":Str)=x170->("  ":Str)=x171->("*** {}{}{}":Str)=x172->("***************":Str)=x173->("*** {} ****{}":Str)=x174->("any":Str)=x175->("_":Str)=x176->("--- {} ----{}":Str)=x177->("args":Str)=x178->("isinstance":Str)=x179->("str":Str)=x180->(" (":Str)=x181->(")":Str)=x182->("arg":Str)=x183->("restore":Str)=x184->("delta":Str)=x185->("which":Str)=x186->("int":Str)=x187->("KeyError":Str)=ž->("ValueError":Str)=Ž->("prefixes":Str)=ż->("law_dm0049_07":Str)=Ż->("_law_line":Str)=ź->("_law_halves":Str)=Ź->("rows":Str)=Ÿ->("parts":Str)=ŷ->("half":Str)=Ŷ->("row":Str)=ŵ->("**":Str)=Ŵ->("--":Str)=ų->("*":Str)=Ų->("!":Str)=ű->("-+":Str)=Ű->("_law_sides":Str)=ů->("law":Str)=Ů->("script":Str)=ŭ->("abs":Str)=Ŭ->("-a":Str)=ū->("+a":Str)=Ū->("lines":Str)=ũ->("extend":Str)=Ũ->("one":Str)=ŧ->("two":Str)=Ŧ->("full":Str)=ť->("body":Str)=Ť->("near":Str)=ţ->("left":Str)=Ţ->("right":Str)=š->("second":Str)=Š->("fast":Str)=ş->("/claim/cut.py":Str)=Ş->PySem.Challenge.pw_dm0049_07=p)->ZJ) _ ?h
 case h =>
  intro hD
  delta PySem.Challenge.pw_dm0049_07
  rw[hD]
  clear hD
  intros
  refine' Eq.trans (b:=_) ?_ rfl
  simp only[*];rfl
 case f=>exact fun p O=>p
noncomputable def UG:Str:=by
 refine' (?f:(d:Str)->(bV (nJ PySem.Challenge.pw_dm0049_07.main.body 5)=d)->Str) _ ?h
 case h =>
  show Zw _=_
  exact PySem.W.Fast.ofString_ofList _
 case f=>exact fun d O=>d
 def TP:ZJ:=FP q0 q1 q2 q3 q4 q5 q6 q7 q8 q9 kg pN CD Nu No Nm Nh jX Cw ML jV eS Mq uT uS dG du iE uR jU Cn iD Cm Cl uQ Mp Mo Mn jT Ck uP Mm Ml Mk Mj uO jS jR jQ uN gP uM pL fB pK uL eQ jP jO jN uK Cj Ci uJ pJ pI lX Ch Mi Cg Mh Mg Cf Ce Mf Me Md Cd Cc lW Cb Ca Mc jM uI uH uG uF BZ Mb BY BX BW BV BU Ma BS LZ BR pH kf CM CL CK vy ND mf me CJ CI mc lZ CH ke CG CF CE kd NC NB NA Nz kc CC Ny Nw CB pM kb Nv Nt Nr jZ jY iO vu vt vr Nq Np Nn iN vq vp vk vj vh vf iM vd vc Nl uZ Nk Nj uY uX uW uV Ni lY Ng Nf Nd iL iK Cz Nc Nb Na MZ MY MX MW MV MU Cy MT Cx MS MR MQ MP Cv iJ Cu Ct MO MN MM Cs jW iI iH uU Cr Cq Cp MK MJ MI MH MG iG iF MF ME MD MC MB MA Mz My Mx Mw Mv Mu Mt Ms Mr aq UG
theorem pt:PySem.Challenge.pw_dm0049_07=TP:=by
 refine(show PySem.Challenge.pw_dm0049_07=FP "_wall" "k" "__name__" "cpy313.difflib" "_tuplegetter" "__init__" "self" "index" "doc" "__doc__" "__get__" "obj" "objtype" "issubclass" "type" "tuple" "__getitem__" "__set__" "value" "AttributeError" "__delete__" "Match" "Match(a, b, size)" "__slots__" "_fields" "a" "b" "size" "_field_defaults" "__new__" "_cls" "_make" "cls" "iterable" "result" "len" "TypeError" "classmethod" "_replace" "kwds" "__class__" "__len__" "pop" "map" "list" "__replace__" "__repr__" "_asdict" "__getnewargs__" "__match_args__" "_calculate_ratio" "matches" "length" "SequenceMatcher" "isjunk" "autojunk" "" "set_seqs" "set_seq1" "set_seq2" "matching_blocks" "opcodes" "fullbcount" "_SequenceMatcher__chain_b" "__chain_b" "b2j" "i" "elt" "enumerate" "indices" "setdefault" "append" "bjunk" "junk" "set" "keys" "add" "bpopular" "popular" "n" "ntest" "idxs" "items" "find_longest_match" "alo" "ahi" "blo" "bhi" "isbjunk" "__contains__" "besti" "bestj" "bestsize" "j2len" "nothing" "range" "j2lenget" "get" "newj2len" "j" "get_matching_blocks" "la" "lb" "queue" "x" "sort" "i1" "j1" "k1" "non_adjacent" "i2" "j2" "k2" "get_opcodes" "answer" "ai" "bj" "tag" "replace" "delete" "insert" "equal" "get_grouped_opcodes" "codes" "max" "min" "nn" "group" "ratio" "sum" "triple" ".0" "quick_ratio" "real_quick_ratio" "_format_range_unified" "start" "stop" "beginning" "{}" "format" "{},{}" "unified_diff" "fromfile" "tofile" "fromfiledate" "tofiledate" "lineterm" "\n" "_check_types" "started" "fromdate" "\t{}" "todate" "--- {}{}{}" "+++ {}{}{}" "first" "last" "file1_range" "file2_range" "@@ -{} +{} @@{}" "line" " " "-" "+" "_format_range_context" "context_diff" "prefix" "dict" "+ " "- " "! " "  " "*** {}{}{}" "***************" "*** {} ****{}" "any" "_" "--- {} ----{}" "args" "isinstance" "str" " (" ")" "arg" "restore" "delta" "which" "int" "KeyError" "ValueError" "prefixes" "law_dm0049_07" "_law_line" "_law_halves" "rows" "parts" "half" "row" "**" "--" "*" "!" "-+" "_law_sides" "law" "script" "abs" "-a" "+a" "lines" "extend" "one" "two" "full" "body" "near" "left" "right" "second" "fast" "/claim/cut.py" (bV (nJ PySem.Challenge.pw_dm0049_07.main.body 5)) from by kernel_rfl).trans ?_
 unfold TP
 repeat' first |exact PySem.W.Fast.ofString_ofList _ |with_reducible rfl |refine congr ?_ ?_
noncomputable abbrev nd:=BT.node
noncomputable abbrev nl:=BT.nil
noncomputable abbrev nlf(o:Obj):BT:=.node o nl nl
noncomputable def kv(P:Zv)(k:Str)(t:Nat)(v:Value):DictEntry:=⟨PyData.keyHash P k,.str k t,v⟩
set_option backward.match.sparseCases false in
noncomputable def Hg:Stmt->Arguments
 |.FunctionDef _ a _ _ _ _ _ _ _ _=>a
 |_=>⟨[],[],none,[],[],none,[]⟩
set_option backward.match.sparseCases false in
noncomputable def Bs:Stmt->Scope
 |.FunctionDef _ _ _ _ _ _ s _ _ _=>s
 |_=>default
 def aE(i:Nat):Stmt:=nJ TP.main.body i
 def az(i j:Nat):Stmt:=nJ (bo (aE i)) j
noncomputable def aH(st:Stmt)(name qual:Str)(g:b0)(cl:List (Str×b0))(d k doc m:Value)(an:Option b0)(cd ct:Value)(b:b0):A6 :=
 ⟨name,qual,Hg st,.stmts (bo st),Bs st,g,cl,d,k,doc,m,an,cd,ct,b⟩
noncomputable def dT:Life:={}
noncomputable abbrev I(n:Int):Value:=.int n 0
noncomputable abbrev Tu(l:List Value):Obj:=⟨.type "tuple",none,.seq ⟨l⟩ 0,⟨[]⟩⟩
noncomputable abbrev Co(l:List Value):Obj:=⟨.type "code",none,.fields ⟨l⟩,⟨[]⟩⟩
 abbrev cd(a:Str)(n1:Nat)(b:Str)(n2:Nat)(c:Str)(n3 i1 i2 i3 i4 i5 r1:Nat)(t:Bool)(i6 r2:Nat)(x y z:Value)(i7 i8:Nat)(e:Str)(n4:Nat):Obj:=Co [.str a n1,.str b n2,.str c n3,I i1,I i2,I i3,I i4,I i5,.ref r1,.bool t,I i6,.ref r2,.none,x,y,z,I i7,I i8,.str e n4]
noncomputable abbrev Fu(d:A6):Obj:=⟨.type "function",none,.func d,⟨[]⟩⟩
noncomputable abbrev Fn(d:A6):Obj:=⟨.none,none,.func d,⟨[]⟩⟩
noncomputable abbrev Fi(l:List Value):Obj:=⟨.none,none,.fields ⟨l⟩,⟨[]⟩⟩
 abbrev eA(s:Stmt)(z:Str):A6:=aH s z z 0 [] .none .none .none .none none .none .none 0
 def z0:Str:=NS [60,109,111,100,117,108,101,62]
 def z2:Str:=NS [95,95,109,97,105,110,95,95]
 def z6:Str:=NS [95,95,112,97,99,107,97,103,101,95,95]
 def z7:Str:=NS [95,95,108,111,97,100,101,114,95,95]
 def z8:Str:=NS [95,95,115,112,101,99,95,95]
 def z9:Str:=NS [95,95,97,110,110,111,116,97,116,105,111,110,115,95,95]
 def pd:Str:=NS [95,95,98,117,105,108,116,105,110,115,95,95]
 def oZ:Str:=NS [95,95,102,105,108,101,95,95]
 def oY:Str:=NS [95,95,99,97,99,104,101,100,95,95]
 def io:Str:=NS [95,95,109,111,100,117,108,101,95,95]
 def oX:Str:=NS [95,95,113,117,97,108,110,97,109,101,95,95]
 def jA:Str:=NS [95,95,102,105,114,115,116,108,105,110,101,110,111,95,95]
 def jz:Str:=NS [95,95,115,116,97,116,105,99,95,97,116,116,114,105,98,117,116,101,115,95,95]
 def tJ:Str:=NS [95,116,117,112,108,101,103,101,116,116,101,114,46,95,95,105,110,105,116,95,95]
 def tI:Str:=NS [95,116,117,112,108,101,103,101,116,116,101,114,46,95,95,103,101,116,95,95]
 def tH:Str:=NS [95,116,117,112,108,101,103,101,116,116,101,114,46,95,95,115,101,116,95,95]
 def tG:Str:=NS [95,116,117,112,108,101,103,101,116,116,101,114,46,95,95,100,101,108,101,116,101,95,95]
 def oW:Str:=NS [95,95,100,105,99,116,95,95]
 def oV:Str:=NS [95,95,119,101,97,107,114,101,102,95,95]
 def Iy:Str:=NS [95,95,99,108,97,115,115,99,101,108,108,95,95]
 def tF:Str:=NS [77,97,116,99,104,46,95,95,110,101,119,95,95]
 def oU:Str:=NS [77,97,116,99,104,46,95,109,97,107,101]
 def tE:Str:=NS [77,97,116,99,104,46,95,114,101,112,108,97,99,101]
 def tD:Str:=NS [77,97,116,99,104,46,95,95,114,101,112,114,95,95]
 def tC:Str:=NS [77,97,116,99,104,46,95,97,115,100,105,99,116]
 def tB:Str:=NS [77,97,116,99,104,46,95,95,103,101,116,110,101,119,97,114,103,115,95,95]
 def Ag:Str:=NS [65,108,105,97,115,32,102,111,114,32,102,105,101,108,100,32,110,117,109,98,101,114,32,48]
 def Af:Str:=NS [65,108,105,97,115,32,102,111,114,32,102,105,101,108,100,32,110,117,109,98,101,114,32,49]
 def Ae:Str:=NS [65,108,105,97,115,32,102,111,114,32,102,105,101,108,100,32,110,117,109,98,101,114,32,50]
 def tA:Str:=NS [83,101,113,117,101,110,99,101,77,97,116,99,104,101,114,46,95,95,105,110,105,116,95,95]
 def tz:Str:=NS [83,101,113,117,101,110,99,101,77,97,116,99,104,101,114,46,115,101,116,95,115,101,113,115]
 def ty:Str:=NS [83,101,113,117,101,110,99,101,77,97,116,99,104,101,114,46,115,101,116,95,115,101,113,49]
 def tx:Str:=NS [83,101,113,117,101,110,99,101,77,97,116,99,104,101,114,46,115,101,116,95,115,101,113,50]
 def tw:Str:=NS [83,101,113,117,101,110,99,101,77,97,116,99,104,101,114,46,95,95,99,104,97,105,110,95,98]
 def tQ:Str:=NS [83,101,113,117,101,110,99,101,77,97,116,99,104,101,114,46,102,105,110,100,95,108,111,110,103,101,115,116,95,109,97,116,99,104]
 def tP:Str:=NS [83,101,113,117,101,110,99,101,77,97,116,99,104,101,114,46,103,101,116,95,109,97,116,99,104,105,110,103,95,98,108,111,99,107,115]
 def tO:Str:=NS [83,101,113,117,101,110,99,101,77,97,116,99,104,101,114,46,103,101,116,95,111,112,99,111,100,101,115]
 def tN:Str:=NS [83,101,113,117,101,110,99,101,77,97,116,99,104,101,114,46,103,101,116,95,103,114,111,117,112,101,100,95,111,112,99,111,100,101,115]
 def tM:Str:=NS [83,101,113,117,101,110,99,101,77,97,116,99,104,101,114,46,114,97,116,105,111]
 def tL:Str:=NS [83,101,113,117,101,110,99,101,77,97,116,99,104,101,114,46,113,117,105,99,107,95,114,97,116,105,111]
 def tK:Str:=NS [83,101,113,117,101,110,99,101,77,97,116,99,104,101,114,46,114,101,97,108,95,113,117,105,99,107,95,114,97,116,105,111]
 def kC(P:Zv):Obj:=Tu []
 def OS(P:Zv):Obj:=Fi []
 def kB(P:Zv):Obj:=cd z0 182 z0 183 aq 184 1 0 0 0 0 11 false 181 12 .none .none .none 185 1 aq 186
 def kz(P:Zv):Obj:=⟨(.type "frame"),none,.plain,⟨[some (.ref 13),some (.ref 3),some (.ref 3),none,some (.str z2 164),none,some (.ref 0)]⟩⟩
 def o3(P:Zv):Obj:=⟨(.type "dict"),none,.dict ⟨[kv P q2 165 (.str q3 194),kv P q9 166 .none,kv P z6 167 .none,kv P z7 168 (.builtin "__main__.__loader__#opaque"),kv P z8 169 .none,kv P z9 170 (.ref 6),kv P pd 171 (.ref 4),kv P oZ 173 (.str aq 172),kv P oY 174 .none,kv P q0 193 (.ref 21),kv P q4 252 (.ref 60)]⟩ 11,⟨[]⟩⟩
 def OR(P:Zv):Obj:=Fi [(I 1),(I 0),(.ref 20),(I 5),(I 0),(.ref 27)]
 def nI(P:Zv):Obj:=Tu []
 def nH(P:Zv):Obj:=Fi []
 def nG(P:Zv):Obj:=Tu [(.str q1 190)]
 def nF(P:Zv):Obj:=Tu []
 def nE(P:Zv):Obj:=Fn (eA (aE 0) q0)
 def nD(P:Zv):Obj:=cd q0 187 q0 188 aq 189 1 1 0 0 3 15 true 181 16 (.ref 17) (.ref 18) (.ref 19) 191 1 aq 192
 def nC(P:Zv):Obj:=Fu (aH (aE 0) q0 q0 3 [] .none .none .none (.str z2 164) none (.ref 20) .none 0)
 def nB(P:Zv):Obj:=Tu []
noncomputable def nz(P:Zv):Obj:=⟨(.type "builtin_function_or_method"),none,.fields ⟨[(.builtin "type.__prepare__"),(.type "type")]⟩,⟨[]⟩⟩
 def ny(P:Zv):Obj:=⟨(.type "dict"),none,.dict ⟨[kv P io 203 (.str q3 194),kv P oX 205 (.str q4 204),kv P jA 207 (.int 5 206),kv P q5 216 (.ref 35),kv P kg 225 (.ref 43),kv P jX 234 (.ref 50),kv P jV 242 (.ref 57),kv P jz 245 (.ref 58)]⟩ 8,⟨[]⟩⟩
 def nx(P:Zv):Obj:=Tu []
 def nw(P:Zv):Obj:=Fi [(I 7),(I 4),(.ref 34),(I 11),(I 4),(.ref 42),(I 18),(I 4),(.ref 49),(I 21),(I 4),(.ref 56)]
 def nv(P:Zv):Obj:=cd q4 198 q4 199 aq 200 5 0 0 0 0 25 false 181 26 .none .none .none 201 5 aq 202
 def nq(P:Zv):Obj:=⟨(.type "frame"),none,.plain,⟨[some (.ref 27),some (.ref 3),some (.ref 24),none,some (.str q3 194),none,some (.ref 0)]⟩⟩
 def nk(P:Zv):Obj:=Tu []
 def ni(P:Zv):Obj:=Fi []
 def nh(P:Zv):Obj:=Tu [(.str q6 211),(.str q7 212),(.str q8 213)]
 def ng(P:Zv):Obj:=Tu []
 def nf(P:Zv):Obj:=Fn (aH (az 2 0) q5 tJ 0 [] .none .none .none .none none .none .none 0)
 def nc(P:Zv):Obj:=cd q5 208 tJ 209 aq 210 7 3 0 0 3 29 true 181 30 (.ref 31) (.ref 32) (.ref 33) 214 7 aq 215
 def nb(P:Zv):Obj:=Fu (aH (az 2 0) q5 tJ 3 [] .none .none .none (.str q3 194) none (.ref 34) .none 0)
 def mZ(P:Zv):Obj:=Tu [.none]
 def mY(P:Zv):Obj:=Tu []
 def mX(P:Zv):Obj:=Fi []
 def mW(P:Zv):Obj:=Tu [(.str q6 220),(.str pN 221),(.str CD 222)]
 def mV(P:Zv):Obj:=Tu []
 def mU(P:Zv):Obj:=Fn (aH (az 2 1) kg tI 0 [] .none .none .none .none none .none .none 0)
 def mS(P:Zv):Obj:=cd kg 217 tI 218 aq 219 11 3 0 0 3 37 true 181 38 (.ref 39) (.ref 40) (.ref 41) 223 11 aq 224
 def mR(P:Zv):Obj:=Fu (aH (az 2 1) kg tI 3 [] (.ref 36) .none .none (.str q3 194) none (.ref 42) .none 0)
 def mQ(P:Zv):Obj:=Tu []
 def mP(P:Zv):Obj:=Fi []
 def mO(P:Zv):Obj:=Tu [(.str q6 229),(.str pN 230),(.str Cw 231)]
 def mN(P:Zv):Obj:=Tu []
 def mM(P:Zv):Obj:=Fn (aH (az 2 2) jX tH 0 [] .none .none .none .none none .none .none 0)
 def mL(P:Zv):Obj:=cd jX 226 tH 227 aq 228 18 3 0 0 3 44 true 181 45 (.ref 46) (.ref 47) (.ref 48) 232 18 aq 233
 def mK(P:Zv):Obj:=Fu (aH (az 2 2) jX tH 3 [] .none .none .none (.str q3 194) none (.ref 49) .none 0)
 def mJ(P:Zv):Obj:=Tu []
 def mI(P:Zv):Obj:=Fi []
 def mH(P:Zv):Obj:=Tu [(.str q6 238),(.str pN 239)]
 def mG(P:Zv):Obj:=Tu []
 def mF(P:Zv):Obj:=Fn (aH (az 2 3) jV tG 0 [] .none .none .none .none none .none .none 0)
 def mE(P:Zv):Obj:=cd jV 235 tG 236 aq 237 21 2 0 0 3 51 true 181 52 (.ref 53) (.ref 54) (.ref 55) 240 21 aq 241
 def mD(P:Zv):Obj:=Fu (aH (az 2 3) jV tG 3 [] .none .none .none (.str q3 194) none (.ref 56) .none 0)
 def mC(P:Zv):Obj:=Tu [(.str q9 243),(.str q7 244)]
 def mz(P:Zv):Obj:=⟨(.type "dict"),none,.dict ⟨[kv P io 203 (.str q3 194),kv P jA 207 (.int 5 206),kv P q5 216 (.ref 35),kv P kg 225 (.ref 43),kv P jX 234 (.ref 50),kv P jV 242 (.ref 57),kv P jz 245 (.ref 58),kv P oW 247 (.ref 61),kv P oV 249 (.ref 62),kv P q9 250 .none]⟩ 4,⟨[]⟩⟩
 def my(P:Zv):Obj:=⟨(.type "type"),none,.cls ⟨q4,[(.type "object")],[(.ref 60),(.type "object")],59,q4,true,[],[],false,none,false⟩,⟨[none,none,some (.str q4 196),some (.str q4 204),some (.builtin "object.__new__"),some (.bool true)]⟩⟩
 def mw(P:Zv):Obj:=⟨(.type "getset_descriptor"),none,.fields ⟨[(.str oW 246),(.ref 60),(.builtin "function.__dict__"),(.builtin "function.__dict__#set")]⟩,⟨[]⟩⟩
 def mu(P:Zv):Obj:=⟨(.type "getset_descriptor"),none,.fields ⟨[(.str oV 248),(.ref 60),(.builtin "ExceptionGroup.__weakref__"),.none]⟩,⟨[]⟩⟩
noncomputable def mt(P:Zv):Obj:=⟨(.type "super"),none,.fields ⟨[(.ref 60),(.ref 60),(.ref 60)]⟩,⟨[]⟩⟩
noncomputable def mr(P:Zv):Obj:=⟨(.type "builtin_function_or_method"),none,.fields ⟨[(.builtin "object.__init_subclass__"),(.ref 60)]⟩,⟨[]⟩⟩
 def OO(P:Zv):Obj:=⟨(.type "dict"),none,.dict ⟨[kv P q2 165 (.str q3 194),kv P q9 166 .none,kv P z6 167 .none,kv P z7 168 (.builtin "__main__.__loader__#opaque"),kv P z8 169 .none,kv P z9 170 (.ref 6),kv P pd 171 (.ref 4),kv P oZ 173 (.str aq 172),kv P oY 174 .none,kv P q0 193 (.ref 21),kv P q4 252 (.ref 60),kv P eS 380 (.ref 135)]⟩ 12,⟨[]⟩⟩
 def OQ(P:Zv):Obj:=Fi [(I 1),(I 0),(.ref 20),(I 5),(I 0),(.ref 27),(I 23),(I 0),(.ref 71)]
 def qE(P:Zv):Obj:=Tu [(.type "tuple")]
noncomputable def qD(P:Zv):Obj:=⟨(.type "builtin_function_or_method"),none,.fields ⟨[(.builtin "type.__prepare__"),(.type "type")]⟩,⟨[]⟩⟩
 def qC(P:Zv):Obj:=⟨(.type "dict"),none,.dict ⟨[kv P io 260 (.str q3 194),kv P oX 262 (.str eS 261),kv P jA 264 (.int 23 263),kv P q9 266 (.str (bV (aE 3)) 265),kv P uT 268 (.ref 73),kv P uS 272 (.ref 74),kv P uR 273 (.ref 75),kv P jU 284 (.ref 82),kv P iD 306 (.ref 91),kv P jT 317 (.ref 100),kv P uO 318 (.ref 100),kv P jS 326 (.ref 107),kv P jR 333 (.ref 114),kv P jQ 341 (.ref 121),kv P uN 345 (.ref 122),kv P dG 355 (.ref 124),kv P du 365 (.ref 127),kv P iE 375 (.ref 130),kv P jz 376 (.ref 132),kv P Iy 377 (.ref 68)]⟩ 20,⟨[]⟩⟩
noncomputable def qB(P:Zv):Obj:=⟨(.type "cell"),none,.cell (some (.ref 135)),⟨[]⟩⟩
 def qA(P:Zv):Obj:=Tu []
 def qz(P:Zv):Obj:=Fi [(I 29),(I 4),(.ref 81),(I 34),(I 4),(.ref 88),(I 41),(I 4),(.ref 99),(I 52),(I 4),(.ref 106),(I 56),(I 4),(.ref 113),(I 59),(I 4),(.ref 120)]
 def qy(P:Zv):Obj:=cd eS 255 eS 256 aq 257 23 0 0 0 0 69 false 181 70 .none .none .none 258 23 aq 259
 def qx(P:Zv):Obj:=⟨(.type "frame"),none,.plain,⟨[some (.ref 71),some (.ref 3),some (.ref 67),none,some (.str q3 194),none,some (.ref 0)]⟩⟩
 def qw(P:Zv):Obj:=Tu []
 def qt(P:Zv):Obj:=Tu [(.str dG 269),(.str du 270),(.str iE 271)]
noncomputable def qr(P:Zv):Obj:=⟨(.type "dict"),none,.dict ⟨[]⟩ 0,⟨[]⟩⟩
 def qq(P:Zv):Obj:=Tu []
 def qp(P:Zv):Obj:=Fi []
 def qo(P:Zv):Obj:=Tu [(.str Cn 277),(.str dG 278),(.str du 279),(.str iE 280)]
 def qm(P:Zv):Obj:=Tu []
 def ql(P:Zv):Obj:=Fn (aH (az 3 4) jU tF 0 [] .none .none .none .none none .none .none 0)
 def mq(P:Zv):Obj:=cd jU 274 tF 275 aq 276 29 4 0 0 3 76 true 181 77 (.ref 78) (.ref 79) (.ref 80) 281 29 aq 282
 def gS(P:Zv):Obj:=Fu (aH (az 3 4) jU tF 3 [] .none .none (.str (bV (az 3 4)) 283) (.str q3 194) none (.ref 81) .none 0)
 def qk(P:Zv):Obj:=Tu []
 def qh(P:Zv):Obj:=Fi []
 def qg(P:Zv):Obj:=Tu [(.str Cm 288),(.str Cl 289),(.str uQ 290)]
 def qf(P:Zv):Obj:=Tu []
 def qe(P:Zv):Obj:=Fn (aH (az 3 5) iD oU 0 [] .none .none .none .none none .none .none 0)
 def mo(P:Zv):Obj:=cd iD 285 oU 286 aq 287 33 2 0 0 3 83 true 181 84 (.ref 85) (.ref 86) (.ref 87) 291 33 aq 292
 def gR(P:Zv):Obj:=Fu (aH (az 3 5) iD oU 3 [] .none .none (.str (bV (az 3 5)) 293) (.str q3 194) (some 92) (.ref 88) .none 0)
 def qd(P:Zv):Obj:=⟨(.type "dict"),none,.dict ⟨[kv P io 295 (.str q3 194),kv P q2 298 (.str iD 297),kv P oX 301 (.str oU 300),kv P q9 303 (.str (bV (az 3 5)) 293),kv P z9 305 (.ref 92)]⟩ 5,⟨[]⟩⟩
noncomputable def qc(P:Zv):Obj:=⟨(.type "classmethod"),some 90,.fields ⟨[(.ref 89),(.bool false)]⟩,⟨[]⟩⟩
noncomputable def qb(P:Zv):Obj:=⟨(.type "dict"),none,.dict ⟨[]⟩ 0,⟨[]⟩⟩
 def pZ(P:Zv):Obj:=Tu [(.ref 68)]
 def pY(P:Zv):Obj:=Tu [(.str uP 310)]
 def pX(P:Zv):Obj:=Fi []
 def pW(P:Zv):Obj:=Tu [(.str q6 311),(.str Ck 312),(.str uQ 313)]
 def pV(P:Zv):Obj:=Tu []
 def pU(P:Zv):Obj:=Fn (aH (az 3 6) jT tE 0 [] .none .none .none .none none .none .none 0)
 def pT(P:Zv):Obj:=cd jT 307 tE 308 aq 309 41 1 1 0 11 94 true 181 95 (.ref 96) (.ref 97) (.ref 98) 314 41 aq 315
 def rJ(P:Zv):Obj:=Fu (aH (az 3 6) jT tE 3 [(uP,68)] .none .none (.str (bV (az 3 6)) 316) (.str q3 194) none (.ref 99) (.ref 93) 0)
 def rI(P:Zv):Obj:=Tu []
 def rH(P:Zv):Obj:=Fi []
 def rG(P:Zv):Obj:=Tu [(.str q6 322)]
 def rF(P:Zv):Obj:=Tu []
 def rE(P:Zv):Obj:=Fn (aH (az 3 8) jS tD 0 [] .none .none .none .none none .none .none 0)
 def rD(P:Zv):Obj:=cd jS 319 tD 320 aq 321 52 1 0 0 3 101 true 181 102 (.ref 103) (.ref 104) (.ref 105) 323 52 aq 324
 def rC(P:Zv):Obj:=Fu (aH (az 3 8) jS tD 3 [] .none .none (.str (bV (az 3 8)) 325) (.str q3 194) none (.ref 106) .none 0)
 def rB(P:Zv):Obj:=Tu []
 def rA(P:Zv):Obj:=Fi []
 def rz(P:Zv):Obj:=Tu [(.str q6 330)]
 def ry(P:Zv):Obj:=Tu []
 def rx(P:Zv):Obj:=Fn (aH (az 3 9) jR tC 0 [] .none .none .none .none none .none .none 0)
 def rv(P:Zv):Obj:=cd jR 327 tC 328 aq 329 56 1 0 0 3 108 true 181 109 (.ref 110) (.ref 111) (.ref 112) 331 56 aq 332
 def ru(P:Zv):Obj:=Fu (aH (az 3 9) jR tC 3 [] .none .none .none (.str q3 194) none (.ref 113) .none 0)
 def rr(P:Zv):Obj:=Tu []
 def rq(P:Zv):Obj:=Fi []
 def rp(P:Zv):Obj:=Tu [(.str q6 337)]
 def ro(P:Zv):Obj:=Tu []
 def rn(P:Zv):Obj:=Fn (aH (az 3 10) jQ tB 0 [] .none .none .none .none none .none .none 0)
 def rl(P:Zv):Obj:=cd jQ 334 tB 335 aq 336 59 1 0 0 3 115 true 181 116 (.ref 117) (.ref 118) (.ref 119) 338 59 aq 339
 def rj(P:Zv):Obj:=Fu (aH (az 3 10) jQ tB 3 [] .none .none (.str (bV (az 3 10)) 340) (.str q3 194) none (.ref 120) .none 0)
 def ri(P:Zv):Obj:=Tu [(.str dG 342),(.str du 343),(.str iE 344)]
 def rh(P:Zv):Obj:=⟨(.type "dict"),none,.dict ⟨[kv P q7 352 (.int 0 346),kv P q9 354 (.str Ag 347)]⟩ 2,⟨[]⟩⟩
noncomputable def rg(P:Zv):Obj:=⟨(.ref 60),some 123,.plain,⟨[]⟩⟩
 def rf(P:Zv):Obj:=⟨(.type "frame"),none,.dict ⟨[kv P q6 348 (.ref 124),kv P q7 349 (.int 0 346),kv P q8 350 (.str Ag 347)]⟩ 3,⟨[]⟩⟩
 def re(P:Zv):Obj:=⟨(.type "dict"),none,.dict ⟨[kv P q7 362 (.int 1 356),kv P q9 364 (.str Af 357)]⟩ 2,⟨[]⟩⟩
noncomputable def rd(P:Zv):Obj:=⟨(.ref 60),some 126,.plain,⟨[]⟩⟩
 def rc(P:Zv):Obj:=⟨(.type "frame"),none,.dict ⟨[kv P q6 358 (.ref 127),kv P q7 359 (.int 1 356),kv P q8 360 (.str Af 357)]⟩ 3,⟨[]⟩⟩
 def rb(P:Zv):Obj:=⟨(.type "dict"),none,.dict ⟨[kv P q7 372 (.int 2 366),kv P q9 374 (.str Ae 367)]⟩ 2,⟨[]⟩⟩
noncomputable def qZ(P:Zv):Obj:=⟨(.ref 60),some 129,.plain,⟨[]⟩⟩
 def qY(P:Zv):Obj:=⟨(.type "frame"),none,.dict ⟨[kv P q6 368 (.ref 130),kv P q7 369 (.int 2 366),kv P q8 370 (.str Ae 367)]⟩ 3,⟨[]⟩⟩
 def qX(P:Zv):Obj:=Tu []
noncomputable def qW(P:Zv):Obj:=⟨(.type "list"),none,.seq ⟨[]⟩ 0,⟨[]⟩⟩
 def qU(P:Zv):Obj:=⟨(.type "dict"),none,.dict ⟨[kv P io 260 (.str q3 194),kv P jA 264 (.int 23 263),kv P q9 266 (.str (bV (aE 3)) 265),kv P uT 268 (.ref 73),kv P uS 272 (.ref 74),kv P uR 273 (.ref 75),kv P jU 284 (.ref 136),kv P iD 306 (.ref 91),kv P jT 317 (.ref 100),kv P uO 318 (.ref 100),kv P jS 326 (.ref 107),kv P jR 333 (.ref 114),kv P jQ 341 (.ref 121),kv P uN 345 (.ref 122),kv P dG 355 (.ref 124),kv P du 365 (.ref 127),kv P iE 375 (.ref 130),kv P jz 376 (.ref 132)]⟩ 2,⟨[]⟩⟩
 def kA(P:Zv):Obj:=⟨(.type "type"),none,.cls ⟨eS,[(.type "tuple")],[(.ref 135),(.type "tuple"),(.type "object")],134,eS,false,[],[],false,none,false⟩,⟨[some (.ref 65),none,some (.str eS 253),some (.str eS 261),some .none,some (.bool false)]⟩⟩
noncomputable def qS(P:Zv):Obj:=⟨(.type "staticmethod"),none,.fields ⟨[(.ref 82)]⟩,⟨[]⟩⟩
noncomputable def qR(P:Zv):Obj:=⟨(.type "super"),none,.fields ⟨[(.ref 135),(.ref 135),(.ref 135)]⟩,⟨[]⟩⟩
noncomputable def qQ(P:Zv):Obj:=⟨(.type "builtin_function_or_method"),none,.fields ⟨[(.builtin "object.__init_subclass__"),(.ref 135)]⟩,⟨[]⟩⟩
 def ON(P:Zv):Obj:=⟨(.type "dict"),none,.dict ⟨[kv P q2 165 (.str q3 194),kv P q9 166 .none,kv P z6 167 .none,kv P z7 168 (.builtin "__main__.__loader__#opaque"),kv P z8 169 .none,kv P z9 170 (.ref 6),kv P pd 171 (.ref 4),kv P oZ 173 (.str aq 172),kv P oY 174 .none,kv P q0 193 (.ref 21),kv P q4 252 (.ref 60),kv P eS 380 (.ref 135),kv P gP 388 (.ref 145),kv P fB 591 (.ref 242)]⟩ 14,⟨[]⟩⟩
 def OP(P:Zv):Obj:=Fi [(I 1),(I 0),(.ref 20),(I 5),(I 0),(.ref 27),(I 23),(I 0),(.ref 71),(I 66),(I 0),(.ref 144),(I 70),(I 0),(.ref 151)]
 def xM(P:Zv):Obj:=Tu []
 def xL(P:Zv):Obj:=Fi []
 def xK(P:Zv):Obj:=Tu [(.str uM 384),(.str pL 385)]
 def xJ(P:Zv):Obj:=Tu []
 def xI(P:Zv):Obj:=Fn (eA (aE 4) gP)
 def xH(P:Zv):Obj:=cd gP 381 gP 382 aq 383 66 2 0 0 3 139 true 181 140 (.ref 141) (.ref 142) (.ref 143) 386 66 aq 387
 def xG(P:Zv):Obj:=Fu (aH (aE 4) gP gP 3 [] .none .none .none (.str q3 194) none (.ref 144) .none 0)
 def xF(P:Zv):Obj:=Tu []
noncomputable def xE(P:Zv):Obj:=⟨(.type "builtin_function_or_method"),none,.fields ⟨[(.builtin "type.__prepare__"),(.type "type")]⟩,⟨[]⟩⟩
 def xD(P:Zv):Obj:=⟨(.type "dict"),none,.dict ⟨[kv P io 396 (.str q3 194),kv P oX 398 (.str fB 397),kv P jA 400 (.int 70 399),kv P q9 402 (.str (bV (aE 5)) 401),kv P q5 417 (.ref 160),kv P jP 427 (.ref 167),kv P jO 436 (.ref 174),kv P jN 445 (.ref 181),kv P uJ 463 (.ref 188),kv P jM 491 (.ref 196),kv P kf 518 (.ref 203),kv P ke 533 (.ref 210),kv P kc 551 (.ref 218),kv P kb 560 (.ref 225),kv P jZ 567 (.ref 232),kv P jY 574 (.ref 239),kv P jz 585 (.ref 240)]⟩ 17,⟨[]⟩⟩
 def xC(P:Zv):Obj:=Tu []
 def xB(P:Zv):Obj:=Fi [(I 145),(I 4),(.ref 159),(I 173),(I 4),(.ref 166),(I 184),(I 4),(.ref 173),(I 209),(I 4),(.ref 180),(I 236),(I 4),(.ref 187),(I 260),(I 4),(.ref 195),(I 335),(I 4),(.ref 202),(I 383),(I 4),(.ref 209),(I 430),(I 4),(.ref 217),(I 475),(I 4),(.ref 224),(I 499),(I 4),(.ref 231),(I 502),(I 4),(.ref 238)]
 def xA(P:Zv):Obj:=cd fB 391 fB 392 aq 393 70 0 0 0 0 149 false 181 150 .none .none .none 394 70 aq 395
 def xz(P:Zv):Obj:=⟨(.type "frame"),none,.plain,⟨[some (.ref 151),some (.ref 3),some (.ref 148),none,some (.str q3 194),none,some (.ref 0)]⟩⟩
 def xy(P:Zv):Obj:=Tu [.none,(.str eQ 404),(.str eQ 405),(.bool true)]
 def xx(P:Zv):Obj:=Tu []
 def xw(P:Zv):Obj:=Fi []
 def xv(P:Zv):Obj:=Tu [(.str q6 409),(.str pK 410),(.str dG 411),(.str du 412),(.str uL 413)]
 def xu(P:Zv):Obj:=Tu []
 def xt(P:Zv):Obj:=Fn (aH (az 5 1) q5 tA 0 [] .none .none .none .none none .none .none 0)
 def qP(P:Zv):Obj:=cd q5 406 tA 407 aq 408 145 5 0 0 3 154 true 181 155 (.ref 156) (.ref 157) (.ref 158) 414 145 aq 415
 def jc(P:Zv):Obj:=Fu (aH (az 5 1) q5 tA 3 [] (.ref 153) .none (.str (bV (az 5 1)) 416) (.str q3 194) none (.ref 159) .none 0)
 def xq(P:Zv):Obj:=Tu []
 def xp(P:Zv):Obj:=Fi []
 def xo(P:Zv):Obj:=Tu [(.str q6 421),(.str dG 422),(.str du 423)]
 def xn(P:Zv):Obj:=Tu []
 def xm(P:Zv):Obj:=Fn (aH (az 5 2) jP tz 0 [] .none .none .none .none none .none .none 0)
 def qO(P:Zv):Obj:=cd jP 418 tz 419 aq 420 173 3 0 0 3 161 true 181 162 (.ref 163) (.ref 164) (.ref 165) 424 173 aq 425
 def iZ(P:Zv):Obj:=Fu (aH (az 5 2) jP tz 3 [] .none .none (.str (bV (az 5 2)) 426) (.str q3 194) none (.ref 166) .none 0)
 def xl(P:Zv):Obj:=Tu []
 def xj(P:Zv):Obj:=Fi []
 def xi(P:Zv):Obj:=Tu [(.str q6 431),(.str dG 432)]
 def xh(P:Zv):Obj:=Tu []
 def xg(P:Zv):Obj:=Fn (aH (az 5 3) jO ty 0 [] .none .none .none .none none .none .none 0)
 def qN(P:Zv):Obj:=cd jO 428 ty 429 aq 430 184 2 0 0 3 168 true 181 169 (.ref 170) (.ref 171) (.ref 172) 433 184 aq 434
 def iY(P:Zv):Obj:=Fu (aH (az 5 3) jO ty 3 [] .none .none (.str (bV (az 5 3)) 435) (.str q3 194) none (.ref 173) .none 0)
 def xf(P:Zv):Obj:=Tu []
 def xe(P:Zv):Obj:=Fi []
 def xc(P:Zv):Obj:=Tu [(.str q6 440),(.str du 441)]
 def xb(P:Zv):Obj:=Tu []
 def xa(P:Zv):Obj:=Fn (aH (az 5 4) jN tx 0 [] .none .none .none .none none .none .none 0)
 def qM(P:Zv):Obj:=cd jN 437 tx 438 aq 439 209 2 0 0 3 175 true 181 176 (.ref 177) (.ref 178) (.ref 179) 442 209 aq 443
 def iX(P:Zv):Obj:=Fu (aH (az 5 4) jN tx 3 [] .none .none (.str (bV (az 5 4)) 444) (.str q3 194) none (.ref 180) .none 0)
 def wZ(P:Zv):Obj:=Tu []
 def wY(P:Zv):Obj:=Fi []
 def wX(P:Zv):Obj:=Tu [(.str q6 449),(.str du 450),(.str pI 451),(.str lX 452),(.str Ch 453),(.str Cg 454),(.str Ce 455),(.str pK 456),(.str Cc 457),(.str lW 458),(.str Cb 459),(.str Ca 460)]
 def wW(P:Zv):Obj:=Tu []
 def wV(P:Zv):Obj:=Fn (aH (az 5 5) pJ tw 0 [] .none .none .none .none none .none .none 0)
 def qL(P:Zv):Obj:=cd pJ 446 tw 447 aq 448 236 1 0 0 3 182 true 181 183 (.ref 184) (.ref 185) (.ref 186) 461 236 aq 462
 def iW(P:Zv):Obj:=Fu (aH (az 5 5) pJ tw 3 [] .none .none .none (.str q3 194) none (.ref 187) .none 0)
 def wU(P:Zv):Obj:=Tu [(.int 0 464),.none,(.int 0 465),.none]
 def wT(P:Zv):Obj:=Tu []
 def wS(P:Zv):Obj:=Fi []
 def wR(P:Zv):Obj:=Tu [(.str q6 469),(.str uI 470),(.str uH 471),(.str uG 472),(.str uF 473),(.str dG 474),(.str du 475),(.str pI 476),(.str BZ 477),(.str BY 478),(.str BX 479),(.str BW 480),(.str BV 481),(.str BU 482),(.str lX 483),(.str BS 484),(.str BR 485),(.str pH 486),(.str q1 487)]
 def wQ(P:Zv):Obj:=Tu []
 def wP(P:Zv):Obj:=Fn (aH (az 5 6) jM tQ 0 [] .none .none .none .none none .none .none 0)
 def qK(P:Zv):Obj:=cd jM 466 tQ 467 aq 468 260 5 0 0 3 190 true 181 191 (.ref 192) (.ref 193) (.ref 194) 488 260 aq 489
 def gT(P:Zv):Obj:=Fu (aH (az 5 6) jM tQ 3 [] (.ref 189) .none (.str (bV (az 5 6)) 490) (.str q3 194) none (.ref 195) .none 0)
 def wO(P:Zv):Obj:=Tu []
 def wN(P:Zv):Obj:=Fi []
 def wM(P:Zv):Obj:=Tu [(.str q6 495),(.str CM 496),(.str CL 497),(.str CK 498),(.str uK 499),(.str uI 500),(.str uH 501),(.str uG 502),(.str uF 503),(.str lX 504),(.str pH 505),(.str q1 506),(.str vy 507),(.str mf 508),(.str me 509),(.str CJ 510),(.str CI 511),(.str mc 512),(.str lZ 513),(.str CH 514)]
 def wL(P:Zv):Obj:=Tu []
 def wK(P:Zv):Obj:=Fn (aH (az 5 7) kf tP 0 [] .none .none .none .none none .none .none 0)
 def qJ(P:Zv):Obj:=cd kf 492 tP 493 aq 494 335 1 0 0 3 197 true 181 198 (.ref 199) (.ref 200) (.ref 201) 515 335 aq 516
 def iV(P:Zv):Obj:=Fu (aH (az 5 7) kf tP 3 [] .none .none (.str (bV (az 5 7)) 517) (.str q3 194) none (.ref 202) .none 0)
 def wJ(P:Zv):Obj:=Tu []
 def wI(P:Zv):Obj:=Fi []
 def wH(P:Zv):Obj:=Tu [(.str q6 522),(.str lX 523),(.str pH 524),(.str CG 525),(.str CF 526),(.str CE 527),(.str iE 528),(.str kd 529)]
 def wG(P:Zv):Obj:=Tu []
 def wF(P:Zv):Obj:=Fn (aH (az 5 8) ke tO 0 [] .none .none .none .none none .none .none 0)
 def qI(P:Zv):Obj:=cd ke 519 tO 520 aq 521 383 1 0 0 3 204 true 181 205 (.ref 206) (.ref 207) (.ref 208) 530 383 aq 531
 def iU(P:Zv):Obj:=Fu (aH (az 5 8) ke tO 3 [] .none .none (.str (bV (az 5 8)) 532) (.str q3 194) none (.ref 209) .none 0)
 def wE(P:Zv):Obj:=Tu [(.int 3 534)]
 def wD(P:Zv):Obj:=Tu []
 def wC(P:Zv):Obj:=Fi []
 def wB(P:Zv):Obj:=Tu [(.str q6 538),(.str lW 539),(.str CC 540),(.str kd 541),(.str mf 542),(.str mc 543),(.str me 544),(.str lZ 545),(.str CB 546),(.str pM 547)]
 def wA(P:Zv):Obj:=Tu []
 def wz(P:Zv):Obj:=Fn (aH (az 5 9) kc tN 0 [] .none .none .none .none none .none .none 0)
 def qH(P:Zv):Obj:=cd kc 535 tN 536 aq 537 430 2 0 0 35 212 true 181 213 (.ref 214) (.ref 215) (.ref 216) 548 430 aq 549
 def ky(P:Zv):Obj:=Fu (aH (az 5 9) kc tN 3 [] (.ref 211) .none (.str (bV (az 5 9)) 550) (.str q3 194) none (.ref 217) .none 0)
 def wy(P:Zv):Obj:=Tu []
 def wx(P:Zv):Obj:=Fi []
 def ww(P:Zv):Obj:=Tu [(.str q6 555),(.str uM 556)]
 def wv(P:Zv):Obj:=Tu []
 def wu(P:Zv):Obj:=Fn (aH (az 5 10) kb tM 0 [] .none .none .none .none none .none .none 0)
 def wt(P:Zv):Obj:=cd kb 552 tM 553 aq 554 475 1 0 0 3 219 true 181 220 (.ref 221) (.ref 222) (.ref 223) 557 475 aq 558
 def wq(P:Zv):Obj:=Fu (aH (az 5 10) kb tM 3 [] .none .none (.str (bV (az 5 10)) 559) (.str q3 194) none (.ref 224) .none 0)
 def wo(P:Zv):Obj:=Tu []
 def wn(P:Zv):Obj:=Fi []
 def wm(P:Zv):Obj:=Tu [(.str q6 564)]
 def wl(P:Zv):Obj:=Tu []
 def wk(P:Zv):Obj:=Fn (aH (az 5 11) jZ tL 0 [] .none .none .none .none none .none .none 0)
 def wj(P:Zv):Obj:=cd jZ 561 tL 562 aq 563 499 1 0 0 3 226 true 181 227 (.ref 228) (.ref 229) (.ref 230) 565 499 aq 566
 def wi(P:Zv):Obj:=Fu (aH (az 5 11) jZ tL 3 [] .none .none .none (.str q3 194) none (.ref 231) .none 0)
 def wg(P:Zv):Obj:=Tu []
 def wf(P:Zv):Obj:=Fi []
 def we(P:Zv):Obj:=Tu [(.str q6 571)]
 def wd(P:Zv):Obj:=Tu []
 def wc(P:Zv):Obj:=Fn (aH (az 5 12) jY tK 0 [] .none .none .none .none none .none .none 0)
 def wb(P:Zv):Obj:=cd jY 568 tK 569 aq 570 502 1 0 0 3 233 true 181 234 (.ref 235) (.ref 236) (.ref 237) 572 502 aq 573
 def wa(P:Zv):Obj:=Fu (aH (az 5 12) jY tK 3 [] .none .none .none (.str q3 194) none (.ref 238) .none 0)
 def vZ(P:Zv):Obj:=Tu [(.str dG 575),(.str uL 576),(.str du 577),(.str pI 578),(.str Cf 579),(.str Cd 580),(.str Ci 581),(.str pK 582),(.str uK 583),(.str Cj 584)]
 def vY(P:Zv):Obj:=⟨(.type "dict"),none,.dict ⟨[kv P io 396 (.str q3 194),kv P jA 400 (.int 70 399),kv P q9 402 (.str (bV (aE 5)) 401),kv P q5 417 (.ref 160),kv P jP 427 (.ref 167),kv P jO 436 (.ref 174),kv P jN 445 (.ref 181),kv P uJ 463 (.ref 188),kv P jM 491 (.ref 196),kv P kf 518 (.ref 203),kv P ke 533 (.ref 210),kv P kc 551 (.ref 218),kv P kb 560 (.ref 225),kv P jZ 567 (.ref 232),kv P jY 574 (.ref 239),kv P jz 585 (.ref 240),kv P oW 587 (.ref 243),kv P oV 589 (.ref 244)]⟩ 3,⟨[]⟩⟩
 def qG(P:Zv):Obj:=⟨(.type "type"),none,.cls ⟨fB,[(.type "object")],[(.ref 242),(.type "object")],241,fB,true,[],[],false,none,false⟩,⟨[none,none,some (.str fB 389),some (.str fB 397),some (.builtin "object.__new__"),some (.bool true)]⟩⟩
 def vX(P:Zv):Obj:=⟨(.type "getset_descriptor"),none,.fields ⟨[(.str oW 586),(.ref 242),(.builtin "function.__dict__"),(.builtin "function.__dict__#set")]⟩,⟨[]⟩⟩
 def vW(P:Zv):Obj:=⟨(.type "getset_descriptor"),none,.fields ⟨[(.str oV 588),(.ref 242),(.builtin "ExceptionGroup.__weakref__"),.none]⟩,⟨[]⟩⟩
noncomputable def vV(P:Zv):Obj:=⟨(.type "super"),none,.fields ⟨[(.ref 242),(.ref 242),(.ref 242)]⟩,⟨[]⟩⟩
noncomputable def vU(P:Zv):Obj:=⟨(.type "builtin_function_or_method"),none,.fields ⟨[(.builtin "object.__init_subclass__"),(.ref 242)]⟩,⟨[]⟩⟩
 def dR(P:Zv):Obj:=⟨(.type "dict"),none,.dict ⟨[kv P q2 165 (.str jW 708),kv P q9 166 .none,kv P z6 167 .none,kv P z7 168 (.builtin "__main__.__loader__#opaque"),kv P z8 169 .none,kv P z9 170 (.ref 6),kv P pd 171 (.ref 4),kv P oZ 173 (.str aq 172),kv P oY 174 .none,kv P q0 193 (.ref 21),kv P q4 252 (.ref 60),kv P eS 380 (.ref 135),kv P gP 388 (.ref 145),kv P fB 591 (.ref 242),kv P iO 602 (.ref 253),kv P iN 637 (.ref 261),kv P iL 648 (.ref 268),kv P iK 685 (.ref 276),kv P iM 695 (.ref 283),kv P iJ 707 (.ref 290),kv P iI 717 (.ref 297),kv P iH 727 (.ref 304),kv P iG 734 (.ref 311),kv P iF 740 (.ref 316)]⟩ 24,⟨[]⟩⟩
 def Ei(P:Zv):Obj:=Fi [(I 1),(I 0),(.ref 20),(I 5),(I 0),(.ref 27),(I 23),(I 0),(.ref 71),(I 66),(I 0),(.ref 144),(I 70),(I 0),(.ref 151),(I 504),(I 0),(.ref 252),(I 513),(I 0),(.ref 260),(I 576),(I 0),(.ref 267),(I 585),(I 0),(.ref 275),(I 653),(I 0),(.ref 282),(I 661),(I 0),(.ref 289),(I 692),(I 0),(.ref 296),(I 698),(I 0),(.ref 303),(I 709),(I 0),(.ref 310),(I 711),(I 0),(.ref 315)]
 def Eh(P:Zv):Obj:=Tu []
 def Eg(P:Zv):Obj:=Fi []
 def Ef(P:Zv):Obj:=Tu [(.str vu 595),(.str vt 596),(.str vr 597),(.str pL 598)]
 def Ee(P:Zv):Obj:=Tu []
 def Ed(P:Zv):Obj:=Fn (eA (aE 6) iO)
 def vT(P:Zv):Obj:=cd iO 592 iO 593 aq 594 504 2 0 0 3 247 true 181 248 (.ref 249) (.ref 250) (.ref 251) 599 504 aq 600
 def kx(P:Zv):Obj:=Fu (aH (aE 6) iO iO 3 [] .none .none (.str (bV (aE 6)) 601) (.str q3 194) none (.ref 252) .none 0)
 def Ec(P:Zv):Obj:=Tu [(.str eQ 603),(.str eQ 604),(.str eQ 605),(.str eQ 606),(.int 3 607),(.str vf 608)]
 def Eb(P:Zv):Obj:=Tu []
 def Ea(P:Zv):Obj:=Fi []
 def DZ(P:Zv):Obj:=Tu [(.str dG 612),(.str du 613),(.str vq 614),(.str vp 615),(.str vk 616),(.str vj 617),(.str lW 618),(.str vh 619),(.str vd 620),(.str pM 621),(.str vc 622),(.str uZ 623),(.str uY 624),(.str uX 625),(.str uW 626),(.str uV 627),(.str kd 628),(.str mf 629),(.str mc 630),(.str me 631),(.str lZ 632),(.str lY 633)]
 def DY(P:Zv):Obj:=Tu []
 def DX(P:Zv):Obj:=Fn (eA (aE 7) iN)
 def vS(P:Zv):Obj:=cd iN 609 iN 610 aq 611 513 8 0 0 35 255 true 181 256 (.ref 257) (.ref 258) (.ref 259) 634 513 aq 635
 def iT(P:Zv):Obj:=Fu (aH (aE 7) iN iN 3 [] (.ref 254) .none (.str (bV (aE 7)) 636) (.str q3 194) none (.ref 260) .none 0)
 def DW(P:Zv):Obj:=Tu []
 def DV(P:Zv):Obj:=Fi []
 def DU(P:Zv):Obj:=Tu [(.str vu 641),(.str vt 642),(.str vr 643),(.str pL 644)]
 def DT(P:Zv):Obj:=Tu []
 def DS(P:Zv):Obj:=Fn (eA (aE 8) iL)
 def vR(P:Zv):Obj:=cd iL 638 iL 639 aq 640 576 2 0 0 3 262 true 181 263 (.ref 264) (.ref 265) (.ref 266) 645 576 aq 646
 def ku(P:Zv):Obj:=Fu (aH (aE 8) iL iL 3 [] .none .none (.str (bV (aE 6)) 647) (.str q3 194) none (.ref 267) .none 0)
 def DR(P:Zv):Obj:=Tu [(.str eQ 649),(.str eQ 650),(.str eQ 651),(.str eQ 652),(.int 3 653),(.str vf 654)]
 def DQ(P:Zv):Obj:=Tu []
 def nu(P:Zv):Obj:=Fi []
 def DP(P:Zv):Obj:=Tu [(.str dG 658),(.str du 659),(.str vq 660),(.str vp 661),(.str vk 662),(.str vj 663),(.str lW 664),(.str vh 665),(.str Cz 666),(.str vd 667),(.str pM 668),(.str vc 669),(.str uZ 670),(.str uY 671),(.str uX 672),(.str uW 673),(.str kd 674),(.str mf 675),(.str mc 676),(.str Cy 677),(.str lY 678),(.str uV 679),(.str me 680),(.str lZ 681)]
 def DO(P:Zv):Obj:=Tu []
 def DN(P:Zv):Obj:=Fn (eA (aE 9) iK)
 def qF(P:Zv):Obj:=cd iK 655 iK 656 aq 657 585 8 0 0 35 270 true 181 271 (.ref 272) (.ref 273) (.ref 274) 682 585 aq 683
 def iS(P:Zv):Obj:=Fu (aH (aE 9) iK iK 3 [] (.ref 269) .none (.str (bV (aE 9)) 684) (.str q3 194) none (.ref 275) .none 0)
 def DM(P:Zv):Obj:=Tu []
 def DL(P:Zv):Obj:=Fi []
 def DK(P:Zv):Obj:=Tu [(.str dG 689),(.str du 690),(.str Cx 691),(.str Cv 692)]
 def DJ(P:Zv):Obj:=Tu []
 def DI(P:Zv):Obj:=Fn (eA (aE 10) iM)
 def vQ(P:Zv):Obj:=cd iM 686 iM 687 aq 688 653 2 0 0 7 277 true 181 278 (.ref 279) (.ref 280) (.ref 281) 693 653 aq 694
 def fD(P:Zv):Obj:=Fu (aH (aE 10) iM iM 3 [] .none .none .none (.str q3 194) none (.ref 282) .none 0)
 def DH(P:Zv):Obj:=Tu []
 def DG(P:Zv):Obj:=Fi []
 def DF(P:Zv):Obj:=Tu [(.str Cu 699),(.str Ct 700),(.str kd 701),(.str Cs 702),(.str lY 703)]
 def DE(P:Zv):Obj:=Tu []
 def DD(P:Zv):Obj:=Fn (eA (aE 11) iJ)
 def vP(P:Zv):Obj:=cd iJ 696 iJ 697 aq 698 661 2 0 0 35 284 true 181 285 (.ref 286) (.ref 287) (.ref 288) 704 661 aq 705
 def nj(P:Zv):Obj:=Fu (aH (aE 11) iJ iJ 3 [] .none .none (.str (bV (aE 11)) 706) (.str q3 194) none (.ref 289) .none 0)
 def DC(P:Zv):Obj:=Tu []
 def DB(P:Zv):Obj:=Fi []
 def DA(P:Zv):Obj:=Tu [(.str vy 713),(.str lY 714)]
 def Dz(P:Zv):Obj:=Tu []
 def Dy(P:Zv):Obj:=Fn (eA (aE 13) iI)
 def vO(P:Zv):Obj:=cd iI 710 iI 711 aq 712 692 1 0 0 3 291 true 181 292 (.ref 293) (.ref 294) (.ref 295) 715 692 aq 716
 def kt(P:Zv):Obj:=Fu (aH (aE 13) iI iI 3 [] .none .none .none (.str jW 708) none (.ref 296) .none 0)
 def Dx(P:Zv):Obj:=Tu []
 def Dw(P:Zv):Obj:=Fi []
 def Dv(P:Zv):Obj:=Tu [(.str uU 721),(.str Cr 722),(.str Cq 723),(.str Cp 724)]
 def Du(P:Zv):Obj:=Tu []
 def Dt(P:Zv):Obj:=Fn (eA (aE 14) iH)
 def vN(P:Zv):Obj:=cd iH 718 iH 719 aq 720 698 1 0 0 3 298 true 181 299 (.ref 300) (.ref 301) (.ref 302) 725 698 aq 726
 def kr(P:Zv):Obj:=Fu (aH (aE 14) iH iH 3 [] .none .none .none (.str jW 708) none (.ref 303) .none 0)
 def Ds(P:Zv):Obj:=Tu []
 def Dr(P:Zv):Obj:=Fi []
 def Dq(P:Zv):Obj:=Tu [(.str uU 731)]
 def Dp(P:Zv):Obj:=Tu []
 def Do(P:Zv):Obj:=Fn (eA (aE 15) iG)
 def vM(P:Zv):Obj:=cd iG 728 iG 729 aq 730 709 1 0 0 3 305 true 181 306 (.ref 307) (.ref 308) (.ref 309) 732 709 aq 733
 def kq(P:Zv):Obj:=Fu (aH (aE 15) iG iG 3 [] .none .none .none (.str jW 708) none (.ref 310) .none 0)
 def Dn(P:Zv):Obj:=Tu []
 def Dm(P:Zv):Obj:=Fi []
 def Dl(P:Zv):Obj:=Fn (eA (aE 16) iF)
 def vL(P:Zv):Obj:=cd iF 735 iF 736 aq 737 711 1 0 0 3 312 true 181 313 .none .none (.ref 314) 738 711 aq 739
 def fC(P:Zv):Obj:=Fu (aH (aE 16) iF iF 3 [] .none .none .none (.str jW 708) none (.ref 315) .none 0)
 def pn(P:Zv):BT:=(nd (boot_o_0 P) (nd (boot_o_1 P) (nd (boot_o_3 P) (nlf (boot_o_7 P)) (nlf (kC P))) (nd (boot_o_5 P) (nlf (boot_o_9 P)) (nlf (kB P)))) (nd (boot_o_2 P) (nd (boot_o_4 P) (nlf (boot_o_8 P)) (nlf (OS P))) (nd (boot_o_6 P) (nlf (boot_o_10 P)) (nlf (kz P)))))
noncomputable def rR:Nat:=15
noncomputable def pu:Nat:=187
 def AD(P:Zv):BT:=(nd (boot_o_0 P) (nd (boot_o_1 P) (nd (o3 P) (nd (boot_o_7 P) (nd (nI P) (nd (nh P) (nlf (mt P)) nl) (nlf (mN P))) (nd (nz P) (nlf (mW P)) (nlf (mF P)))) (nd (kC P) (nd (nE P) (nlf (nb P)) (nlf (mJ P))) (nd (nv P) (nlf (mR P)) (nlf (mz P))))) (nd (boot_o_5 P) (nd (boot_o_9 P) (nd (nG P) (nlf (nf P)) (nlf (mL P))) (nd (nx P) (nlf (mU P)) (nlf (mD P)))) (nd (kB P) (nd (nC P) (nlf (mY P)) (nlf (mH P))) (nd (nk P) (nlf (mP P)) (nlf (mw P)))))) (nd (boot_o_2 P) (nd (boot_o_4 P) (nd (boot_o_8 P) (nd (nH P) (nd (ng P) (nlf (mr P)) nl) (nlf (mM P))) (nd (ny P) (nlf (mV P)) (nlf (mE P)))) (nd (OR P) (nd (nD P) (nlf (mZ P)) (nlf (mI P))) (nd (nq P) (nlf (mQ P)) (nlf (my P))))) (nd (boot_o_6 P) (nd (boot_o_10 P) (nd (nF P) (nlf (nc P)) (nlf (mK P))) (nd (nw P) (nlf (mS P)) (nlf (mC P)))) (nd (kz P) (nd (nB P) (nlf (mX P)) (nlf (mG P))) (nd (ni P) (nlf (mO P)) (nlf (mu P)))))))
noncomputable def Er:Nat:=65
noncomputable def AG:Nat:=253
 def AC(P:Zv):BT:=(nd (boot_o_0 P) (nd (boot_o_1 P) (nd (OO P) (nd (boot_o_7 P) (nd (nI P) (nd (nh P) (nd (mt P) (nlf (rd P)) nl) (nlf (pX P))) (nd (mN P) (nlf (qm P)) (nlf (ry P)))) (nd (nz P) (nd (mW P) (nd (qy P) (nlf (kA P)) nl) (nlf (rG P))) (nd (mF P) (nlf (qe P)) (nlf (rn P))))) (nd (kC P) (nd (nE P) (nd (nb P) (nd (qC P) (nlf (qY P)) nl) (nlf (pT P))) (nd (mJ P) (nlf (qk P)) (nlf (rr P)))) (nd (nv P) (nd (mR P) (nlf (qr P)) (nlf (rC P))) (nd (mz P) (nlf (qc P)) (nlf (rh P)))))) (nd (boot_o_5 P) (nd (boot_o_9 P) (nd (nG P) (nd (nf P) (nd (qE P) (nlf (rb P)) nl) (nlf (pV P))) (nd (mL P) (nlf (mq P)) (nlf (rv P)))) (nd (nx P) (nd (mU P) (nd (qw P) (nlf (qR P)) nl) (nlf (rE P))) (nd (mD P) (nlf (gR P)) (nlf (rj P))))) (nd (kB P) (nd (nC P) (nd (mY P) (nd (qA P) (nlf (qW P)) nl) (nlf (rI P))) (nd (mH P) (nlf (qg P)) (nlf (rp P)))) (nd (nk P) (nd (mP P) (nlf (qp P)) (nlf (rA P))) (nd (mw P) (nlf (pZ P)) (nlf (rf P))))))) (nd (boot_o_2 P) (nd (boot_o_4 P) (nd (boot_o_8 P) (nd (nH P) (nd (ng P) (nd (mr P) (nlf (rc P)) nl) (nlf (pW P))) (nd (mM P) (nlf (ql P)) (nlf (rx P)))) (nd (ny P) (nd (mV P) (nd (qx P) (nlf (qS P)) nl) (nlf (rF P))) (nd (mE P) (nlf (mo P)) (nlf (rl P))))) (nd (OQ P) (nd (nD P) (nd (mZ P) (nd (qB P) (nlf (qX P)) nl) (nlf (rJ P))) (nd (mI P) (nlf (qh P)) (nlf (rq P)))) (nd (nq P) (nd (mQ P) (nlf (qq P)) (nlf (rB P))) (nd (my P) (nlf (qb P)) (nlf (rg P)))))) (nd (boot_o_6 P) (nd (boot_o_10 P) (nd (nF P) (nd (nc P) (nd (qD P) (nlf (qZ P)) nl) (nlf (pU P))) (nd (mK P) (nlf (gS P)) (nlf (ru P)))) (nd (nw P) (nd (mS P) (nd (qt P) (nlf (qQ P)) nl) (nlf (rD P))) (nd (mC P) (nlf (qd P)) (nlf (ri P))))) (nd (kz P) (nd (nB P) (nd (mX P) (nd (qz P) (nlf (qU P)) nl) (nlf (rH P))) (nd (mG P) (nlf (qf P)) (nlf (ro P)))) (nd (ni P) (nd (mO P) (nlf (qo P)) (nlf (rz P))) (nd (mu P) (nlf (pY P)) (nlf (re P))))))))
noncomputable def Ep:Nat:=139
noncomputable def AF:Nat:=381
 def AB(P:Zv):BT:=(nd (boot_o_0 P) (nd (boot_o_1 P) (nd (ON P) (nd (boot_o_7 P) (nd (nI P) (nd (nh P) (nd (mt P) (nlf (rd P)) (nlf (wS P))) (nd (pX P) (nlf (qP P)) (nlf (wu P)))) (nd (mN P) (nd (qm P) (nlf (xI P)) (nlf (wG P))) (nd (ry P) (nlf (xf P)) (nlf (wa P))))) (nd (nz P) (nd (mW P) (nd (qy P) (nlf (kA P)) (nlf (wM P))) (nd (rG P) (nlf (iZ P)) (nlf (wj P)))) (nd (mF P) (nd (qe P) (nlf (xA P)) (nlf (wA P))) (nd (rn P) (nlf (wY P)) nl)))) (nd (kC P) (nd (nE P) (nd (nb P) (nd (qC P) (nlf (qY P)) (nlf (qK P))) (nd (pT P) (nlf (xo P)) (nlf (wn P)))) (nd (mJ P) (nd (qk P) (nlf (xE P)) (nlf (wE P))) (nd (rr P) (nlf (xa P)) (nlf (vX P))))) (nd (nv P) (nd (mR P) (nd (qr P) (nlf (xM P)) (nlf (iV P))) (nd (rC P) (nlf (xh P)) (nlf (we P)))) (nd (mz P) (nd (qc P) (nlf (xw P)) (nlf (wy P))) (nd (rh P) (nlf (qL P)) nl))))) (nd (boot_o_5 P) (nd (boot_o_9 P) (nd (nG P) (nd (nf P) (nd (qE P) (nlf (rb P)) (nlf (wQ P))) (nd (pV P) (nlf (xq P)) (nlf (wq P)))) (nd (mL P) (nd (mq P) (nlf (xG P)) (nlf (qI P))) (nd (rv P) (nlf (xc P)) (nlf (vY P))))) (nd (nx P) (nd (mU P) (nd (qw P) (nlf (qR P)) (nlf (wK P))) (nd (rE P) (nlf (xj P)) (nlf (wg P)))) (nd (mD P) (nd (gR P) (nlf (xy P)) (nlf (qH P))) (nd (rj P) (nlf (wW P)) nl)))) (nd (kB P) (nd (nC P) (nd (mY P) (nd (qA P) (nlf (qW P)) (nlf (wO P))) (nd (rI P) (nlf (xm P)) (nlf (wl P)))) (nd (mH P) (nd (qg P) (nlf (xC P)) (nlf (wC P))) (nd (rp P) (nlf (iX P)) (nlf (vV P))))) (nd (nk P) (nd (mP P) (nd (qp P) (nlf (xK P)) (nlf (wI P))) (nd (rA P) (nlf (qN P)) (nlf (wc P)))) (nd (mw P) (nd (pZ P) (nlf (xu P)) (nlf (ww P))) (nd (rf P) (nlf (wU P)) nl)))))) (nd (boot_o_2 P) (nd (boot_o_4 P) (nd (boot_o_8 P) (nd (nH P) (nd (ng P) (nd (mr P) (nlf (rc P)) (nlf (wR P))) (nd (pW P) (nlf (jc P)) (nlf (wt P)))) (nd (mM P) (nd (ql P) (nlf (xH P)) (nlf (wF P))) (nd (rx P) (nlf (xe P)) (nlf (vZ P))))) (nd (ny P) (nd (mV P) (nd (qx P) (nlf (qS P)) (nlf (wL P))) (nd (rF P) (nlf (xl P)) (nlf (wi P)))) (nd (mE P) (nd (mo P) (nlf (xz P)) (nlf (wz P))) (nd (rl P) (nlf (wX P)) nl)))) (nd (OP P) (nd (nD P) (nd (mZ P) (nd (qB P) (nlf (qX P)) (nlf (gT P))) (nd (rJ P) (nlf (xn P)) (nlf (wm P)))) (nd (mI P) (nd (qh P) (nlf (xD P)) (nlf (wD P))) (nd (rq P) (nlf (qM P)) (nlf (vW P))))) (nd (nq P) (nd (mQ P) (nd (qq P) (nlf (xL P)) (nlf (wJ P))) (nd (rB P) (nlf (xg P)) (nlf (wd P)))) (nd (my P) (nd (qb P) (nlf (xv P)) (nlf (wx P))) (nd (rg P) (nlf (iW P)) nl))))) (nd (boot_o_6 P) (nd (boot_o_10 P) (nd (nF P) (nd (nc P) (nd (qD P) (nlf (qZ P)) (nlf (wP P))) (nd (pU P) (nlf (xp P)) (nlf (wo P)))) (nd (mK P) (nd (gS P) (nlf (xF P)) (nlf (iU P))) (nd (ru P) (nlf (xb P)) (nlf (qG P))))) (nd (nw P) (nd (mS P) (nd (qt P) (nlf (qQ P)) (nlf (qJ P))) (nd (rD P) (nlf (xi P)) (nlf (wf P)))) (nd (mC P) (nd (qd P) (nlf (xx P)) (nlf (ky P))) (nd (ri P) (nlf (wV P)) nl)))) (nd (kz P) (nd (nB P) (nd (mX P) (nd (qz P) (nlf (qU P)) (nlf (wN P))) (nd (rH P) (nlf (qO P)) (nlf (wk P)))) (nd (mG P) (nd (qf P) (nlf (xB P)) (nlf (wB P))) (nd (ro P) (nlf (wZ P)) (nlf (vU P))))) (nd (ni P) (nd (mO P) (nd (qo P) (nlf (xJ P)) (nlf (wH P))) (nd (rz P) (nlf (iY P)) (nlf (wb P)))) (nd (mu P) (nd (pY P) (nlf (xt P)) (nlf (wv P))) (nd (re P) (nlf (wT P)) nl)))))))
noncomputable def Eo:Nat:=247
noncomputable def AE:Nat:=592
 def AA(P:Zv):BT:=(nd (boot_o_0 P) (nd (boot_o_1 P) (nd (dR P) (nd (boot_o_7 P) (nd (nI P) (nd (nh P) (nd (mt P) (nd (rd P) (nlf (Eb P)) nl) (nlf (wS P))) (nd (pX P) (nd (qP P) (nlf (DE P)) nl) (nlf (wu P)))) (nd (mN P) (nd (qm P) (nd (xI P) (nlf (nu P)) nl) (nlf (wG P))) (nd (ry P) (nd (xf P) (nlf (vN P)) nl) (nlf (wa P))))) (nd (nz P) (nd (mW P) (nd (qy P) (nd (kA P) (nlf (DV P)) nl) (nlf (wM P))) (nd (rG P) (nd (iZ P) (nlf (Dy P)) nl) (nlf (wj P)))) (nd (mF P) (nd (qe P) (nd (xA P) (nlf (DK P)) nl) (nlf (wA P))) (nd (rn P) (nd (wY P) (nlf (kq P)) nl) (nlf (Eh P)))))) (nd (kC P) (nd (nE P) (nd (nb P) (nd (qC P) (nd (qY P) (nlf (DX P)) nl) (nlf (qK P))) (nd (pT P) (nd (xo P) (nlf (DC P)) nl) (nlf (wn P)))) (nd (mJ P) (nd (qk P) (nd (xE P) (nlf (qF P)) nl) (nlf (wE P))) (nd (rr P) (nd (xa P) (nlf (Dq P)) nl) (nlf (vX P))))) (nd (nv P) (nd (mR P) (nd (qr P) (nd (xM P) (nlf (vR P)) nl) (nlf (iV P))) (nd (rC P) (nd (xh P) (nlf (Dw P)) nl) (nlf (we P)))) (nd (mz P) (nd (qc P) (nd (xw P) (nlf (fD P)) nl) (nlf (wy P))) (nd (rh P) (nd (qL P) (nlf (vL P)) nl) (nlf (Ed P))))))) (nd (boot_o_5 P) (nd (boot_o_9 P) (nd (nG P) (nd (nf P) (nd (qE P) (nd (rb P) (nlf (DZ P)) nl) (nlf (wQ P))) (nd (pV P) (nd (xq P) (nlf (vP P)) nl) (nlf (wq P)))) (nd (mL P) (nd (mq P) (nd (xG P) (nlf (DO P)) nl) (nlf (qI P))) (nd (rv P) (nd (xc P) (nlf (Ds P)) nl) (nlf (vY P))))) (nd (nx P) (nd (mU P) (nd (qw P) (nd (qR P) (nlf (DT P)) nl) (nlf (wK P))) (nd (rE P) (nd (xj P) (nlf (kt P)) nl) (nlf (wg P)))) (nd (mD P) (nd (gR P) (nd (xy P) (nlf (DI P)) nl) (nlf (qH P))) (nd (rj P) (nd (wW P) (nlf (Dm P)) nl) (nlf (Ef P)))))) (nd (kB P) (nd (nC P) (nd (mY P) (nd (qA P) (nd (qW P) (nlf (iT P)) nl) (nlf (wO P))) (nd (rI P) (nd (xm P) (nlf (DA P)) nl) (nlf (wl P)))) (nd (mH P) (nd (qg P) (nd (xC P) (nlf (DM P)) nl) (nlf (wC P))) (nd (rp P) (nd (iX P) (nlf (Do P)) nl) (nlf (vV P))))) (nd (nk P) (nd (mP P) (nd (qp P) (nd (xK P) (nlf (DR P)) nl) (nlf (wI P))) (nd (rA P) (nd (qN P) (nlf (Du P)) nl) (nlf (wc P)))) (nd (mw P) (nd (pZ P) (nd (xu P) (nlf (DG P)) nl) (nlf (ww P))) (nd (rf P) (nlf (wU P)) (nlf (kx P)))))))) (nd (boot_o_2 P) (nd (boot_o_4 P) (nd (boot_o_8 P) (nd (nH P) (nd (ng P) (nd (mr P) (nd (rc P) (nlf (Ea P)) nl) (nlf (wR P))) (nd (pW P) (nd (jc P) (nlf (DD P)) nl) (nlf (wt P)))) (nd (mM P) (nd (ql P) (nd (xH P) (nlf (DP P)) nl) (nlf (wF P))) (nd (rx P) (nd (xe P) (nlf (kr P)) nl) (nlf (vZ P))))) (nd (ny P) (nd (mV P) (nd (qx P) (nd (qS P) (nlf (DU P)) nl) (nlf (wL P))) (nd (rF P) (nd (xl P) (nlf (vO P)) nl) (nlf (wi P)))) (nd (mE P) (nd (mo P) (nd (xz P) (nlf (DJ P)) nl) (nlf (wz P))) (nd (rl P) (nd (wX P) (nlf (Dn P)) nl) (nlf (Eg P)))))) (nd (Ei P) (nd (nD P) (nd (mZ P) (nd (qB P) (nd (qX P) (nlf (vS P)) nl) (nlf (gT P))) (nd (rJ P) (nd (xn P) (nlf (DB P)) nl) (nlf (wm P)))) (nd (mI P) (nd (qh P) (nd (xD P) (nlf (iS P)) nl) (nlf (wD P))) (nd (rq P) (nd (qM P) (nlf (Dp P)) nl) (nlf (vW P))))) (nd (nq P) (nd (mQ P) (nd (qq P) (nd (xL P) (nlf (ku P)) nl) (nlf (wJ P))) (nd (rB P) (nd (xg P) (nlf (Dv P)) nl) (nlf (wd P)))) (nd (my P) (nd (qb P) (nd (xv P) (nlf (DH P)) nl) (nlf (wx P))) (nd (rg P) (nd (iW P) (nlf (fC P)) nl) (nlf (vT P))))))) (nd (boot_o_6 P) (nd (boot_o_10 P) (nd (nF P) (nd (nc P) (nd (qD P) (nd (qZ P) (nlf (DY P)) nl) (nlf (wP P))) (nd (pU P) (nd (xp P) (nlf (nj P)) nl) (nlf (wo P)))) (nd (mK P) (nd (gS P) (nd (xF P) (nlf (DN P)) nl) (nlf (iU P))) (nd (ru P) (nd (xb P) (nlf (Dr P)) nl) (nlf (qG P))))) (nd (nw P) (nd (mS P) (nd (qt P) (nd (qQ P) (nlf (DS P)) nl) (nlf (qJ P))) (nd (rD P) (nd (xi P) (nlf (Dx P)) nl) (nlf (wf P)))) (nd (mC P) (nd (qd P) (nd (xx P) (nlf (vQ P)) nl) (nlf (ky P))) (nd (ri P) (nd (wV P) (nlf (Dl P)) nl) (nlf (Ee P)))))) (nd (kz P) (nd (nB P) (nd (mX P) (nd (qz P) (nd (qU P) (nlf (DW P)) nl) (nlf (wN P))) (nd (rH P) (nd (qO P) (nlf (Dz P)) nl) (nlf (wk P)))) (nd (mG P) (nd (qf P) (nd (xB P) (nlf (DL P)) nl) (nlf (wB P))) (nd (ro P) (nd (wZ P) (nlf (vM P)) nl) (nlf (vU P))))) (nd (ni P) (nd (mO P) (nd (qo P) (nd (xJ P) (nlf (DQ P)) nl) (nlf (wH P))) (nd (rz P) (nd (iY P) (nlf (Dt P)) nl) (nlf (wb P)))) (nd (mu P) (nd (pY P) (nd (xt P) (nlf (DF P)) nl) (nlf (wv P))) (nd (re P) (nlf (wT P)) (nlf (Ec P)))))))))
noncomputable def xW:Nat:=317
noncomputable def gG:Nat:=741
 def Hj(P:Zv):List (b0×Obj):=[(0,boot_o_0 P),(1,boot_o_1 P),(2,boot_o_2 P),(3,dR P),(4,boot_o_4 P),(5,boot_o_5 P),(6,boot_o_6 P),(7,boot_o_7 P),(8,boot_o_8 P),(9,boot_o_9 P),(10,boot_o_10 P),(11,kC P),(12,Ei P),(13,kB P),(14,kz P),(15,nI P),(16,nH P),(17,nG P),(18,nF P),(19,nE P),(20,nD P),(21,nC P),(22,nB P),(23,nz P),(24,ny P),(25,nx P),(26,nw P),(27,nv P),(28,nq P),(29,nk P),(30,ni P),(31,nh P),(32,ng P),(33,nf P),(34,nc P),(35,nb P),(36,mZ P),(37,mY P),(38,mX P),(39,mW P),(40,mV P),(41,mU P),(42,mS P),(43,mR P),(44,mQ P),(45,mP P),(46,mO P),(47,mN P),(48,mM P),(49,mL P),(50,mK P),(51,mJ P),(52,mI P),(53,mH P),(54,mG P),(55,mF P),(56,mE P),(57,mD P),(58,mC P),(59,mz P),(60,my P),(61,mw P),(62,mu P),(63,mt P),(64,mr P),(65,qE P),(66,qD P),(67,qC P),(68,qB P),(69,qA P),(70,qz P),(71,qy P),(72,qx P),(73,qw P),(74,qt P),(75,qr P),(76,qq P),(77,qp P),(78,qo P),(79,qm P),(80,ql P),(81,mq P),(82,gS P),(83,qk P),(84,qh P),(85,qg P),(86,qf P),(87,qe P),(88,mo P),(89,gR P),(90,qd P),(91,qc P),(92,qb P),(93,pZ P),(94,pY P),(95,pX P),(96,pW P),(97,pV P),(98,pU P),(99,pT P),(100,rJ P),(101,rI P),(102,rH P),(103,rG P),(104,rF P),(105,rE P),(106,rD P),(107,rC P),(108,rB P),(109,rA P),(110,rz P),(111,ry P),(112,rx P),(113,rv P),(114,ru P),(115,rr P),(116,rq P),(117,rp P),(118,ro P),(119,rn P),(120,rl P),(121,rj P),(122,ri P),(123,rh P),(124,rg P),(125,rf P),(126,re P),(127,rd P),(128,rc P),(129,rb P),(130,qZ P),(131,qY P),(132,qX P),(133,qW P),(134,qU P),(135,kA P),(136,qS P),(137,qR P),(138,qQ P),(139,xM P),(140,xL P),(141,xK P),(142,xJ P),(143,xI P),(144,xH P),(145,xG P),(146,xF P),(147,xE P),(148,xD P),(149,xC P),(150,xB P),(151,xA P),(152,xz P),(153,xy P),(154,xx P),(155,xw P),(156,xv P),(157,xu P),(158,xt P),(159,qP P),(160,jc P),(161,xq P),(162,xp P),(163,xo P),(164,xn P),(165,xm P),(166,qO P),(167,iZ P),(168,xl P),(169,xj P),(170,xi P),(171,xh P),(172,xg P),(173,qN P),(174,iY P),(175,xf P),(176,xe P),(177,xc P),(178,xb P),(179,xa P),(180,qM P),(181,iX P),(182,wZ P),(183,wY P),(184,wX P),(185,wW P),(186,wV P),(187,qL P),(188,iW P),(189,wU P),(190,wT P),(191,wS P),(192,wR P),(193,wQ P),(194,wP P),(195,qK P),(196,gT P),(197,wO P),(198,wN P),(199,wM P),(200,wL P),(201,wK P),(202,qJ P),(203,iV P),(204,wJ P),(205,wI P),(206,wH P),(207,wG P),(208,wF P),(209,qI P),(210,iU P),(211,wE P),(212,wD P),(213,wC P),(214,wB P),(215,wA P),(216,wz P),(217,qH P),(218,ky P),(219,wy P),(220,wx P),(221,ww P),(222,wv P),(223,wu P),(224,wt P),(225,wq P),(226,wo P),(227,wn P),(228,wm P),(229,wl P),(230,wk P),(231,wj P),(232,wi P),(233,wg P),(234,wf P),(235,we P),(236,wd P),(237,wc P),(238,wb P),(239,wa P),(240,vZ P),(241,vY P),(242,qG P),(243,vX P),(244,vW P),(245,vV P),(246,vU P),(247,Eh P),(248,Eg P),(249,Ef P),(250,Ee P),(251,Ed P),(252,vT P),(253,kx P),(254,Ec P),(255,Eb P),(256,Ea P),(257,DZ P),(258,DY P),(259,DX P),(260,vS P),(261,iT P),(262,DW P),(263,DV P),(264,DU P),(265,DT P),(266,DS P),(267,vR P),(268,ku P),(269,DR P),(270,DQ P),(271,nu P),(272,DP P),(273,DO P),(274,DN P),(275,qF P),(276,iS P),(277,DM P),(278,DL P),(279,DK P),(280,DJ P),(281,DI P),(282,vQ P),(283,fD P),(284,DH P),(285,DG P),(286,DF P),(287,DE P),(288,DD P),(289,vP P),(290,nj P),(291,DC P),(292,DB P),(293,DA P),(294,Dz P),(295,Dy P),(296,vO P),(297,kt P),(298,Dx P),(299,Dw P),(300,Dv P),(301,Du P),(302,Dt P),(303,vN P),(304,kr P),(305,Ds P),(306,Dr P),(307,Dq P),(308,Dp P),(309,Do P),(310,vM P),(311,kq P),(312,Dn P),(313,Dm P),(314,Dl P),(315,vL P),(316,fC P)]
 def gi(P:Zv):Heap:=⟨⟨(Hj P).map (·.2)⟩,dT⟩
 def jn:Env:={ scope:=TP.main.scope,locals:=mainNs,globals:=mainNs,cells:=[],code:=.ref 13,frame:=some 14}
 def bT:List Stmt:=behindTheImports TP
 def cT:Code:=.body bT jn
noncomputable def qT:Pos:=⟨0,0,0,0⟩
noncomputable def fO:Option Value:=some (.ref 6)
theorem NE(w:ZQ)(os:OsState):topGo ej TP w 11 fO 12 ⟨boot_heap w.params,k6 [],l7,boot_toks,os⟩ (topStub TP) =
  some (SharedT.abs (z1 (pn w.params) rR dT (k6 []) l7 pu os),⟨denote ej cT,cT,⟨0,0,0,0⟩,[topFrame qT]⟩):=by
 rw[PySem.W.Fast.te15667345088766844465,PySem.W.Fast.te11892475500146522536]
 kernel_rfl
theorem Vv(w:ZQ)(os:OsState):segRun ej TP w 11 fO 1 1 (SharedT.abs (z1 (pn w.params) rR dT (k6 []) l7 pu os)) (blockOf bT jn cT ⟨0,0,0,0⟩ [topFrame qT]) =
  some (.next,SharedT.abs (z1 (pn w.params) rR dT (k6 []) l7 pu os),cT,⟨0,0,0,0⟩):=by
 rw[PySem.W.Fast.te14374325043358763698]
 kernel_rfl
 def AU:List Stmt:=(bT.drop 0).take 3
theorem NU(w:ZQ)(os:OsState):segRunT ej TP w 11 fO 1 362 (z1 (pn w.params) rR dT (k6 []) l7 pu os) (piecesOf AU jn cT ⟨0,0,0,0⟩ [topFrame qT]) =
  some (.next,(z1 (AD w.params) Er dT (k6 []) l7 AG os),cT,⟨5,0,22,54⟩):=by
 rw[t6]
 kernel_rfl
 def AT:List Stmt:=(bT.drop 3).take 1
theorem NR(w:ZQ)(os:OsState):segRunT ej TP w 11 fO 1 1047 (z1 (AD w.params) Er dT (k6 []) l7 AG os) (piecesOf AT jn cT ⟨5,0,22,54⟩ [topFrame qT]) =
  some (.next,(z1 (AC w.params) Ep dT (k6 []) l7 AF os),cT,⟨23,0,65,54⟩):=by
 rw[t6]
 kernel_rfl
 def AS:List Stmt:=(bT.drop 4).take 2
theorem NQ(w:ZQ)(os:OsState):segRunT ej TP w 11 fO 1 696 (z1 (AC w.params) Ep dT (k6 []) l7 AF os) (piecesOf AS jn cT ⟨23,0,65,54⟩ [topFrame qT]) =
  some (.next,(z1 (AB w.params) Eo dT (k6 []) l7 AE os),cT,⟨70,0,503,16⟩):=by
 rw[t6]
 kernel_rfl
 def AR:List Stmt:=(bT.drop 6).take 11
theorem NP(w:ZQ)(os:OsState):segRunT ej TP w 11 fO 1 377 (z1 (AB w.params) Eo dT (k6 []) l7 AE os) (piecesOf AR jn cT ⟨70,0,503,16⟩ [topFrame qT]) =
  some (.next,(z1 (AA w.params) xW dT (k6 []) l7 gG os),cT,⟨711,0,737,44⟩):=by
 rw[t6]
 kernel_rfl
theorem Ua(w:ZQ)(os:OsState):topRun ej TP w 11 fO 2 (SharedT.abs (z1 (AA w.params) xW dT (k6 []) l7 gG os)) ⟨doneF .next,cT,⟨711,0,737,44⟩,[topFrame qT]⟩ =
  some ⟨gi w.params,k6 [],l7,gG,os⟩:=by
 rw[PySem.W.Fast.te14082659384304107361]
 kernel_rfl
theorem VD:bT=AU++(AT++(AS++(AR++[]))):=by kernel_rfl
noncomputable def mT:Nat:=12+(1+(362+(1047+(696+(377+2)))))
theorem Lv(w:ZQ)(os:OsState):topRun ej TP w 11 fO mT ⟨boot_heap w.params,k6 [],l7,boot_toks,os⟩ (topStub TP) =
  some ⟨gi w.params,k6 [],l7,gG,os⟩:=by
 refine go_top (NE w os) (piece_block (Vv w os) ?_)
 show topRun ej TP w 11 fO _ _ (restOf bT jn cT _ [topFrame qT])=_
 rw[VD]
 exact(piece_app (segRun_of (NU w os)) (piece_app (segRun_of (NR w os)) (piece_app (segRun_of (NQ w os)) (piece_app (segRun_of (NP w os)) (piece_nil (Ua w os))))))
 def qV:ZJ:={ TP with main:={ TP.main with body:=[aE 16]} }
noncomputable def jf:List Str:=[Zw "_wall",Zw "_tuplegetter",Zw "Match",Zw "_calculate_ratio",Zw "SequenceMatcher",Zw "_format_range_unified",Zw "unified_diff",Zw "_format_range_context",Zw "context_diff",Zw "_check_types",Zw "restore",Zw "_law_line",Zw "_law_halves",Zw "_law_sides"]
 def He:List b0:=(List.range xW)
 def KO:Zv->Frag:=Hj
theorem VJ(P:Zv):He=(KO P).map (·.1):=by kernel_rfl
 def dU:Hook:=kHook KO He VJ
noncomputable def NT:Nat:=6000
theorem Ok:∀w:ZQ,(fencedOpening treeTable TP w NT).map (fun s=>(s.heap,s.gens,s.drawn,s.toks))=some (boot_heap w.params,k6 [],l7,boot_toks) :=
 boot_open (by kernel_rfl) (by kernel_rfl) (fun s=>by kernel_rfl)
theorem KD:∀w:ZQ,((boot_heap w.params).isNs l9&&(k6 []:Array y7).size==0,(boot_heap w.params).objs.size,(boot_heap w.params).nsMap l9 "__annotations__")=(true,11,fO):=by
 intro w
 kernel_rfl
theorem QM:Nat.ble mT NT=true:=by kernel_rfl
theorem Qs(w:ZQ)(os:OsState):(staticsOk (importedModules TP.main.body) (boot_heap w.params) (gi w.params)&&namesBound TP (gi w.params)&&gensDone ⟨gi w.params,k6 [],l7,gG,os⟩&&laidKept (boot_heap w.params) (gi w.params))=true:=by
 kernel_rfl
theorem Qr(w:ZQ)(os:OsState):openSeen qV jf (importedModules TP.main.body) (fun O=>true) true ⟨gi w.params,k6 [],l7,gG,os⟩=openGood qV jf:=by
 rw[PySem.W.Fast.te4187177175401517315]
 kernel_rfl
theorem Qq(w:ZQ)(os:OsState):dU.obs ⟨gi w.params,k6 [],l7,gG,os⟩=dU.val w:=by
 kernel_rfl
theorem QJ:LeftO TP qV jf (fun O=>true) dU.obs dU.val NT:=by
 refine LeftO.of_pieces (H₁:=gi) (gs₁:=k6 []) (d₁:=l7) (k₁:=gG) Ok KD (fun w os=>?_) QM (fun w=>?_)
 ·rw[Jx]
  exact Lv w os
 ·funext os
  rw[Qs,Qr,Qq]
end
section
open PySem PySem.W PyProof.Rows
set_option backward.match.sparseCases false in
noncomputable def NF:Stmt->Pos
 |.FunctionDef _ _ _ _ _ _ _ _ _ p=>p
 |_=>⟨0,0,0,0⟩
noncomputable def gf:DefRec:=⟨Zw "law",Hg (aE 16),bo (aE 16),Bs (aE 16),NF (aE 16)⟩
theorem UJ:defOf qV (Zw "law")=some (gf,[]):=by kernel_rfl
theorem QK:LeftO PySem.Challenge.pw_dm0049_07 qV jf (fun O=>true) dU.obs dU.val NT:=by
 rw[pt]
 exact QJ
theorem Ju:PySem.Challenge.pw_dm0049_07.theDef (Zw "law")=some (gf.params,gf.body,gf.scope):=by
 rw[pt]
 kernel_rfl
theorem OK:(chainsOk qV&&opensWell PySem.Challenge.pw_dm0049_07&&(frees PySem.Challenge.rw_dm0049_07.row.toRowW&&PySem.Challenge.rw_dm0049_07.row.toRowW.within.isEmpty))=true:=by
 rw[pt]
 kernel_rfl
theorem Ls:OpenLaw.wellSaid PySem.Challenge.rw_dm0049_07=true:=by
 delta PySem.Challenge.rw_dm0049_07
 rw[pt]
 kernel_rfl
theorem RS(walk:WalkO qV jf (fun O O=>True) dU.says PySem.Challenge.rw_dm0049_07.row.toRowW gf [] (fun f vs=>PySem.call f vs)):PySem.Challenge.rw_dm0049_07.Holds:=by
 refine holds_law Ls fun said=>?_
 refine PySem.W.holds_open (q:=qV) (loose:=jf) (Xt:=fun O=>true) (XP:=fun O O=>True) (Yf:=dU.obs) (Ya:=dU.val) (YP:=dU.says) (N:=NT) (d:=gf) (kwd:=[])
  QK dU.of dU.keeps (fun O O=>trivial) (fun O O O O O=>trivial) UJ Ju (by kernel_rfl) (fun s O=>recFacts_of (by kernel_rfl)) (by kernel_rfl) said OK ⟨rfl,rfl,rfl,rfl,rfl,by decide +kernel⟩ ?hw walk
 w_witness2
end
set_option genSizeOf false in
inductive AV where
 |none
 |bool (b:Bool)
 |int (i:Int)
 |str (s:Str)
 |bytes (b:Array UInt8)
 |typ (n:String)
 |blt (id:String)
 |ref (a:b0)
 |tup (xs:List AV)
 |lst (xs:List AV)
 |mat (c:b0) (xs:List AV)
 |bm (id:String) (self:AV)
 |inst (c d:b0)
 |rng (a b:Int)
 |any
 deriving Inhabited
set_option backward.match.sparseCases false in
noncomputable def AV.isAny:AV->Bool
 |.any=>true
 |_=>false
noncomputable abbrev D3:=b0->Option Obj
mutual
inductive Val (Z:D3):AV->Value->Prop
 |none:Val Z .none .none
 |bool (b:Bool):Val Z (.bool b) (.bool b)
 |int (i:Int) (t:Tok):Val Z (.int i) (.int i t)
 |str (x:Str) (t:Tok):Val Z (.str x) (.str x t)
 |bytes (b:Array UInt8) (t:Tok):Val Z (.bytes b) (.bytes b t)
 |typ (n:String):Val Z (.typ n) (.type n)
 |blt (n:String):Val Z (.blt n) (.builtin n)
 |ref (a:b0):Val Z (.ref a) (.ref a)
 |tup {a:b0} {xs:List AV} {items:List Value} {n:Nat}:Z a=some {cls:=.type "tuple",data:=.seq items.toArray n}->Vals Z xs items->Val Z (.tup xs) (.ref a)
 |lst {a:b0} {xs:List AV} {items:List Value} {n:Nat}:Z a=some {cls:=.type "list",data:=.seq items.toArray n}->Vals Z xs items->Val Z (.lst xs) (.ref a)
 |mat {a c d:b0} {xs:List AV} {items:List Value} {n:Nat}:Z a=some {cls:=.ref c,dict:=some d,data:=.seq items.toArray n}->Vals Z xs items->Val Z (.mat c xs) (.ref a)
 |bm {a:b0} {id:String} {self:AV} {v:Value}:Z a=some {cls:=.type "builtin_function_or_method",data:=.fields #[.builtin id,v]}->Val Z self v->Val Z (.bm id self) (.ref a)
 |inst {a c d:b0}:Z a=some {cls:=.ref c,dict:=some d,data:=.plain}->Val Z (.inst c d) (.ref a)
 |rng {r:b0} {a b:Int} {t u v:Tok}:Z r=some {cls:=.type "range",dict:=none,data:=.fields #[.int a t,.int b u,.int 1 v],slots:=#[]}->Val Z (.rng a b) (.ref r)
 |any (x:Value):Val Z .any x
inductive Vals (Z:D3):List AV->List Value->Prop
 |nil:Vals Z [] []
 |cons {x:AV} {v:Value} {xs:List AV} {vs:List Value}:Val Z x v->Vals Z xs vs->Vals Z (x::xs) (v::vs)
end
def VI(Z:D3)(x:Value):AV->Prop
 |.none=>x=.none
 |.bool b=>x=.bool b
 |.int i=>∃t,x=.int i t
 |.str y=>∃t,x=.str y t
 |.bytes y=>∃t,x=.bytes y t
 |.typ n=>x=.type n
 |.blt n=>x=.builtin n
 |.ref a=>x=.ref a
 |.tup xs=>∃a items n,x=.ref a/\Z a=some {cls:=.type "tuple",data:=.seq (List.toArray items) n}/\Vals Z xs items
 |.lst xs=>∃a items n,x=.ref a/\Z a=some {cls:=.type "list",data:=.seq (List.toArray items) n}/\Vals Z xs items
 |.mat c xs=>∃a d items n,x=.ref a/\Z a=some {cls:=.ref c,dict:=some d,data:=.seq (List.toArray items) n}/\Vals Z xs items
 |.bm id self=>∃a v,x=.ref a/\Z a=some {cls:=.type "builtin_function_or_method",data:=.fields #[.builtin id,v]}/\Val Z self v
 |.inst c d=>∃a,x=.ref a/\Z a=some {cls:=.ref c,dict:=some d,data:=.plain}
 |.rng a b=>∃r t u v,x=.ref r/\Z r=some {cls:=.type "range",dict:=none,data:=.fields #[.int a t,.int b u,.int 1 v],slots:=#[]}
 |.any=>True
theorem Val.inv{Z:D3}{v:AV}{x:Value}(h:Val Z v x):VI Z x v :=
 Val.casesOn (motive_1:=fun v x O=>VI Z x v) h rfl (fun O=>rfl) (fun O t=>⟨t,rfl⟩) (fun O t=>⟨t,rfl⟩) (fun O t=>⟨t,rfl⟩) (fun O=>rfl) (fun O=>rfl) (fun O=>rfl) (fun e v=>⟨_,_,_,rfl,e,v⟩) (fun e v=>⟨_,_,_,rfl,e,v⟩)
  (fun e v=>⟨_,_,_,_,rfl,e,v⟩) (fun e v=>⟨_,_,rfl,e,v⟩) (fun e=>⟨_,rfl,e⟩) (fun e=>⟨_,_,_,_,rfl,e⟩) (fun O=>⟨⟩)
section
variable{Z:D3}{P:Value->Prop}
theorem Val.eNone(k:P .none)(x:Value)(h:Val Z .none x):P x:=(show _=_ from h.inv)▸k
theorem Val.eBool{b:Bool}(k:P (.bool b))(x:Value)(h:Val Z (.bool b) x):P x:=(show _=_ from h.inv)▸k
theorem Val.eInt{i:Int}(k:∀t,P (.int i t))(x:Value)(h:Val Z (.int i) x):P x:=aw h.inv fun t e=>e▸k t
theorem Val.eStr{y:Str}(k:∀t,P (.str y t))(x:Value)(h:Val Z (.str y) x):P x:=aw h.inv fun t e=>e▸k t
theorem Val.eTyp{n:String}(k:P (.type n))(x:Value)(h:Val Z (.typ n) x):P x:=(show _=_ from h.inv)▸k
theorem Val.eRef{a:b0}(k:P (.ref a))(x:Value)(h:Val Z (.ref a) x):P x:=(show _=_ from h.inv)▸k
theorem Val.eTup{xs:List AV}(k:∀a items n,Z a=some {cls:=.type "tuple",data:=.seq (List.toArray items) n}->Vals Z xs items->P (.ref a))(x:Value)(h:Val Z (.tup xs) x):P x :=
 bv h.inv fun a i n e g v=>e▸k a i n g v
end
theorem kP{Z:D3}{xs:List AV}{x:Value}(h:Val Z (.tup xs) x):∃a items n,x=.ref a/\Z a=some {cls:=.type "tuple",data:=.seq (List.toArray items) n}/\Vals Z xs items:=h.inv
theorem ex{Z:D3}{xs:List AV}{x:Value}(h:Val Z (.lst xs) x):∃a items n,x=.ref a/\Z a=some {cls:=.type "list",data:=.seq (List.toArray items) n}/\Vals Z xs items:=h.inv
theorem sm{Z:D3}{c:b0}{xs:List AV}{x:Value}(h:Val Z (.mat c xs) x):∃a d items n,x=.ref a/\Z a=some {cls:=.ref c,dict:=some d,data:=.seq (List.toArray items) n}/\Vals Z xs items:=h.inv
theorem yC{Z:D3}{id:String}{self:AV}{x:Value}(h:Val Z (.bm id self) x):∃a v,x=.ref a/\Z a=some {cls:=.type "builtin_function_or_method",data:=.fields #[.builtin id,v]}/\Val Z self v:=h.inv
theorem yB{Z:D3}{c d:b0}{x:Value}(h:Val Z (.inst c d) x):∃a,x=.ref a/\Z a=some {cls:=.ref c,dict:=some d,data:=.plain}:=h.inv
theorem RO{Z:D3}{a b:Int}{x:Value}(h:Val Z (.rng a b) x):∃r t u v,x=.ref r/\Z r=some {cls:=.type "range",dict:=none,data:=.fields #[.int a t,.int b u,.int 1 v],slots:=#[]}:=h.inv
def Hv(Z:D3)(xs:List Value):List AV->Prop
 | []=>xs=[]
 |a::as=>∃y ys,xs=y::ys/\Val Z a y/\Vals Z as ys
theorem Vals.inv{Z:D3}{vs:List AV}{xs:List Value}(h:Vals Z vs xs):Hv Z xs vs :=
 Vals.casesOn (motive_2:=fun v x O=>Hv Z x v) h rfl fun h t=>⟨_,_,rfl,h,t⟩
theorem Vals.un{Z:D3}{a:AV}{as:List AV}{P:List Value->Prop}(k:∀x,Val Z a x->∀ys,Vals Z as ys->P (x::ys))(xs:List Value)(h:Vals Z (a::as) xs):P xs :=
 bW h.inv fun y ys e h t=>e▸k y h ys t
theorem Vals.un0{Z:D3}{P:List Value->Prop}(k:P [])(xs:List Value)(h:Vals Z [] xs):P xs:=(show _=_ from h.inv)▸k
theorem Vals.un2{Z:D3}{a b:AV}{P:List Value->Prop}(k:∀x,Val Z a x->∀y,Val Z b y->P [x,y])(xs:List Value)(h:Vals Z [a,b] xs):P xs:=Vals.un (P:=P) (fun x hx=>Vals.un fun y hy=>Vals.un0 (k x hx y hy)) xs h
theorem Vals.un3{Z:D3}{a b c:AV}{P:List Value->Prop}(k:∀x,Val Z a x->∀y,Val Z b y->∀z,Val Z c z->P [x,y,z])(xs:List Value)(h:Vals Z [a,b,c] xs):P xs:=Vals.un (P:=P) (fun x hx=>Vals.un2 (k x hx)) xs h
def D3.le(Z Z':D3):Prop:=∀a o,Z a=some o->Z' a=some o
theorem D3.le.refl(Z:D3):D3.le Z Z:=fun O O e=>e
theorem D3.le.trans{Z Z' J9:D3}(x:D3.le Z Z')(y:D3.le Z' J9):D3.le Z J9:=fun a o e=>y a o (x a o e)
theorem Val.mono{Z Z':D3}(k:D3.le Z Z'){v:AV}{x:Value}(h:Val Z v x):Val Z' v x :=
 Val.rec (motive_1:=fun v x O=>Val Z' v x) (motive_2:=fun v x O=>Vals Z' v x) .none .bool .int .str .bytes .typ .blt .ref (fun e O => .tup (k _ _ e)) (fun e O => .lst (k _ _ e))
  (fun e O => .mat (k _ _ e)) (fun e O => .bm (k _ _ e)) (fun e => .inst (k _ _ e)) (fun e => .rng (k _ _ e)) .any .nil (fun O O => .cons) h
theorem Vals.mono{Z Z':D3}(k:D3.le Z Z'){v:List AV}{x:List Value}(h:Vals Z v x):Vals Z' v x :=
 Vals.rec (motive_1:=fun v x O=>Val Z' v x) (motive_2:=fun v x O=>Vals Z' v x) .none .bool .int .str .bytes .typ .blt .ref (fun e O => .tup (k _ _ e)) (fun e O => .lst (k _ _ e))
  (fun e O => .mat (k _ _ e)) (fun e O => .bm (k _ _ e)) (fun e => .inst (k _ _ e)) (fun e => .rng (k _ _ e)) .any .nil (fun O O => .cons) h
theorem Vals.ind{Z:D3}{P:List AV->List Value->Prop}(n:P [] [])(c:∀ {x v xs vs},Val Z x v->Vals Z xs vs->P xs vs->P (x::xs) (v::vs)){xs:List AV}{vs:List Value}(h:Vals Z xs vs):P xs vs :=
 Vals.rec (motive_1:=fun O O O=>True) (motive_2:=fun x v O=>P x v) ⟨⟩ (fun O=>⟨⟩) (fun O O=>⟨⟩) (fun O O=>⟨⟩) (fun O O=>⟨⟩) (fun O=>⟨⟩) (fun O=>⟨⟩) (fun O=>⟨⟩) (fun O O O=>⟨⟩) (fun O O O=>⟨⟩)
  (fun O O O=>⟨⟩) (fun O O O=>⟨⟩) (fun O=>⟨⟩) (fun O=>⟨⟩) (fun O=>⟨⟩) n (fun h t O=>c h t) h
theorem Vals.length{Z:D3}{xs:List AV}{vs:List Value}(h:Vals Z xs vs):vs.length=xs.length :=
 h.ind (P:=fun xs vs=>vs.length=xs.length) rfl fun O O=>congrArg Nat.succ
theorem Vals.size{Z:D3}{xs:List AV}{items:Array Value}(h:Vals Z xs items.toList):items.size=xs.length:=l5.symm.trans h.length
theorem Vals.append{Z:D3}{xs ys:List AV}{vs us:List Value}(h:Vals Z xs vs)(h':Vals Z ys us):Vals Z (xs++ys) (vs++us) :=
 h.ind (P:=fun xs vs=>Vals Z (xs++ys) (vs++us)) h' fun h O => .cons h
theorem Vals.get{Z:D3}{xs:List AV}{vs:List Value}(h:Vals Z xs vs):∀ {i:Nat} {x:AV},xs[i]?=some x->∃v,vs[i]?=some v/\Val Z x v :=
 h.ind (P:=fun xs vs=>∀ {i:Nat} {x:AV},xs[i]?=some x->∃v,vs[i]?=some v/\Val Z x v) nofun fun{x v _ _} h _ t i y e =>
  match i with
  |0=>bB _ rfl (r7 e▸h)
  |_+1=>t e
theorem Vals.take{Z:D3}{xs:List AV}{vs:List Value}(h:Vals Z xs vs):∀n,Vals Z (xs.take n) (vs.take n) :=
 h.ind (P:=fun xs vs=>∀n,Vals Z (xs.take n) (vs.take n)) (fun |0 => .nil |_+1 => .nil) fun h O t n =>
  match n with
  |0 => .nil
  |n+1 => .cons h (t n)
theorem Vals.drop{Z:D3}{xs:List AV}{vs:List Value}(h:Vals Z xs vs):∀n,Vals Z (xs.drop n) (vs.drop n) :=
 h.ind (P:=fun xs vs=>∀n,Vals Z (xs.drop n) (vs.drop n)) (fun |0 => .nil |_+1 => .nil) fun h ht t n =>
  match n with
  |0 => .cons h ht
  |n+1=>t n
set_option genSizeOf false in
inductive D9 where
 |list (xs:List AV)
 |ns (m:List (Str×AV))
 |gen (g:Nat) (gs:y7)
 |raw (o:Obj)
 |obj (P:D3->Obj->Prop) (mono:∀Z Z' o,D3.le Z Z'->P Z o->P Z' o)
noncomputable abbrev aa:=List (b0×D9)
inductive E9 (Z:D3):Option AV->Option Value->Prop
 |none:E9 Z .none .none
 |some {v:AV} {x:Value}:Val Z v x->E9 Z (.some v) (.some x)
 |any {x:Option Value}:E9 Z (.some .any) x
theorem E9.mono{Z Z':D3}(k:D3.le Z Z'){v:Option AV}{x:Option Value}(h:E9 Z v x):E9 Z' v x :=
 E9.casesOn (motive:=fun v x O=>E9 Z' v x) h .none (fun h => .some (h.mono k)) .any
def HO(Z:D3)(x:Option Value):Option AV->Prop
 |.none=>x=.none
 |.some v=>v.isAny=true∨∃y,x=.some y/\Val Z v y
theorem E9.inv{Z:D3}{v:Option AV}{x:Option Value}(h:E9 Z v x):HO Z x v :=
 E9.casesOn (motive:=fun v x O=>HO Z x v) h rfl (fun h => .inr ⟨_,rfl,h⟩) (.inl rfl)
theorem E9.val{Z:D3}{v:AV}{x:Option Value}(h:E9 Z (.some v) x)(μ:v.isAny=false):∃y,x=.some y/\Val Z v y :=
 h.inv.resolve_left fun e=>Bool.noConfusion (μ.symm.trans e)
def M1(Z:D3)(h:Heap)(a:b0)(m:List (Str×AV)):Prop:=∃f,h.Ns a f/\∀x,E9 Z (m.lookup x) (f x)
theorem M1.mono{Z Z':D3}{h h':Heap}{a:b0}{m:List (Str×AV)}(k:D3.le Z Z')(e:∀o,h.get? a=some o->h'.get? a=some o)(x:M1 Z h a m):M1 Z' h' a m :=
 x.imp fun O h=>⟨h.1.at' e,fun y=>(h.2 y).mono k⟩
theorem M1.set{Z:D3}{h h':Heap}{a:b0}{m:List (Str×AV)}{x:Str}{v:AV}{u:Value}(hm:M1 Z h a m)(hv:Val Z v u)
  (hn:∀f,h.Ns a f->h'.Ns a (fun y=>if y=x then some u else f y)):M1 Z h' a ((x,v)::m):=by
 refine ae hm fun f n r=>?_;clear hm
 refine bB _ (hn f n) (fun y=>?_)
 rw[ZN]
 by_cases e:y=x
 ·subst e
  simp only[beq_self_eq_true,if_true]
  exact .some hv
 ·have:(y==x)=false:=beq_eq_false_iff_ne.mpr e
  simp only[this,e,if_false]
  exact r y
def Holds(Z:D3)(s:Zx)(a:b0):D9->Prop
 |.list xs=>∃items n,s.heap.get? a=some {cls:=.type "list",data:=.seq items n}/\Vals Z xs items.toList
 |.ns m=>M1 Z s.heap a m
 |.gen g gs=>s.heap.IsGen a g/\s.gens[g]?=some gs
 |.raw o=>s.heap.get? a=some o
 |.obj P _=>∃o,s.heap.get? a=some o/\P Z o
noncomputable def D9.gnum:D9->Option Nat
 |.gen g _=>some g
 |_=>none
theorem Holds.mono{Z Z':D3}{s s':Zx}{a:b0}{o:D9}(k:D3.le Z Z')(e:∀o,s.heap.get? a=some o->s'.heap.get? a=some o)
  (eg:∀g gs,o.gnum=some g->s.gens[g]?=some gs->s'.gens[g]?=some gs) (x:Holds Z s a o):Holds Z' s' a o:=by
 cases o with
 |list xs=>refine bI x fun i n g v=>?_;clear x;exact ed i n (e _ g) (v.mono k)
 |ns m=>exact M1.mono k e x
 |gen g gs =>
  refine aA x fun O1 y=>?_;clear x;obtain⟨o,nm,qn,ho,r⟩:=O1
  exact⟨⟨o,nm,qn,e _ ho,r⟩,eg g gs rfl y⟩
 |raw o=>exact e _ x
 |obj P m=>refine ae x fun o h p=>?_;clear x;exact bB o (e _ h) (m _ _ _ k p)
theorem Holds.live{Z:D3}{s:Zx}{a:b0}{o:D9}(x:Holds Z s a o):∃ob,s.heap.get? a=some ob:=by
 cases o with
 |list xs=>refine bI x fun i n g v=>?_;clear x;exact⟨_,g⟩
 |ns m=>refine ae x fun f O2 O=>?_;clear x;obtain⟨ob,_,_,g,_⟩:=O2;exact⟨_,g⟩
 |gen g gs=>refine aA x fun O1 y=>?_;clear x;obtain⟨o,nm,qn,ho,r⟩:=O1;exact⟨_,ho⟩
 |raw o=>exact⟨_,x⟩
 |obj P m=>refine ae x fun o h p=>?_;clear x;exact⟨o,h⟩
set_option genSizeOf false in
structure St where
 loc:List (Str×AV)
 led:aa
noncomputable abbrev keys(l:aa):List b0:=l.map (·.1)
noncomputable abbrev gkeys(l:aa):List Nat:=l.filterMap fun p=>p.2.gnum
theorem Pp{l:aa}{p:b0×D9}{g:Nat}(h:p∈l)(e:p.2.gnum=some g):g∈gkeys l:=List.mem_filterMap.mpr ⟨p,h,e⟩
structure C7 (B:D3) (s:Zx) (Z:D3) (led:aa):Prop where
 base:D3.le B Z
 frozen:∀a o,Z a=some o->s.heap.get? a=some o
 nodup:(keys led).Nodup
 apart:∀p∈led,Z p.1=none
 own:∀p∈led,Holds Z s p.1 p.2
 gnodup:(gkeys led).Nodup
 bare:∀x∈s.gens,x.bare=true
structure D7 (B:D3) (C1:Env) (s:Zx) (Z:D3) (st:St):Prop extends C7 B s Z st.led where
 locZ:Z C1.locals=none
 locL:C1.locals∉keys st.led
 loc:M1 Z s.heap C1.locals st.loc
 kinds:∀x v,st.loc.lookup x=some v->C1.kindOf x=some .local
 fn:C1.scope.kind=.function
set_option genSizeOf false in set_option genInjectivity false in
structure i_ where
 at_:b0->Prop
 gn:Nat->Prop
structure E7 (own:i_) (s:Zx) (Z:D3) (s':Zx) (Z':D3) (M3:i_):Prop where
 le:D3.le Z Z'
 kept:∀a o,s.heap.get? a=some o -> ¬ own.at_ a->s'.heap.get? a=some o
 grow:∀a,M3.at_ a->own.at_ a∨s.heap.get? a=none
 zgrow:∀a o,Z' a=some o->Z a=some o∨own.at_ a∨s.heap.get? a=none
 os:s'.os=s.os
 gkept:∀g gs,s.gens[g]?=some gs -> ¬ own.gn g->s'.gens[g]?=some gs
 ggrow:∀g,M3.gn g->own.gn g∨s.gens[g]?=none
theorem E7.refl{own:i_}{s:Zx}{Z:D3}:E7 own s Z s Z own:=⟨.refl _,fun O O e O=>e,fun O h => .inl h,fun O O e => .inl e,rfl,fun O O e O=>e,fun O h => .inl h⟩
theorem E7.trans{U2 o2 G':i_}{s₁ s2 s3:Zx}{Z1 Z2 Z3:D3}(x:E7 U2 s₁ Z1 s2 Z2 o2)(y:E7 o2 s2 Z2 s3 Z3 G'):E7 U2 s₁ Z1 s3 Z3 G' where
 le:=x.le.trans y.le
 kept:=fun a o e h=>y.kept a o (x.kept a o e h) fun h'=>(x.grow a h').elim h fun n=>by rw[e] at n;cases n
 grow:=fun a h=>by
  rcases y.grow a h with h' |h'
  ·exact x.grow a h'
  ·by_cases q:U2.at_ a
   ·exact .inl q
   ·right
    cases e:s₁.heap.get? a with
    |none=>rfl
    |some o=>rw[x.kept a o e q] at h';cases h'
 zgrow:=fun a o e=>by
  rcases y.zgrow a o e with h |h |h
  ·exact x.zgrow a o h
  ·exact .inr (x.grow a h)
  ·by_cases q:U2.at_ a
   ·exact .inr (.inl q)
   ·refine .inr (.inr ?_)
    cases e':s₁.heap.get? a with
    |none=>rfl
    |some o=>rw[x.kept a o e' q] at h;cases h
 os:=y.os.trans x.os
 gkept:=fun a o e h=>y.gkept a o (x.gkept a o e h) fun h'=>(x.ggrow a h').elim h fun n=>by rw[e] at n;cases n
 ggrow:=fun a h=>by
  rcases y.ggrow a h with h' |h'
  ·exact x.ggrow a h'
  ·by_cases q:U2.gn a
   ·exact .inl q
   ·right
    cases e:s₁.gens[a]? with
    |none=>rfl
    |some o=>rw[x.gkept a o e q] at h';cases h'
noncomputable def aC(C1:Env)(st:St):i_:=⟨fun a=>a=C1.locals∨a∈keys st.led,(· ∈ gkeys st.led)⟩
noncomputable def aj(led:aa):i_:=⟨(· ∈ keys led),(· ∈ gkeys led)⟩
section
variable{C0:ZJ}{w:ZQ}{A:ZI}{B:D3}{C1:Env}
def HQ(B:D3)(C1:Env){α β:Type}(rel:D3->α->β->Prop)(st:St)(K:α->St->Prop)(s:Zx)(Z:D3)(Q:β->Zx->Prop):Prop :=
 ∀v x s' Z' C4,K v C4->D7 B C1 s' Z' C4->rel Z' v x->E7 (aC C1 st) s Z s' Z' (aC C1 C4)->Q x s'
def T(C0:ZJ)(w:ZQ)(A:ZI)(B:D3)(C1:Env){α β:Type}(rel:D3->α->β->Prop)(t:Sem β)(st:St)(K:α->St->Prop):Prop :=
 ∀(s:Zx) (Z:D3),D7 B C1 s Z st->∀(Q:β->Zx->Prop) (E:Value->Zx->Prop),
  HQ B C1 rel st K s Z Q->ZS (ZP C0 w) A t Q E s
set_option genSizeOf false in set_option genInjectivity false in
inductive D4 where
 |next |brk |cont
 |ret (v:AV)
inductive E1 (Z:D3):D4->Flow->Prop
 |next:E1 Z .next .next
 |brk:E1 Z .brk .brk
 |cont:E1 Z .cont .cont
 |ret {v:AV} {x:Value}:Val Z v x->E1 Z (.ret v) (.ret x)
def aK(_:D3)(b c:Bool):Prop:=c=b
def aS(_:D3)(_ _:Unit):Prop:=True
def F1(C0:ZJ)(w:ZQ)(A:ZI)(B:D3)(C1:Env){α β:Type}(rel:D3->α->β->Prop)(f:Value->Sem β)(v:AV)(st:St)(K:α->St->Prop):Prop :=
 ∀(s:Zx) (Z:D3) (x:Value),Val Z v x->D7 B C1 s Z st->∀(Q:β->Zx->Prop) (E:Value->Zx->Prop),
  HQ B C1 rel st K s Z Q->ZS (ZP C0 w) A (f x) Q E s
def F2(C0:ZJ)(w:ZQ)(A:ZI)(B:D3)(C1:Env){α β:Type}(rel:D3->α->β->Prop)(f:Value->Value->Sem β)(v1 v2:AV)(st:St)(K:α->St->Prop):Prop :=
 ∀(s:Zx) (Z:D3) (G2 x2:Value),Val Z v1 G2->Val Z v2 x2->D7 B C1 s Z st->∀(Q:β->Zx->Prop) (E:Value->Zx->Prop),
  HQ B C1 rel st K s Z Q->ZS (ZP C0 w) A (f G2 x2) Q E s
theorem cS{α:Type}{M:Model}{A:ZI}{E:Value->Zx->Prop}{s:Zx}{c:Prop}[Decidable c]{a b:Sem α}{Q:α->Zx->Prop}(h : ¬ c)(k:ZS M A b Q E s):ZS M A (if c then a else b) Q E s:=by rw[if_neg h];exact k
theorem tR{α:Type}{M:Model}{A:ZI}{E:Value->Zx->Prop}{s:Zx}{c:Prop}[Decidable c]{a b:Sem α}{Q:α->Zx->Prop}(h:c)(k:ZS M A a Q E s):ZS M A (if c then a else b) Q E s:=by rw[if_pos h];exact k
theorem F1.of{α β:Type}{rel:D3->α->β->Prop}{f:Value->Sem β}{v:AV}{st:St}{K:α->St->Prop}
  (h:∀s Z,D7 B C1 s Z st->∀Q E,HQ B C1 rel st K s Z Q->∀x,Val Z v x->ZS (ZP C0 w) A (f x) Q E s):F1 C0 w A B C1 rel f v st K :=
 fun s Z x V S Q E hQ=>h s Z S Q E hQ x V
theorem F2.of{α β:Type}{rel:D3->α->β->Prop}{f:Value->Value->Sem β}{v u:AV}{st:St}{K:α->St->Prop}
  (h:∀s Z,D7 B C1 s Z st->∀Q E,HQ B C1 rel st K s Z Q->∀x,Val Z v x->∀y,Val Z u y->ZS (ZP C0 w) A (f x y) Q E s):F2 C0 w A B C1 rel f v u st K :=
 fun s Z x y V U S Q E hQ=>h s Z S Q E hQ x V y U
theorem D7.toks{s:Zx}{Z:D3}{st:St}(h:D7 B C1 s Z st)(tk:Nat):D7 B C1 {s with toks:=tk} Z st :=
 ⟨⟨h.base,h.frozen,h.nodup,h.apart,fun p hp=>(h.own p hp).mono (.refl _) (fun O e=>e) fun O O O e=>e,h.gnodup,h.bare⟩,h.locZ,h.locL,h.loc,h.kinds,h.fn⟩
theorem E7.toks{own:i_}{s:Zx}{Z:D3}(tk:Nat):E7 own s Z {s with toks:=tk} Z own:=⟨.refl _,fun O O e O=>e,fun O h => .inl h,fun O O e => .inl e,rfl,fun O O e O=>e,fun O h => .inl h⟩
theorem T.mono{α β:Type}{rel:D3->α->β->Prop}{t:Sem β}{st:St}{K K':α->St->Prop}(h:T C0 w A B C1 rel t st K)(k:∀v C4,K v C4->K' v C4):T C0 w A B C1 rel t st K' :=
 fun s Z S Q E hQ=>h s Z S Q E fun v x s' Z' C4 hk=>hQ v x s' Z' C4 (k v C4 hk)
theorem HC{i:Int}{k:Nat}{pos:Pos}{st:St}{K:AV->St->Prop}(h:K (.int i) st):T C0 w A B C1 Val (k7 (.Constant (.int i) k pos) C1) st K :=
 fun s Z S Q E hQ=>wpAny_Constant_int (hQ _ _ _ Z st h (S.toks _) (.int _ _) (.toks _))
theorem HB{x:Str}{k:Nat}{pos:Pos}{st:St}{K:AV->St->Prop}(h:K (.str x) st):T C0 w A B C1 Val (k7 (.Constant (.str x) k pos) C1) st K :=
 fun s Z S Q E hQ=>w0 (hQ _ _ _ Z st h (S.toks _) (.str _ _) (.toks _))
theorem WC{k:Nat}{pos:Pos}{st:St}{K:AV->St->Prop}(h:K .none st):T C0 w A B C1 Val (k7 (.Constant .none k pos) C1) st K :=
 fun s Z S Q E hQ=>Zs (hQ _ _ s Z st h S .none .refl)
theorem WH{b:Bool}{k:Nat}{pos:Pos}{st:St}{K:AV->St->Prop}(h:K (.bool b) st):T C0 w A B C1 Val (k7 (.Constant (.bool b) k pos) C1) st K :=
 fun s Z S Q E hQ=>Zs (hQ _ _ s Z st h S (.bool b) .refl)
theorem WF{x:Str}{pos:Pos}{loc:List (Str×AV)}{led:aa}{v:AV}{K:AV->St->Prop}(hx:loc.lookup x=some v)(h:K v ⟨loc,led⟩)
  (hd:(x==("__debug__" : Str))=false) (μ:v.isAny=false):T C0 w A B C1 Val (k7 (.Name x pos) C1) ⟨loc,led⟩ K:=fun s Z S Q E hQ =>
 ae S.loc fun f hn hr=>ae (E9.val (hx▸hr x) μ) fun u s_ hv=>wpAny_Name (wpAny_loadName_local S.fn (S.kinds x v hx) hn s_ (hQ v u s Z ⟨loc,led⟩ h S hv .refl)) hd
theorem HJ{l r:Expr}{op:Operator}{pos:Pos}{st:St}{K:AV->St->Prop}
  (h:T C0 w A B C1 Val (k7 l C1) st fun v1 E5=>T C0 w A B C1 Val (k7 r C1) E5 fun v2 F9=>F2 C0 w A B C1 Val (binaryOp op) v1 v2 F9 K) :
  T C0 w A B C1 Val (k7 (.BinOp l op r pos) C1) st K:=fun s Z S Q E hQ =>
 wpAny_BinOp (h s Z S _ _ fun v1 G2 s₁ Z1 E5 k₁ S1 V1 X1=>k₁ s₁ Z1 S1 _ _ fun v2 x2 s2 Z2 F9 k2 S2 V2 X2 =>
  k2 s2 Z2 G2 x2 (V1.mono X2.le) V2 S2 _ _ fun v x s' Z' C4 k S' V X=>hQ v x s' Z' C4 k S' V ((X1.trans X2).trans X))
theorem WM{l r:Expr}{op:CmpOp}{pos:Pos}{st:St}{K:AV->St->Prop}
  (h:T C0 w A B C1 Val (k7 l C1) st fun v1 E5=>T C0 w A B C1 Val (k7 r C1) E5 fun v2 F9=>F2 C0 w A B C1 Val (u0 op) v1 v2 F9 K)
  (hm:behindInMarks op r=false) :
  T C0 w A B C1 Val (k7 (.Compare l [op] [r] pos) C1) st K:=fun s Z S Q E hQ =>
 wpAny_Compare1 (h s Z S _ _ fun v1 G2 s₁ Z1 E5 k₁ S1 V1 X1=>k₁ s₁ Z1 S1 _ _ fun v2 x2 s2 Z2 F9 k2 S2 V2 X2 =>
  k2 s2 Z2 G2 x2 (V1.mono X2.le) V2 S2 _ _ fun v x s' Z' C4 k S' V X=>hQ v x s' Z' C4 k S' V ((X1.trans X2).trans X)) hm
theorem WX{l r:Expr}{op:CmpOp}{pos:Pos}{whole:Sem Value}{st:St}{K:Bool->St->Prop}
  (h:T C0 w A B C1 Val (k7 l C1) st fun v1 E5=>T C0 w A B C1 Val (k7 r C1) E5 fun v2 F9=>F2 C0 w A B C1 Val (u0 op) v1 v2 F9 fun c J2=>F1 C0 w A B C1 aK truthy c J2 K)
  (hm:behindInMarks op r=false) :
  T C0 w A B C1 aK (isTrue (.Compare l [op] [r] pos) C1 whole) st K:=fun s Z S Q E hQ =>
 wpAny_isTrue_Compare1 (h s Z S _ _ fun v1 G2 s₁ Z1 E5 k₁ S1 V1 X1=>k₁ s₁ Z1 S1 _ _ fun v2 x2 s2 Z2 F9 k2 S2 V2 X2 =>
  k2 s2 Z2 G2 x2 (V1.mono X2.le) V2 S2 _ _ fun v3 x3 s3 Z3 J2 k3 S3 V3 X3=>k3 s3 Z3 x3 V3 S3 _ _ fun v x s' Z' C4 k S' V X=>hQ v x s' Z' C4 k S' V (((X1.trans X2).trans X3).trans X)) hm
theorem oF{e:Expr}{st:St}{K:Bool->St->Prop}(h:T C0 w A B C1 Val (k7 e C1) st fun v E5=>F1 C0 w A B C1 aK truthy v E5 K)
  (he:isTrue e C1 (k7 e C1)=(do let v ← k7 e C1;standAt e.pos;A9 [v] (truthy v)):=by rfl):T C0 w A B C1 aK (isTrue e C1 (k7 e C1)) st K:=fun s Z S Q E hQ =>
 wpAny_isTrue_value (h s Z S _ _ fun v1 G2 s₁ Z1 E5 k₁ S1 V1 X1=>k₁ s₁ Z1 G2 V1 S1 _ _ fun v x s' Z' C4 k S' V X=>hQ v x s' Z' C4 k S' V (X1.trans X)) he
theorem WW{x:Expr}{pos:Pos}{whole:Sem Value}{st:St}{K:Bool->St->Prop}(h:T C0 w A B C1 aK (isTrue x C1 (k7 x C1)) st fun b C4=>K (!b) C4) :
  T C0 w A B C1 aK (isTrue (.UnaryOp .Not x pos) C1 whole) st K:=fun s Z S Q E hQ =>
 wpAny_isTrue_Not (h s Z S _ _ fun b c s' Z' C4 k S' V X=>hQ (!b) (!c) s' Z' C4 k S' (by unfold aK at V ⊢;rw[V]) X)
theorem WZ{st:St}{K:Bool->St->Prop}(h:K true st):T C0 w A B C1 aK (allTrue .And [] C1) st K:=fun s Z S Q E hQ=>wpAny_allTrue_And_nil (hQ true true s Z st h S rfl .refl)
theorem WU{st:St}{K:Bool->St->Prop}(h:K false st):T C0 w A B C1 aK (allTrue .Or [] C1) st K:=fun s Z S Q E hQ=>wpAny_allTrue_Or_nil (hQ false false s Z st h S rfl .refl)
theorem Xc{x:Expr}{rest:List Expr}{st:St}{K:Bool->St->Prop}
  (h:T C0 w A B C1 aK (isTrue x C1 (k7 x C1)) st fun b C4=>if b then T C0 w A B C1 aK (allTrue .And rest C1) C4 K else K false C4):T C0 w A B C1 aK (allTrue .And (x::rest) C1) st K:=fun s Z S Q E hQ =>
 wpAny_allTrue_And_cons (h s Z S _ _ fun b c s' Z' C4 k S' V X=>by
  unfold aK at V
  subst V
  cases c with
  |true=>exact k s' Z' S' Q E fun b' c' L5 J9 F0 k' J1 V' X'=>hQ b' c' L5 J9 F0 k' J1 V' (X.trans X')
  |false=>exact hQ false false s' Z' C4 k S' rfl X)
theorem WY{op:BoolOp}{O_:List Expr}{pos:Pos}{whole:Sem Value}{st:St}{K:Bool->St->Prop}(h:T C0 w A B C1 aK (allTrue op O_ C1) st K) :
  T C0 w A B C1 aK (isTrue (.BoolOp op O_ pos) C1 whole) st K:=fun s Z S Q E hQ=>wpAny_isTrue_BoolOp (h s Z S Q E hQ)
theorem WK{G7 body G3:Expr}{pos:Pos}{st:St}{K:AV->St->Prop}
  (h:T C0 w A B C1 aK (isTrue G7 C1 (k7 G7 C1)) st fun b C4=>if b then T C0 w A B C1 Val (k7 body C1) C4 K else T C0 w A B C1 Val (k7 G3 C1) C4 K) :
  T C0 w A B C1 Val (k7 (.IfExp G7 body G3 pos) C1) st K:=fun s Z S Q E hQ =>
 wpAny_IfExp (h s Z S _ _ fun b c s' Z' C4 k S' V X=>by
  unfold aK at V
  subst V
  cases c <;> exact k s' Z' S' Q E fun v x L5 J9 F0 k' J1 V' X'=>hQ v x L5 J9 F0 k' J1 V' (X.trans X'))
theorem YQ{a b:Int}{st:St}{K:AV->St->Prop}(h:K (.int (a+b)) st):F2 C0 w A B C1 Val (binaryOp .Add) (.int a) (.int b) st K:=F2.of fun s Z S Q E hQ=>Val.eInt fun O=>Val.eInt fun O=>PyProof.Rows.add_int (hQ _ _ _ Z st h (S.toks _) (.int _ _) (.toks _))
theorem Yp{a b:Int}{st:St}{K:AV->St->Prop}(h:K (.int (a-b)) st):F2 C0 w A B C1 Val (binaryOp .Sub) (.int a) (.int b) st K:=F2.of fun s Z S Q E hQ=>Val.eInt fun O=>Val.eInt fun O=>PyProof.Rows.sub_int (hQ _ _ _ Z st h (S.toks _) (.int _ _) (.toks _))
theorem Yw{a b:Int}{st:St}{K:AV->St->Prop}(hb:b≠0)(h:K (.int (a.fmod b)) st):F2 C0 w A B C1 Val (binaryOp .Mod) (.int a) (.int b) st K:=F2.of fun s Z S Q E hQ=>Val.eInt fun O=>Val.eInt fun O=>PyProof.Rows.mod_int hb (hQ _ _ _ Z st h (S.toks _) (.int _ _) (.toks _))
theorem YN{a b:Int}{st:St}{K:AV->St->Prop}(h:K (.bool (a==b)) st):F2 C0 w A B C1 Val (u0 .Eq) (.int a) (.int b) st K:=F2.of fun s Z S Q E hQ=>Val.eInt fun O=>Val.eInt fun O=>PyProof.Rows.eq_int (hQ _ _ _ Z st h S (.bool _) .refl)
theorem Ys{a b:Int}{st:St}{K:AV->St->Prop}(h:K (.bool (a != b)) st):F2 C0 w A B C1 Val (u0 .NotEq) (.int a) (.int b) st K:=F2.of fun s Z S Q E hQ=>Val.eInt fun O=>Val.eInt fun O=>PyProof.Rows.ne_int (hQ _ _ _ Z st h S (.bool _) .refl)
theorem Yx{a b:Int}{st:St}{K:AV->St->Prop}(h:K (.bool (decide (a<b))) st):F2 C0 w A B C1 Val (u0 .Lt) (.int a) (.int b) st K:=F2.of fun s Z S Q E hQ=>Val.eInt fun O=>Val.eInt fun O=>PyProof.Rows.lt_int (hQ _ _ _ Z st h S (.bool _) .refl)
theorem YH{a b:Int}{st:St}{K:AV->St->Prop}(h:K (.bool (decide (b<a))) st):F2 C0 w A B C1 Val (u0 .Gt) (.int a) (.int b) st K:=F2.of fun s Z S Q E hQ=>Val.eInt fun O=>Val.eInt fun O=>PyProof.Rows.gt_int (hQ _ _ _ Z st h S (.bool _) .refl)
theorem Yy{a b:Int}{st:St}{K:AV->St->Prop}(h:K (.bool (decide (a<=b))) st):F2 C0 w A B C1 Val (u0 .LtE) (.int a) (.int b) st K:=F2.of fun s Z S Q E hQ=>Val.eInt fun O=>Val.eInt fun O=>PyProof.Rows.le_int (hQ _ _ _ Z st h S (.bool _) .refl)
theorem YI{a b:Int}{st:St}{K:AV->St->Prop}(h:K (.bool (decide (b<=a))) st):F2 C0 w A B C1 Val (u0 .GtE) (.int a) (.int b) st K:=F2.of fun s Z S Q E hQ=>Val.eInt fun O=>Val.eInt fun O=>PyProof.Rows.ge_int (hQ _ _ _ Z st h S (.bool _) .refl)
theorem YK{a b:Str}{st:St}{K:AV->St->Prop}(h:K (.bool (a==b)) st):F2 C0 w A B C1 Val (u0 .Eq) (.str a) (.str b) st K:=F2.of fun s Z S Q E hQ=>Val.eStr fun O=>Val.eStr fun O=>PyProof.Rows.eq_str (hQ _ _ _ Z st h S (.bool _) .refl)
theorem Yq{a b:Str}{st:St}{K:AV->St->Prop}(h:K (.bool (a != b)) st):F2 C0 w A B C1 Val (u0 .NotEq) (.str a) (.str b) st K:=F2.of fun s Z S Q E hQ=>Val.eStr fun O=>Val.eStr fun O=>PyProof.Rows.ne_str (hQ _ _ _ Z st h S (.bool _) .refl)
theorem YO{a b:Str}{st:St}{K:AV->St->Prop}(hsz:a.length+b.length<=c9)(h:K (.str (a++b)) st):F2 C0 w A B C1 Val (binaryOp .Add) (.str a) (.str b) st K:=F2.of fun s Z S Q E hQ=>Val.eStr fun O=>Val.eStr fun O=>PyProof.Rows.add_str (fun t' tk=>hQ _ _ _ Z st h (S.toks _) (.str _ _) (.toks _)) hsz
theorem tm{b:Bool}{st:St}{K:Bool->St->Prop}(h:K b st):F1 C0 w A B C1 aK truthy (.bool b) st K:=F1.of fun s Z S Q E hQ=>Val.eBool <| wpAny_truthy_bool (hQ _ _ s Z st h S rfl .refl)
theorem YS{i:Int}{st:St}{K:Bool->St->Prop}(h:K (i != 0) st):F1 C0 w A B C1 aK truthy (.int i) st K:=fun s Z x V S Q E hQ=>by
 cases V;exact PySem.P.truthy_int (hQ _ _ s Z st h S rfl .refl)
theorem cu{st:St}{K:D4->St->Prop}(h:K .next st):T C0 w A B C1 E1 (execs [] C1) st K:=fun s Z S Q E hQ=>wpAny_execs_nil (hQ _ _ s Z st h S .next .refl)
def Li(C0:ZJ)(w:ZQ)(A:ZI)(B:D3)(C1:Env)(rest:List Stmt)(K:D4->St->Prop)(f:D4)(C4:St):Prop :=
 match f with
 |.next=>T C0 w A B C1 E1 (execs rest C1) C4 K
 |f=>K f C4
theorem aB{x:Stmt}{rest:List Stmt}{st:St}{K:D4->St->Prop}
  (h:T C0 w A B C1 E1 (exec x C1) st (Li C0 w A B C1 rest K)):T C0 w A B C1 E1 (execs (x::rest) C1) st K:=fun s Z S Q E hQ =>
 wpAny_execs_cons (h s Z S _ _ fun f x s' Z' C4 k S' V X=>by
  induction V with
  |next=>exact k s' Z' S' Q E fun v y L5 J9 F0 k' J1 V' X'=>hQ v y L5 J9 F0 k' J1 V' (X.trans X')
  |brk=>exact hQ _ _ s' Z' C4 k S' .brk X
  |cont=>exact hQ _ _ s' Z' C4 k S' .cont X
  |ret hv=>exact hQ _ _ s' Z' C4 k S' (.ret hv) X)
theorem ic{G7:Expr}{body G3:List Stmt}{pos:Pos}{st:St}{K:D4->St->Prop}
  (h:T C0 w A B C1 aK (isTrue G7 C1 (k7 G7 C1)) st fun b C4=>if b then T C0 w A B C1 E1 (execs body C1) C4 K else T C0 w A B C1 E1 (execs G3 C1) C4 K) :
  T C0 w A B C1 E1 (exec (.If G7 body G3 pos) C1) st K:=fun s Z S Q E hQ =>
 wpAny_If (h s Z S _ _ fun b c s' Z' C4 k S' V X=>by
  unfold aK at V
  subst V
  cases c <;> exact k s' Z' S' Q E fun v y L5 J9 F0 k' J1 V' X'=>hQ v y L5 J9 F0 k' J1 V' (X.trans X'))
theorem Wq{e:Expr}{pos:Pos}{st:St}{K:D4->St->Prop}(h:T C0 w A B C1 Val (k7 e C1) st fun v C4=>K (.ret v) C4):T C0 w A B C1 E1 (exec (.Return (some e) pos) C1) st K:=fun s Z S Q E hQ =>
 wpAny_Return_some (h s Z S _ _ fun v x s' Z' C4 k S' V X=>hQ _ _ s' Z' C4 k S' (.ret V) X)
theorem Wp{pos:Pos}{st:St}{K:D4->St->Prop}(h:K (.ret .none) st):T C0 w A B C1 E1 (exec (.Return none pos) C1) st K:=fun s Z S Q E hQ =>
 wpAny_Return_none (hQ _ _ s Z st h S (.ret .none) .refl)
theorem Wr{pos:Pos}{st:St}{K:D4->St->Prop}(h:K .next st):T C0 w A B C1 E1 (exec (.Pass pos) C1) st K:=fun s Z S Q E hQ =>
 wpAny_Pass (hQ _ _ s Z st h S .next .refl)
noncomputable def cL:List (Str×AV)->Str->AV->List (Str×AV)
 | [],x,v=>[(x,v)]
 |(y,u)::r,x,v=>if x==y then (y,v)::r else (y,u)::cL r x v
theorem uw{y x:Str}{u v:AV}{r:List (Str×AV)}:cL ((y,u)::r) x v=if x==y then (y,v)::r else (y,u)::cL r x v:=rfl
theorem rY(x:Str)(v:AV):∀(l:List (Str×AV)) (y:Str),(cL l x v).lookup y=if y=x then some v else l.lookup y:=by
 intro t_
 induction t_ with
 |nil =>
  intro y
  show List.lookup y [(x,v)]=_
  rw[ZN]
  by_cases e:y=x
  ·subst e;simp
  ·have:(y==x)=false:=beq_eq_false_iff_ne.mpr e
   simp[this,e]
 |cons e_ r ih =>
  obtain⟨z,u⟩:=e_
  intro y
  rw[uw]
  by_cases q:x=z
  ·subst q
   simp only[beq_self_eq_true,if_true]
   rw[ZN,ZN]
   by_cases e:y=x
   ·subst e;simp
   ·have:(y==x)=false:=beq_eq_false_iff_ne.mpr e
    simp[this,e]
  ·have hq:(x==z)=false:=beq_eq_false_iff_ne.mpr q
   simp only[hq,c7,if_false]
   rw[ZN,ZN,ih y]
   by_cases e:y=z
   ·subst e
    have:y≠x:=fun h=>q h.symm
    simp[this]
   ·have:(y==z)=false:=beq_eq_false_iff_ne.mpr e
    simp[this]
theorem Ij{x:Str}{v:AV}{loc:List (Str×AV)}{led:aa}{K:Unit->St->Prop}(hk:C1.kindOf x=some .local){l:List (Str×AV)}(hl:cL loc x v=l)(h:K () ⟨l,led⟩) :
  F1 C0 w A B C1 aS (A8 C1 x) v ⟨loc,led⟩ K:=fun s Z u V S Q E hQ=>by
 subst hl
 generalize J8:(⟨loc,led⟩:St)=st at *
 have h:K () ⟨cL st.loc x v,st.led⟩:=by subst J8;exact h
 refine ae S.loc fun f hn hr=>?_
 refine wpAny_storeName_local hk hn (fun h' W' K1=>?_) (by rw[S.fn];rfl)
 have keep:∀b o,b≠C1.locals->s.heap.get? b=some o->h'.get? b=some o:=fun b o hb e=>(K1.2 b hb).trans e
 refine hQ () () _ Z ⟨cL st.loc x v,st.led⟩ h ⟨⟨S.base,fun a o e=>keep a o (fun q=>?_) (S.frozen a o e),S.nodup,S.apart,fun p hp=>(S.own p hp).mono (.refl _) (fun o e=>keep _ o (fun q=>?_) e) (fun O O O e=>e),S.gnodup,S.bare⟩,S.locZ,S.locL,
  ⟨_,W',fun y=>?_⟩,fun y u' e=>?_,S.fn⟩ trivial ⟨.refl _,fun a o e ha=>keep a o (fun q=>ha (.inl q)) e,fun a ha => .inl ha,fun O O e => .inl e,rfl,fun O O e O=>e,fun O h => .inl h⟩
 ·rw[q,S.locZ] at e;cases e
 ·exact S.locL (q▸ZO hp)
 ·rw[rY]
  by_cases e:y=x
  ·simp only[e,if_true];exact .some V
  ·simp only[e,if_false];exact hr y
 ·rw[rY] at e
  by_cases q:y=x
  ·exact(Eq.symm (q))▸hk
  ·simp only[q,if_false] at e;exact S.kinds y u' e
theorem ie{x:Str}{X9 pos:Pos}{value:Expr}{st:St}{K:D4->St->Prop}
  (h:T C0 w A B C1 Val (k7 value C1) st fun v E5=>F1 C0 w A B C1 aS (A8 C1 x) v E5 fun O F9=>K .next F9)
  (hs:swapsWith value (some (.Name x X9)) pos.line C1=o4 false) :
  T C0 w A B C1 E1 (exec (.Assign [.Name x X9] value pos) C1) st K:=fun s Z S Q E hQ =>
 wpAny_Assign_Name (h s Z S _ _ fun v G2 s₁ Z1 E5 k₁ S1 V1 X1=>k₁ s₁ Z1 G2 V1 S1 _ _ fun O O s' Z' C4 k S' O X=>hQ _ _ s' Z' C4 k S' .next (X1.trans X)) hs
theorem Ww{x:Str}{X9 pos:Pos}{op:Operator}{value:Expr}{loc:List (Str×AV)}{led:aa}{v₀:AV}{K:D4->St->Prop}(hx:loc.lookup x=some v₀)(μ:v₀.isAny=false)
  (h:T C0 w A B C1 Val (k7 value C1) ⟨loc,led⟩ fun v E5=>F2 C0 w A B C1 Val (inplaceOp op) v₀ v E5 fun r F9=>F1 C0 w A B C1 aS (A8 C1 x) r F9 fun O J2=>K .next J2) :
  T C0 w A B C1 E1 (exec (.AugAssign (.Name x X9) op value pos) C1) ⟨loc,led⟩ K:=fun s Z S Q E hQ =>
 ae S.loc fun f hn hr=>ae (E9.val (hx▸hr x) μ) fun u s_ hv =>
 wpAny_AugAssign_Name (wpAny_loadName_local S.fn (S.kinds x v₀ hx) hn s_ (h s Z S _ _ fun O G2 s₁ Z1 O k₁ S1 V1 X1=>k₁ s₁ Z1 u G2 (hv.mono X1.le) V1 S1 _ _
  fun O x2 s2 Z2 O k2 S2 V2 X2=>k2 s2 Z2 x2 V2 S2 _ _ fun O O s' Z' C4 k S' O X=>hQ _ _ s' Z' C4 k S' .next ((X1.trans X2).trans X)))
theorem YG{a b:Int}{st:St}{K:AV->St->Prop}(h:K (.int (a+b)) st):F2 C0 w A B C1 Val (inplaceOp .Add) (.int a) (.int b) st K:=F2.of fun s Z S Q E hQ=>Val.eInt fun O=>Val.eInt fun O=>PyProof.Rows.iadd_int (hQ _ _ _ Z st h (S.toks _) (.int _ _) (.toks _))
theorem YA{a b:Int}{st:St}{K:AV->St->Prop}(h:K (.int (a-b)) st):F2 C0 w A B C1 Val (inplaceOp .Sub) (.int a) (.int b) st K:=F2.of fun s Z S Q E hQ=>Val.eInt fun O=>Val.eInt fun O=>PyProof.Rows.isub_int (hQ _ _ _ Z st h (S.toks _) (.int _ _) (.toks _))
theorem yf(x y:Str):∀loc:List (Str×AV),(loc++[(x,AV.any)]).lookup y=loc.lookup y∨(y=x/\(loc++[(x,AV.any)]).lookup y=some .any)
 | []=>by
  by_cases e:y=x
  ·subst e
   right
   refine⟨rfl,?_⟩
   show List.lookup y [(y,AV.any)]=_
   rw[ZN,beq_self_eq_true]
  ·left
   have:(y==x)=false:=beq_eq_false_iff_ne.mpr e
   show List.lookup y [(x,AV.any)]=_
   rw[ZN,this]
 |p::l=>by
  rw[ZE,ZN,ZN]
  cases y==p.1 with
  |true=>exact .inl rfl
  |false=>exact yf x y l
theorem D7.spare{s:Zx}{Z:D3}{loc:List (Str×AV)}{led:aa}(x:Str)(hk:C1.kindOf x=some .local)(S:D7 B C1 s Z ⟨loc,led⟩):D7 B C1 s Z ⟨loc++[(x,.any)],led⟩:=by
 refine⟨S.toC7,S.locZ,S.locL,?_,fun y v e=>?_,S.fn⟩
 ·refine ae S.loc fun f hn hr=>?_
  refine bB f hn (fun y=>?_)
  rcases yf x y loc with h |⟨_,h⟩
  ·show E9 Z ((loc++[(x,AV.any)]).lookup y) (f y)
   exact(Eq.symm (h))▸hr y
  ·show E9 Z ((loc++[(x,AV.any)]).lookup y) (f y)
   exact(Eq.symm (h))▸.any
 ·rcases yf x y loc with h |⟨h,_⟩
  ·exact S.kinds y v (by exact(h)▸e)
  ·exact(Eq.symm (h))▸hk
theorem T.spare{α β:Type}{rel:D3->α->β->Prop}{t:Sem β}{loc:List (Str×AV)}{led:aa}{K:α->St->Prop}(x:Str)(hk:C1.kindOf x=some .local)(h:T C0 w A B C1 rel t ⟨loc++[(x,.any)],led⟩ K):T C0 w A B C1 rel t ⟨loc,led⟩ K :=
 fun s Z S Q E hQ=>h s Z (S.spare x hk) Q E hQ
theorem T.spares{α β:Type}{rel:D3->α->β->Prop}{t:Sem β}{led:aa}{K:α->St->Prop}(xs:List Str){loc:List (Str×AV)}(hk:(xs.all fun x=>decide (C1.kindOf x=some .local))=true)(h:T C0 w A B C1 rel t ⟨loc++xs.map fun x=>(x,.any),led⟩ K):T C0 w A B C1 rel t ⟨loc,led⟩ K:=by
 induction xs generalizing loc with
 |nil=>rw[y2,g7] at h;exact h
 |cons x xs ih =>
  rw[List.all_cons,i9] at hk
  exact T.spare x (of_decide_eq_true hk.1) (ih hk.2 (by rw[ZW];exact h))
end
variable {st:St}{w:ZQ}{A:ZI}{n i k j c C8 alo C9:Nat}{Z B:D3}{C0:ZJ}{s:Zx}{C1:Env}{a d it C:b0}{x y name:Str}{pos:Pos}{v:AV}{loc kw l binds G D8:List (Str×AV)}{K R:AV->St->Prop}{α β:Type}{xs args C5 ys:List AV}{E Q:Value->Zx->Prop}{C3 iter value:Expr}{o:Obj}{body:List Stmt}{e:Nat->Nat->Bool}{P:Prop}{os:List Op}{vs:List Value}{elts:List Expr}{C2:List Int}{J:List (Str×AV)->Prop}{r:List (Str×Value)}
inductive E0 (Z:D3):List (Str×AV)->List (Str×Value)->Prop
 |nil:E0 Z [] []
 |cons {k:Str} {v:AV} {x:Value} {l:List (Str×AV)} {r:List (Str×Value)}:Val Z v x->E0 Z l r->E0 Z ((k,v)::l) ((k,x)::r)
theorem E0.un0{P:List (Str×Value)->Prop}(k:P [])(xs:List (Str×Value))(h:E0 Z [] xs):P xs:=by cases h;exact k
theorem E0.mono{Z':D3}(k:D3.le Z Z')(h:E0 Z l r):E0 Z' l r:=by
 induction h with
 |nil=>exact .nil
 |cons v _ ih=>exact .cons (v.mono k) ih
theorem E0.lookup(h:E0 Z l r)(y:Str):E9 Z (l.lookup y) (r.lookup y):=by
 induction h with
 |nil=>exact .none
 | @cons k v x l r hv _ ih =>
  rw[ZN,ZN];cases e:(y==k) with
  |true=>exact .some hv
  |false=>exact ih
theorem E0.keys(h:E0 Z l r):r.map (·.1)=l.map (·.1):=by
 induction h with
 |nil=>rfl
 |cons _ _ ih=>simp only[ZD,ih]
theorem E0.append{l':List (Str×AV)}{r':List (Str×Value)}(h:E0 Z l r)(h':E0 Z l' r'):E0 Z (l++l') (r++r'):=by
 induction h with
 |nil=>exact h'
 |cons v _ ih=>exact .cons v ih
theorem E0.reverse(h:E0 Z l r):E0 Z l.reverse r.reverse:=by
 induction h with
 |nil=>exact .nil
 |cons v _ ih=>rw[ZX,ZX];exact ih.append (.cons v .nil)
theorem E0.zip(ks:List Str){vs:List AV}{xs:List Value}(h:Vals Z vs xs):E0 Z (ks.zip vs) (ks.zip xs) :=
 h.ind (P:=fun vs xs=>∀ks:List Str,E0 Z (ks.zip vs) (ks.zip xs)) (fun ks=>by rw[List.zip_nil_right,List.zip_nil_right];exact .nil) (fun h O t ks=>by
  cases ks with
  |nil=>exact .nil
  |cons k ks=>exact .cons h (t ks)) ks
def HR(B:D3)(led:aa)(K:AV->aa->Prop)(s:Zx)(Z:D3)(R:Result->Zx->Prop):Prop :=
 ∀v x s' Z' led',K v led'->C7 B s' Z' led'->Val Z' v x->E7 (aj led) s Z s' Z' (aj led')->R (.ok (.ret x)) s'
def TC(C0:ZJ)(w:ZQ)(A:ZI)(B:D3)(f:AV)(args:List AV)(kw:List (Str×AV))(led:aa)(K:AV->aa->Prop):Prop :=
 ∀(s:Zx) (Z:D3) (fx:Value) (xs:List Value) (ks:List (Str×Value)),C7 B s Z led->Val Z f fx->Vals Z args xs->E0 Z kw ks->∀(R:Result->Zx->Prop),
  HR B led K s Z R->codeAny (ZP C0 w) A (.call fx ⟨xs,ks⟩) R s
def lS(R:AV->aa->Prop)(fl:D4)(C4:St):Prop :=
 match fl with
 |.ret v=>R v C4.led
 |_=>R .none C4.led
theorem D7.after{s':Zx}{Z':D3}{led':aa}(S:D7 B C1 s Z st)(L:C7 B s' Z' led')(X:E7 (aj st.led) s Z s' Z' (aj led')):D7 B C1 s' Z' ⟨st.loc,led'⟩:=by
 refine ae S.loc fun f hn hr=>?_;refine jx (id hn) fun ob es ep g O=>?_;refine⟨L,?_,fun h=>?_,M1.mono X.le (fun o e=>X.kept _ o e S.locL) S.loc,S.kinds,S.fn⟩
 ·cases e:Z' C1.locals with
  |none=>rfl
  |some o =>
   rcases X.zgrow _ o e with q |q |q
   ·rw[S.locZ] at q;cases q
   ·exact absurd q S.locL
   ·rw[g] at q;cases q
 ·rcases X.grow _ h with q |q
  ·exact S.locL q
  ·rw[g] at q;cases q
theorem E7.toF{s':Zx}{Z':D3}{led':aa}(X:E7 (aj st.led) s Z s' Z' (aj led')):E7 (aC C1 st) s Z s' Z' (aC C1 ⟨st.loc,led'⟩) where
 le:=X.le
 kept:=fun a o e h=>X.kept a o e fun q=>h (.inr q)
 grow:=fun a h=>by
  rcases h with h |h
  ·exact .inl (.inl h)
  ·exact(X.grow a h).imp .inr id
 zgrow:=fun a o e=>(X.zgrow a o e).imp id (Or.imp .inr id)
 os:=X.os
 gkept:=X.gkept
 ggrow:=X.ggrow
structure G1 (B:D3):Prop where
 lim:∀s:Zx,(∀a o,B a=some o->s.heap.get? a=some o)->s.heap.NoLimit
noncomputable def gv(scope:Scope)(L g:b0)(cells:List (Str×b0))(qual:Str)(f:b0)(cd:Value)(bi:b0):Env :=
 { scope,locals:=L,globals:=g,cells,qual:=qual ++ ".<locals>.",func:=some f,code:=cd,frame:=some L,builtins:=bi}
def Binds(C0:ZJ)(w:ZQ)(A:ZI)(B:D3)(fd:A6)(args:List AV)(kw binds:List (Str×AV)):Prop :=
 ∀(s:Zx) (Z:D3) (led:aa) (xs:List Value) (ks:List (Str×Value)),C7 B s Z led->Vals Z args xs->E0 Z kw ks ->
  ∀(Q:List (Str×Value)->Zx->Prop) (E:Value->Zx->Prop),(∀bs s' Z',C7 B s' Z' led->E0 Z' binds bs->E7 (aj led) s Z s' Z' (aj led)->Q bs s')->ZS (ZP C0 w) A (bindArgs fd ⟨xs,ks⟩) Q E s
theorem gm(s:Zx):s.heap.get? s.heap.objs.size=none:=by
 cases e:s.heap.get? s.heap.objs.size with
 |none=>rfl
 |some o=>exact absurd (e8 e) (r6 _)
section
variable{s s₁:Zx}{led:aa}
theorem C7.zfree(S:C7 B s Z led)(h:s.heap.get? a=none):Z a=none:=by
 cases e:Z a with
 |none=>rfl
 |some o=>exact nomatch h.symm.trans (S.frozen a o e)
theorem C7.lfree(S:C7 B s Z led)(h:s.heap.get? a=none):a∉keys led:=fun q =>
 ae (ZV.mp q) fun p hp e=>aw (S.own p hp).live fun ob g=>nomatch (show none=some ob from(e.symm▸h:s.heap.get? p.1=none).symm.trans g)
theorem C7.zfresh(S:C7 B s Z led):Z s.heap.objs.size=none:=S.zfree (gm s)
theorem C7.lfresh(S:C7 B s Z led):s.heap.objs.size∉keys led:=S.lfree (gm s)
theorem C7.keep(S:C7 B s Z led)(k:∀b o,s.heap.get? b=some o->s₁.heap.get? b=some o)(g:∀(n:Nat) (gs:y7),s.gens[n]?=some gs->s₁.gens[n]?=some gs)(b:∀x∈s₁.gens,x.bare=true):C7 B s₁ Z led :=
 ⟨S.base,fun a o e=>k a o (S.frozen a o e),S.nodup,S.apart,fun p hp=>(S.own p hp).mono (.refl _) (fun o e=>k _ o e) fun n gs O e=>g n gs e,S.gnodup,b⟩
theorem C7.cons{o:D9}(S:C7 B s Z led)(ha:a∉keys led)(hz:Z a=none)(hh:Holds Z s a o)(hg:(gkeys ((a,o)::led)).Nodup):C7 B s Z ((a,o)::led) :=
 ⟨S.base,S.frozen,ZL.mpr ⟨ha,S.nodup⟩,fun p hp=>(Zy.mp hp).elim (fun e=>e▸hz) (S.apart p),fun p hp=>(Zy.mp hp).elim (fun e=>e▸hh) (S.own p),hg,S.bare⟩
theorem zj(k:∀b o,s.heap.get? b=some o->s₁.heap.get? b=some o)(h:s₁.heap.get? a=none):s.heap.get? a=none:=by
 cases e:s.heap.get? a with
 |none=>rfl
 |some o=>exact nomatch h.symm.trans (k a o e)
theorem Qi(e:l.lookup x=some v):x∈l.map (·.1):=by
 induction l with
 |nil=>exact nomatch e
 |cons p l ih =>
  rw[ZN] at e;cases q:(x==p.1) with
  |true=>exact beq_iff_eq.mp q▸Zr ..
  |false=>rw[q] at e;exact Zt _ (ih e)
theorem EH(e:l.reverse.lookup x=some v):x∈l.map (·.1):=List.mem_reverse.mp (List.map_reverse▸Qi e)
theorem D7.enter{bs:List (Str×Value)}(L:C7 B s Z led)(hZ:Z C1.locals=none)(hL:C1.locals∉keys led)(g_:s.heap.Ns C1.locals fun y=>bs.reverse.lookup y)(Ζ:E0 Z binds bs)
  (K5:∀x∈binds.map (·.1),C1.kindOf x=some .local) (hk:C1.scope.kind=.function):D7 B C1 s Z ⟨binds.reverse,led⟩ :=
 ⟨L,hZ,hL,⟨_,g_,fun y=>Ζ.reverse.lookup y⟩,fun x O e=>K5 x (EH e),hk⟩
theorem E7.inner{I1:aa}{h1:Heap}{tk:Nat}{s':Zx}{Z':D3}{C4:St}(X:E7 (aC C1 ⟨loc,I1⟩) {s with heap:=h1,toks:=tk} Z s' Z' (aC C1 C4))(k:∀b o,s.heap.get? b=some o->h1.get? b=some o)
  (own:∀a,a=C1.locals∨a∈keys I1->a∈keys led∨s.heap.get? a=none) (g:gkeys I1=gkeys led):E7 (aj led) s Z s' Z' (aj C4.led) where
 le:=X.le
 kept:=fun a o e ha=>X.kept a o (k a o e) fun q=>(own a q).elim ha fun n=>nomatch n.symm.trans e
 grow:=fun a ha=>(X.grow a (.inr ha)).elim (own a) fun n => .inr (zj (s₁:={ s with heap:=h1,toks:=tk}) k n)
 zgrow:=fun a o e=>(X.zgrow a o e).elim .inl fun q => .inr (q.elim (own a) fun n => .inr (zj (s₁:={ s with heap:=h1,toks:=tk}) k n))
 os:=X.os
 gkept:=fun n gs e h=>X.gkept n gs e fun q=>h (show n∈gkeys led from g▸(show n∈gkeys I1 from q))
 ggrow:=fun n h=>(X.ggrow n h).imp_left fun q=>(show n∈gkeys led from g▸(show n∈gkeys I1 from q))
theorem HR.after{s':Zx}{Z':D3}{K:AV->aa->Prop}{R:Result->Zx->Prop}(hR:HR B led K s Z R)(X:E7 (aj led) s Z s' Z' (aj led)):HR B led K s' Z' R:=fun v x O O led' k S' V X'=>hR v x _ _ led' k S' V (X.trans X')
theorem QL{I1:aa}{h1:Heap}{tk:Nat}{K:AV->aa->Prop}{R:Result->Zx->Prop}{Q:Flow->Zx->Prop}(hR:HR B led K s Z R)(k:∀b o,s.heap.get? b=some o->h1.get? b=some o)
  (own:∀a,a=C1.locals∨a∈keys I1->a∈keys led∨s.heap.get? a=none) (g:gkeys I1=gkeys led) (hq:∀x s',R (.ok (.ret x)) s'->Q (.ret x) s') (hn:∀s',R (.ok (.ret .none)) s'->Q .next s'/\Q .brk s'/\Q .cont s') :
  HQ B C1 E1 ⟨loc,I1⟩ (lS K) {s with heap:=h1,toks:=tk} Z Q:=fun fl x s' Z' C4 k' S' V X=>by
 have X':=E7.inner X k own g;induction V with
 |next=>exact(hn _ (hR _ _ s' Z' C4.led k' S'.toC7 .none X')).1
 |brk=>exact(hn _ (hR _ _ s' Z' C4.led k' S'.toC7 .none X')).2.1
 |cont=>exact(hn _ (hR _ _ s' Z' C4.led k' S'.toC7 .none X')).2.2
 |ret hv=>exact hq _ _ (hR _ _ s' Z' C4.led k' S'.toC7 hv X')
end
theorem LC{f:b0}{fd:A6}{led:aa}{K:AV->aa->Prop}{c:b0}{oc:Obj}{vs:Array Value}{tq:Tok}{xs:List Value}{ks:List (Str×Value)}{R:Result->Zx->Prop}
  (hG:G1 B) (ho:s.heap.get? f=some o) (hd:o.data=.func fd) (Q4:fd.scope.isCoroutine=false) (Y_:fd.scope.isGenerator=false) (hk:fd.scope.kind=.function) (M8:fd.body=.stmts body)
  (I6:∀x∈fd.scope.names,x.2 ≠ .cell)
  (hc:fd.code=.ref c) (H_:s.heap.get? c=some oc) (U6:oc.data=.fields vs) (hq:vs[1]?=some (.str fd.qualname tq)) (H5:A.depth<o1)
  (hb:Binds C0 w A.in1 B fd args kw binds) (K5:∀x∈binds.map (·.1),fd.scope.names.lookup x=some .local)
  (h:∀L,L∉keys led->T C0 w (A.deeper (gv fd.scope L fd.globals fd.closure fd.qualname f fd.code fd.builtins)) B (gv fd.scope L fd.globals fd.closure fd.qualname f fd.code fd.builtins) E1
   (execs body (gv fd.scope L fd.globals fd.closure fd.qualname f fd.code fd.builtins)) ⟨binds.reverse,led⟩ (lS K))
  (S:C7 B s Z led) (hx:Vals Z args xs) (p_:E0 Z kw ks) (hR:HR B led K s Z R):codeAny (ZP C0 w) A (.call (.ref f) ⟨xs,ks⟩) R s:=by
 refine codeAny_call_function H5 ho hd Q4 Y_ M8 ⟨c,oc,vs,tq,hc,H_,U6,hq⟩ (hb s Z led xs ks S hx p_ _ _ fun bs s₁ Z1 S1 Ζ X1=>?_);have hR1:=hR.after X1;refine wpAny_newFunctionEnv (around:=none) I6 (fun x hx=>K5 x.1 (Ζ.keys▸ZO hx)) (fun h1 g_ K1=>?_) hk;have keep:∀b o,s₁.heap.get? b=some o->h1.get? b=some o:=fun b o e=>K1.extBut b o (j9 (e8 e)) (ZC _ e);have hf:=gm s₁;exact⟨hG.lim _ fun a o e=>keep a o (S1.frozen a o (S1.base a o e)),show codeAny _ A (.func body (gv fd.scope s₁.heap.objs.size fd.globals fd.closure fd.qualname f fd.code fd.builtins)) R _ from
  codeAny_func (h _ (S1.lfree hf) _ Z1 (D7.enter (S1.keep (s₁:={ s₁ with heap:=h1,toks:=s₁.toks+bs.length}) keep (fun O O e=>e) S1.bare) (S1.zfree hf) (S1.lfree hf) g_ Ζ K5 hk) _ _ (QL hR1 keep (fun a q=>q.elim (fun e => .inr (e▸hf)) .inl) rfl (fun O O h=>h) fun O h=>⟨h,h,h⟩))⟩
theorem WS{f:b0}{fd:A6}{led:aa}{K:AV->aa->Prop}{c:b0}{oc:Obj}{vs:Array Value}{tq:Tok}
  (hG:G1 B) (ho:B f=some o) (hd:o.data=.func fd) (Q4:fd.scope.isCoroutine=false) (Y_:fd.scope.isGenerator=false) (hk:fd.scope.kind=.function) (M8:fd.body=.stmts body)
  (I6:∀x∈fd.scope.names,x.2 ≠ .cell)
  (hc:fd.code=.ref c) (H_:B c=some oc) (U6:oc.data=.fields vs) (hq:vs[1]?=some (.str fd.qualname tq)) (H5:A.depth<o1)
  (hb:Binds C0 w A.in1 B fd args kw binds) (K5:∀x∈binds.map (·.1),fd.scope.names.lookup x=some .local)
  (h:∀L,L∉keys led->T C0 w (A.deeper (gv fd.scope L fd.globals fd.closure fd.qualname f fd.code fd.builtins)) B (gv fd.scope L fd.globals fd.closure fd.qualname f fd.code fd.builtins) E1
   (execs body (gv fd.scope L fd.globals fd.closure fd.qualname f fd.code fd.builtins)) ⟨binds.reverse,led⟩ (lS K)) :
  TC C0 w A B (.ref f) args kw led K:=fun s Z fx xs ks S hf hx p_ R hR=>by
 exact Val.eRef (P:=fun fx=>codeAny (ZP C0 w) A (.call fx ⟨xs,ks⟩) R s) (LC hG (S.frozen _ _ (S.base _ _ ho)) hd Q4 Y_ hk M8 I6 hc (S.frozen _ _ (S.base _ _ H_)) U6 hq H5 hb K5 h S hx p_ hR) fx hf
section
variable{s s':Zx}{Z Z':D3}{gl gl' led:aa}
theorem gg:a∈keys (gl++led)↔a∈keys gl∨a∈keys led:=by unfold keys;rw[ZT,d8]
theorem FS:gkeys (gl++led)=gkeys gl++gkeys led:=u9
theorem C7.live(S:C7 B s Z led)(h:a∈keys led):∃ob,s.heap.get? a=some ob:=ae (ZV.mp h) fun p hp e=>e▸(S.own p hp).live
theorem C7.zkey(S:C7 B s Z led)(h:a∈keys led):Z a=none:=ae (ZV.mp h) fun p hp e=>e▸S.apart p hp
theorem C7.tail(S:C7 B s Z (gl++led))(h:a∈keys led):a∉keys gl:=fun q =>
 (List.nodup_append.mp (ZT▸S.nodup:(keys gl++keys led).Nodup)).2.2 a q a h rfl
theorem C7.step(S:C7 B s Z (gl++led))(le:D3.le Z Z')(keep:∀b o,b∉keys gl->s.heap.get? b=some o->s'.heap.get? b=some o)
  (zn:∀a o,Z' a=some o->Z a=some o∨(s.heap.get? a=none/\s'.heap.get? a=some o)) (own:∀p∈gl',Holds Z' s' p.1 p.2)
  (kn:∀a∈keys gl',a∈keys gl∨(s.heap.get? a=none/\Z' a=none)) (nd:(keys gl').Nodup) (hg:(gkeys gl').Sublist (gkeys gl)) (r_:s'.gens=s.gens) (J5:s'.os=s.os) :
  C7 B s' Z' (gl'++led)/\E7 (aj (gl++led)) s Z s' Z' (aj (gl'++led)):=by
 have zk:∀a,a∈keys (gl++led)->Z' a=none:=fun a h=>by
  cases e:Z' a with
  |none=>rfl
  |some o=>exact(zn a o e).elim (fun q=>nomatch (S.zkey h).symm.trans q) fun q=>aw (S.live h) fun ob g=>nomatch q.1.symm.trans g
 have hgk:(gkeys (gl'++led)).Sublist (gkeys (gl++led)):=by rw[FS,FS];exact hg.append (.refl _)
 have nd2:=List.nodup_append.mp (ZT▸S.nodup:(keys gl++keys led).Nodup);refine⟨⟨S.base.trans le,fun a o e=>(zn a o e).elim (fun q=>keep a o (fun y=>nomatch (S.zkey (gg.mpr (.inl y))).symm.trans q) (S.frozen a o q)) And.right,?_,fun p hp=>?_,fun p hp=>?_,hgk.nodup S.gnodup,r_▸S.bare⟩,
  ⟨le,fun a o e ha=>keep a o (fun y=>ha (gg.mpr (.inl y))) e,fun a ha=>(gg.mp ha).elim (fun q=>(kn a q).imp (fun y=>gg.mpr (.inl y)) And.left) fun q => .inl (gg.mpr (.inr q)),
   fun a o e=>(zn a o e).imp id fun q => .inr q.1,J5,fun g gs e O=>r_▸e,fun g h => .inl (show g∈gkeys (gl++led) from hgk.subset (show g∈gkeys (gl'++led) from h))⟩⟩
 ·unfold keys;rw[ZT];exact List.nodup_append.mpr ⟨nd,nd2.2.1,fun a ha b hb e=>(kn a ha).elim (fun q=>nd2.2.2 a q b hb e) fun q=>aw (S.live (gg.mpr (.inr (e▸hb)))) fun ob g=>nomatch q.1.symm.trans g⟩
 ·exact(d8.mp hp).elim (fun q=>(kn _ (ZO q)).elim (fun y=>zk _ (gg.mpr (.inl y))) And.right) fun q=>zk _ (gg.mpr (.inr (ZO q)))
 ·exact(d8.mp hp).elim (own p) fun q=>Holds.mono (s:=s) le (fun o e=>keep _ o (S.tail (ZO q)) e) (fun O O O e=>r_▸e) (S.own p (ZY _ q))
theorem C7.stepS(S:C7 B s Z (gl++led))(keep:∀b o,b∉keys gl->s.heap.get? b=some o->s'.heap.get? b=some o)(own:∀p∈gl',Holds Z s' p.1 p.2)(hk:keys gl'=keys gl)(hg:gkeys gl'=gkeys gl)(r_:s'.gens=s.gens)(J5:s'.os=s.os) :
  C7 B s' Z (gl'++led)/\E7 (aj (gl++led)) s Z s' Z (aj (gl'++led)) :=
 S.step (.refl _) keep (fun O O e => .inl e) own (fun O h => .inl (hk▸h)) (hk▸(List.nodup_append.mp (ZT▸S.nodup:(keys gl++keys led).Nodup)).1) (hg▸.refl _) r_ J5
theorem C7.stepE(S:C7 B s Z (gl++led))(keep:∀b o,b∉keys gl->s.heap.get? b=some o->s'.heap.get? b=some o)(r_:s'.gens=s.gens)(J5:s'.os=s.os) :
  C7 B s' Z led/\E7 (aj (gl++led)) s Z s' Z (aj led) :=
 S.step (gl':=[]) (.refl _) keep (fun O O e => .inl e) (fun O h=>absurd h n5) (fun O h=>absurd h n5) List.nodup_nil (List.nil_sublist _) r_ J5
end
theorem C7.newAt{led:aa}(S:C7 B s Z led){h':Heap}{ao:D9}(W6:ao.gnum=none)(tk:Nat)(keep:∀b o,s.heap.get? b=some o->h'.get? b=some o)
  (hh:Holds Z {s with heap:=h',toks:=tk} s.heap.objs.size ao) :
  C7 B {s with heap:=h',toks:=tk} Z ((s.heap.objs.size,ao)::led)/\E7 (aj led) s Z {s with heap:=h',toks:=tk} Z (aj ((s.heap.objs.size,ao)::led)) :=
 C7.step (gl:=[]) (gl':=[(s.heap.objs.size,ao)]) S (.refl _) (fun b o O=>keep b o) (fun O O e => .inl e) (fun p hp=>ZK.mp hp▸hh) (fun a ha => .inr (ZK.mp ha▸⟨gm s,S.zfresh⟩))
  (ZL.mpr ⟨n5,List.nodup_nil⟩) (by unfold gkeys;rw[k9,W6];exact .refl _) rfl rfl
theorem yj{I:b0}{v:Value}{n:String}{vs:Array Value}{Q:Unit->Zx->Prop}(ho:s.heap.get? I=some o)(hc:o.cls=.type n)(hd:o.data=.fields vs)
  (hn:n = "list_iterator" ∨ n = "tuple_iterator" ∨ n = "range_iterator") (hQ:Q () s):ZS (ZP C0 w) A (g5 C3 (.ref I) v) Q E s:=by
 have key:∀a,ZS (ZP C0 w) A (g5 (.Tuple [] 0 default) (.ref I) (.ref a)) Q E s:=fun a=>by
  refine Zq (wpAny_load ho ?_);rw[hc,hd];refine cS (fun q=>?_) (Zs hQ);rcases hn with rfl |rfl |rfl <;> exact absurd (Bool.and_eq_true_iff.mp q).1 (by decide)
 cases C3
 case Tuple=>cases v <;> first |exact Zs hQ |exact key _
 case List=>cases v <;> first |exact Zs hQ |exact key _
 all_goals exact Zs hQ
def bn(B:D3)(x:Str)(v:AV):Prop :=
 ∀(M:Model) (A:ZI) (s:Zx) (Z:D3) (C1:Env),D3.le B Z->(∀a o,Z a=some o->s.heap.get? a=some o)->C1.globals=l9->C1.builtins=s7->∀(Q:Value->Zx->Prop) (E:Value->Zx->Prop),
  (∀u,Val Z v u->Q u s)->ZS M A (loadGlobal C1 x) Q E s
theorem xN{es:Array DictEntry}{ep:Nat}(hB:B a=some o)(hd:o.data=.dict es ep)(hk:StrKeys es)(le:D3.le B Z)(fr:∀a o,Z a=some o->s.heap.get? a=some o) :
  s.heap.Ns a (nsFind es):=⟨o,es,ep,fr _ _ (le _ _ hB),hd,hk,fun O=>rfl⟩
theorem SD{u:Value}{es:Array DictEntry}{ep:Nat}(hB:B l9=some o)(hd:o.data=.dict es ep)(hk:StrKeys es)(e:nsFind es x=some u)(hv:∀Z,Val Z v u):bn B x v :=
 fun M A s Z C1 le fr hg hb Q E hQ=>Calls.loadGlobal_global (by rw[hg];exact xN hB hd hk le fr) e (hQ u (hv Z))
theorem FG{u:Value}{o':Obj}{es es':Array DictEntry}{ep ř:Nat}(hB:B l9=some o)(hd:o.data=.dict es ep)(hk:StrKeys es)(e:nsFind es x=none)
  (D_:B s7=some o') (Ε:o'.data=.dict es' ř) (hk':StrKeys es') (e':nsFind es' x=some u) (hv:∀Z,Val Z v u):bn B x v :=
 fun M A s Z C1 le fr hg hb Q E hQ=>Calls.loadGlobal_builtin (by rw[hg];exact xN hB hd hk le fr) e (by rw[hb];exact xN D_ Ε hk' le fr) e' (hQ u (hv Z))
theorem HE(hx:bn B x v)(hk:C1.kindOf x=some .globalImplicit)(hg:C1.globals=l9)(hb:C1.builtins=s7)
  (hd:(x==("__debug__" : Str))=false) (h:K v st):T C0 w A B C1 Val (k7 (.Name x pos) C1) st K:=fun s Z S Q E hQ =>
 Calls.Name_function_global S.fn hk (hx _ _ s Z C1 S.base S.frozen hg hb _ _ fun u V=>hQ v u s Z st h S V .refl) hd
theorem sW{K:List AV->St->Prop}(h:K [] st):T C0 w A B C1 Vals (spliced (u5 pos (f0 [] C1))) st K:=fun s Z S Q E hQ=>Calls.spliced_nil (hQ _ _ s Z st h S .nil .refl)
theorem Xd{e:Expr}{rest:List Expr}{K:List AV->St->Prop}(hs:f0 (e::rest) C1=(false,k7 e C1)::f0 rest C1)
  (h:T C0 w A B C1 Val (k7 e C1) st fun v E5=>T C0 w A B C1 Vals (spliced (u5 pos (f0 rest C1))) E5 fun vs F9=>K (v::vs) F9) :
  T C0 w A B C1 Vals (spliced (u5 pos (f0 (e::rest) C1))) st K:=fun s Z S Q E hQ=>by
 exact(Eq.symm (hs))▸Calls.spliced_cons (h s Z S _ _ fun v1 G2 s₁ Z1 E5 k₁ S1 V1 X1=>k₁ s₁ Z1 S1 _ _ fun v2 x2 s2 Z2 F9 k2 S2 V2 X2=>hQ _ _ s2 Z2 F9 k2 S2 (.cons (V1.mono X2.le) V2) (X1.trans X2))
def FC(C0:ZJ)(w:ZQ)(A:ZI)(B:D3)(C1:Env)(f:AV)(args:List AV)(kw:List (Str×AV))(st:St)(K:AV->St->Prop):Prop :=
 ∀(s:Zx) (Z:D3) (fx:Value) (xs:List Value) (ks:List (Str×Value)),Val Z f fx->Vals Z args xs->E0 Z kw ks->D7 B C1 s Z st->∀(Q:Value->Zx->Prop) (E:Value->Zx->Prop),
  HQ B C1 Val st K s Z Q->ZS (ZP C0 w) A (call fx xs ks) Q E s
theorem FC.b{n:String}
  (h:∀s Z,D7 B C1 s Z st->∀Q E,HQ B C1 Val st K s Z Q->∀xs,Vals Z args xs->ZS (ZP C0 w) A (call (.builtin n) xs []) Q E s):FC C0 w A B C1 (.blt n) args [] st K :=
 fun s Z fx xs ks hf hx hk S Q E hQ=>by
  cases hf
  cases hk
  exact h s Z S Q E hQ xs hx
theorem FC.t{n:String}
  (h:∀s Z,D7 B C1 s Z st->∀Q E,HQ B C1 Val st K s Z Q->∀xs,Vals Z args xs->ZS (ZP C0 w) A (call (.type n) xs []) Q E s):FC C0 w A B C1 (.typ n) args [] st K :=
 fun s Z fx xs ks hf hx hk S Q E hQ=>by
  cases hf
  cases hk
  exact h s Z S Q E hQ xs hx
theorem zL{f:AV}(h:TC C0 w A B f args kw st.led fun v led'=>K v ⟨st.loc,led'⟩):FC C0 w A B C1 f args kw st K :=
 fun s Z fx xs ks hf hx hk S Q E hQ=>t8 (h s Z fx xs ks S.toC7 hf hx hk _ fun v x s' Z' led' k L V X=>hQ v x s' Z' ⟨st.loc,led'⟩ k (S.after L X) V X.toF)
def fS(C0:ZJ)(w:ZQ)(B:D3)(f:AV):Prop :=
 ∀(A:ZI) (s:Zx) (Z:D3) (fx:Value),Val Z f fx->D3.le B Z->(∀a o,Z a=some o->s.heap.get? a=some o)->∀(Q:Keeper->Zx->Prop) (E:Value->Zx->Prop),(∀k,Q k s)->ZS (ZP C0 w) A (keeperOf fx) Q E s
theorem jh{id:String}:fS C0 w B (.blt id):=fun A s Z fx V le fr Q E hQ=>by cases V;exact Zs (hQ _)
theorem Re{n:String}:fS C0 w B (.typ n):=fun A s Z fx V le fr Q E hQ=>by cases V;exact Zs (hQ _)
theorem Ri{id:String}{self:AV}:fS C0 w B (.bm id self):=fun A s Z fx V le fr Q E hQ=>by
 refine bW (yC V) fun O O qv e h=>?_;subst qv;unfold keeperOf;refine Zq (wpAny_load (fr _ _ e) ?_);exact Zs (hQ _)
theorem Gl{fx:Value}{Q:Args->Zx->Prop}(h:ZS (ZP C0 w) A (spliced []) (fun vs s'=>Q ⟨vs,[]⟩ s') E s):ZS (ZP C0 w) A (evalArgs fx true [] []) Q E s:=by
 unfold evalArgs;show ZS _ A (spliced []>>=_) Q E s;refine Zq (e9 h (fun vs s' h'=>?_) fun O O x=>x);refine Zq (Zs ?_);refine ZF ?_;exact Zq (Zs (Zq (Zs (Zs h'))))
def CA(C0:ZJ)(w:ZQ)(A:ZI)(B:D3)(C1:Env)(pos:Pos)(f:AV)(first:List AV)(args:List Expr)(st:St)(K:AV->St->Prop):Prop :=
 ∀(s:Zx) (Z:D3) (fx:Value) (xs:List Value),Val Z f fx->Vals Z first xs->D7 B C1 s Z st->∀(Q:Value->Zx->Prop) (E:Value->Zx->Prop),
  HQ B C1 Val st K s Z Q->ZS (ZP C0 w) A (callWith pos fx xs (u5 pos (f0 args C1)) []) Q E s
theorem ds{f:AV}{first:List AV}{args:List Expr}(J8:((u5 pos (f0 args C1)).all fun x => !x.1)=true)(hk:fS C0 w B f)
  (h:T C0 w A B C1 Vals (spliced (u5 pos (f0 args C1))) st fun vs E5=>FC C0 w A B C1 f (first++vs) [] E5 K):CA C0 w A B C1 pos f first args st K:=fun s Z fx xs hf hxs S Q E hQ=>by
 unfold callWith;have κ:∀ {Q':Args->Zx->Prop},(∀v x s' Z' C4,FC C0 w A B C1 f (first++v) [] C4 K->D7 B C1 s' Z' C4->Vals Z' v x->E7 (aC C1 st) s Z s' Z' (aC C1 C4)->Q' ⟨x,[]⟩ s') ->
   ZS (ZP C0 w) A (evalArgs fx true (u5 pos (f0 args C1)) []) Q' E s:=fun{Q'} î=>by
  have N3:=h s Z S (fun x s'=>Q' ⟨x,[]⟩ s') E î;revert N3 J8;generalize u5 pos (f0 args C1)=l;intro J8 N3;cases l with
  |nil=>exact Gl N3
  |cons y r =>
   obtain⟨b,t⟩:=y
   have:b=false:=by simpa using (c5.mp J8 (b,t) (Zr ..))
   subst this;exact Calls.evalArgs_plain N3
 refine Zq (ZF (κ fun vs x s₁ Z1 E5 k₁ S1 V1 X1=>Zq (a9 ?_)));refine Zq (hk A s₁ Z1 fx (hf.mono X1.le) S1.base S1.frozen _ _ fun k=>?_);have I2:ZS (ZP C0 w) A (call fx (xs++x) []) (fun r s'=>ZS (ZP C0 w) A (do A9 [r] point;o4 r) Q E s') E s₁ :=
  k₁ s₁ Z1 fx _ [] (hf.mono X1.le) ((hxs.mono X1.le).append V1) .nil S1 _ _ fun v y s' Z' C4 k S' V X=>Zq (ZF (wpAny_point (Zs (hQ v y s' Z' C4 k S' V (X1.trans X)))))
 have Τ:∀l,ZS (ZP C0 w) A (operate l (call fx (xs++x) [])>>=fun r=>(do A9 [r] point;o4 r)) Q E s₁:=fun l=>Zq (fun Γ p S8=>by rw[Sem.wp_operate];exact I2 Γ p S8);have hm:∀m,ZS (ZP C0 w) A (callMarked m fx (xs++x) []>>=fun r=>(do A9 [r] point;o4 r)) Q E s₁:=fun m=>Zq (by unfold callMarked;exact Calls.wpAny_keep I2);generalize (((u5 pos (f0 args C1)).any fun x=>x.fst)||([]:List (Option Str×Sem Value)).any fun x=>x.fst.isNone)=b;cases k <;> cases b <;> first
  |exact Τ _
  |exact hm _
  |exact Zq I2
  |exact wpAny_ite (by split <;> first |exact Zq I2 |exact hm _)
theorem zG{func:Expr}{args:List Expr}(hc:k7 (.Call func args [] pos) C1=(do callWith pos (← k7 func C1) [] (u5 pos (f0 args C1)) []))
  (h:T C0 w A B C1 Val (k7 func C1) st fun f E5=>CA C0 w A B C1 pos f [] args E5 K):T C0 w A B C1 Val (k7 (.Call func args [] pos) C1) st K:=fun s Z S Q E hQ=>by
 rw[hc];exact Zq (h s Z S _ _ fun f x s₁ Z1 E5 k₁ S1 V1 X1=>k₁ s₁ Z1 x [] V1 .nil S1 _ _ fun v y s' Z' C4 k S' V X=>hQ v y s' Z' C4 k S' V (X1.trans X))
def eb(B:D3)(v:AV)(led:aa)(T:String):Prop :=
 ∀(s:Zx) (Z:D3) (x:Value),Val Z v x->C7 B s Z led->s.TypeIs x T/\∀a,x=.ref a->∃o,s.heap.get? a=some o/\o.dict=none
theorem lD{led:aa}:eb B (.str x) led "str" := fun s Z u V S=>by cases V;exact⟨typeIs_str s x _,fun a e=>nomatch e⟩
theorem bz{led:aa}(hm:(a,.list xs)∈led):eb B (.ref a) led "list" := fun s Z u V S=>by
 (have e_:=V.inv;subst e_)
 refine bI (S.own _ hm) fun items n g O=>?_;exact⟨⟨_,g,rfl⟩,fun b e=>by cases e;exact bB _ g rfl⟩
theorem tT{led:aa}:eb B (.lst xs) led "list" := fun s Z u V S=>by
 refine bv (ex V) fun O O O qv e h=>?_;subst qv;exact⟨⟨_,S.frozen _ _ e,rfl⟩,fun b q=>by cases q;exact bB _ (S.frozen _ _ e) rfl⟩
theorem zD{o:Expr}{O0:Pos}{args:List Expr}{T' id:String}
  (M9:attributeBase o name C1 (k7 o C1)=k7 o C1)
  (u_:((u5 pos (f0 args C1)).all (fun x => !x.1)&&(backToKw pos (keywordEach [] C1)).all (fun x=>x.1.isSome)
   && decide (args.length+([]:List Keyword).length+(if ([]:List Keyword).isEmpty then 0 else 1)<30))=true)
  (M6:(O0.endLine==pos.line)=true) (pa:PlainAttrs T') (slot:Slot T' name id) (R_:typeOf (.builtin id)=o4 (.type "method_descriptor"))
  (h:T C0 w A B C1 Val (k7 o C1) st fun v E5=>eb B v E5.led T'/\CA C0 w A B C1 pos (.blt id) [v] args E5 K) :
  T C0 w A B C1 Val (k7 (.Call (.Attribute o name O0) args [] pos) C1) st K:=fun s Z S Q E hQ =>
 wpAny_Call_method M9 u_ M6 pa slot R_ (h s Z S _ _ fun v x s₁ Z1 E5 k₁ S1 V1 X1 =>
  ⟨(k₁.1 s₁ Z1 x V1 S1.toC7).1,(k₁.1 s₁ Z1 x V1 S1.toC7).2,k₁.2 s₁ Z1 _ [x] (.blt id) (.cons V1 .nil) S1 _ _ fun v y s' Z' C4 k S' V X=>hQ v y s' Z' C4 k S' V (X1.trans X)⟩)
section
open PySem PySem.W PySem.Builtin PySem.Builtin.Str
inductive R4:Value->Str->Nat->Prop
 |str {x:Str} {t:Tok} {k:Nat} (h:x.length<=k):R4 (.str x t) x k
 |int {n:Int} {u:Tok} (h0:0<=n) (h1:n<10^10):R4 (.int n u) (Zw (A3 n)) 10
theorem R4.len{v:Value}(h:R4 v x k):x.length<=k:=by
 cases h with
 |str h=>exact h
 |int h0 h1=>exact PyProof.Rows.toString_length_le h0 (by decide) h1
inductive b_ (n:Nat):List Nat->List Value->Str->Nat->Str->Nat->Nat->Prop
 |done {T:Str} {N:Nat}:b_ n [] [] T N T N 0
 |lit {r l rest:List Nat} {vs:List Value} {T T1 T':Str} {N N' c:Nat} (hr:r.isEmpty=false) (hN:N<=16777216) (hl:(l.length==n)=false) (h:nextMarkup r=.ok (l,none,rest)) {L:Str} (hL:⟨l.toArray⟩=L) (e:T++L=T1) (p:b_ n rest vs T1 (N+l.length) T' N' c):b_ n r vs T N T' N' (c+1)
 |field {r l rest:List Nat} {v:Value} {vs:List Value} {x T T1 T':Str} {k N N' c:Nat} (hr:r.isEmpty=false) (hN:N<=16777216) (hl:(l.length==n)=false) (h:nextMarkup r=.ok (l,some ⟨[],none,[],false⟩,rest))
   (hx:R4 v x k) {L:Str} (hL:⟨l.toArray⟩=L) (e:(T++L)++x=T1) (p:b_ n rest vs T1 (N+l.length+k) T' N' c):b_ n r (v::vs) T N T' N' (c+1)
theorem Iz{v:Value}(h:R4 v x k)(hQ:∀t m,Q (.str x t) {s with toks:=m}):ZS (ZP C0 w) A (formatOf v ⟨[].toArray⟩) Q E s:=by
 cases h with
 |str h=>exact f9 (KFm.formatOf_str _ _) (hQ _ s.toks)
 |int h0 h1=>exact KFm.formatOf_int (PyProof.Rows.shown (N:=2^1920) (Int.lt_of_lt_of_le (by decide +kernel) h0) (Int.lt_of_lt_of_le h1 (by decide +kernel)) (Int.le_refl _)) hQ
theorem Gw{xs ys:List α}{x:α}(h:xs.drop i=x::ys):xs.toArray[i]?=some x/\xs.drop (i+1)=ys:=by
 have e:(xs.drop i)[0]?=some x:=h▸rfl;rw[List.getElem?_drop] at e;exact⟨(List.getElem?_toArray ..).trans e,List.drop_drop.symm.trans (h▸rfl)⟩
section
variable{ÿ:List Value}{f:Nat->Writer×Numbering×List Nat->Sem (ForInStep (Writer×Numbering×List Nat))}
structure Body (C0:ZJ) (w:ZQ) (A:ZI) (E:Value->Zx->Prop) (n:Nat) (ÿ:List Value) (f:Nat->Writer×Numbering×List Nat->Sem (ForInStep (Writer×Numbering×List Nat))):Prop where
 stop:∀x wr num,f x (wr,num,[])=o4 (.done (wr,num,[]))
 lit:∀ {x wr num r l rest},r.isEmpty=false -> ¬ tooLong wr.total=true->(l.length==n)=false->nextMarkup r=.ok (l,none,rest)->f x (wr,num,r)=o4 (.yield (wr.add ⟨l.toArray⟩ none,num,rest))
 field:∀ {x wr num r l rest v y k i} {s:Zx} {Q:ForInStep (Writer×Numbering×List Nat)->Zx->Prop},r.isEmpty=false -> ¬ tooLong wr.total=true->(l.length==n)=false->nextMarkup r=.ok (l,some ⟨[],none,[],false⟩,rest) ->
  R4 v y k->ÿ.toArray[i]?=some v->(num=.unset/\i=0∨num=.auto i)->(∀o m,KPc.Obj o y->Q (.yield ((wr.add ⟨l.toArray⟩ none).add y o,.auto (i+1),rest)) {s with toks:=m})->ZS (ZP C0 w) A (f x (wr,num,r)) Q E s
theorem LD(hf:Body C0 w A E n ÿ f){r:List Nat}{T T':Str}{N N':Nat}(hp:b_ n r vs T N T' N' c):∀ {l:List Nat} {wr:Writer} {num:Numbering} {i:Nat} {s:Zx} {Q:Writer×Numbering×List Nat->Zx->Prop},c<=l.length->KPc.Good wr T N->ÿ.drop i=vs ->
  (num=.unset/\i=0∨num=.auto i)->(∀wr' Ą m,KPc.Good wr' T' N'->Q (wr',Ą,[]) {s with toks:=m})->ZS (ZP C0 w) A (forIn l (wr,num,r) f) Q E s:=by
 induction hp with
 |done =>
  intro l wr num i s Q _ g _ _ hQ;cases l with
  |nil=>exact Zs (hQ wr num s.toks g)
  |cons x l=>exact KPc.turn (hf.stop x wr num▸Zs (hQ wr num s.toks g))
 |lit hr hN0 hl0 h hL e p ih =>
  subst hL;intro l wr num i s Q hl g hi hn hQ;cases l with
  |nil=>exact absurd hl (Nat.not_succ_le_zero _)
  |cons x l=>exact KPc.turn (hf.lit hr (KPc.short_good g hN0) hl0 h▸Zs (ih (Nat.le_of_succ_le_succ hl) (e▸KPc.good_add g (KPc.obj_none rfl)) hi hn hQ))
 |field hr hN0 hl0 h hx hL e p ih =>
  subst hL;intro l wr num i s Q hl g hi hn hQ;cases l with
  |nil=>exact absurd hl (Nat.not_succ_le_zero _)
  |cons x l=>exact KPc.turn (hf.field hr (KPc.short_good g hN0) hl0 h hx (Gw hi).1 hn fun o m ho=>ih (Nat.le_of_succ_le_succ hl) (e▸KPc.good_mono (KPc.good_add (KPc.good_add g (KPc.obj_none rfl)) ho) (Nat.add_le_add_left hx.len _)) (Gw hi).2 (.inr rfl) hQ)
end
theorem NM{byName:Str->Sem Value}{self:Value}{ĳ:List Nat}{N':Nat}{T':Str}{Q:PySem.Fin->Zx->Prop}
  (hp:b_ ĳ.length ĳ vs Str.empty 0 T' N' c) (hc:c<=ĳ.length) (hN:N'<=16777216) (hQ:∀t m,Q (.done (.ret (.str T' t))) {s with toks:=m}) :
  ZS (ZP C0 w) A (buildString "str.format" (some vs.toArray) byName 2 ĳ (some self) .unset>>=fun r=>r.1.finish "str.format") Q E s:=by
 refine Zq (Zq ?_);rw[KPc.range_list];refine KFm.start fun wr g=>LD (n:=ĳ.length) (ÿ:=vs) ⟨fun x wr num=>rfl,fun hr ht hl h=>?_,fun hr ht hl h hx hv hn hQ=>?_⟩ hp (d7 hc (Nat.le_of_eq (List.length_range' ..).symm)) g rfl (.inl ⟨rfl,rfl⟩) fun wr' Ą m g=>Zs (KPc.finish_ok g hN rfl fun t k=>hQ t k)
 ·dsimp only;rw[if_neg fun q=>d3 (hr.symm.trans q),if_neg ht,h];dsimp only;rw[if_neg fun q=>d3 (hl.symm.trans q)]
 ·refine wpAny_ite (KPc.ite_no (fun q=>d3 (hr.symm.trans q)) ?_);refine wpAny_ite (KPc.ite_no ht ?_);dsimp only;rw[h];dsimp only;rw[if_neg fun q=>d3 (hl.symm.trans q)];refine Zq (KFm.field_auto hn hv ?_);refine Zq (ZF (f9 (a:=_) rfl ?_));refine wpAny_ite (KPc.ite_no d3 ?_);refine Zq (Zs ?_);refine Zq (ZF (Iz hx fun t m=>?_));refine Zq (f9 (a:=some _) rfl ?_);refine Zs (hQ _ m ?_);intro u hu;split at hu
  ·exact⟨_,(r7 hu).symm⟩
  ·exact nomatch hu
theorem fY{F:List Nat}{t:Tok}{T':Str}{N':Nat}(hp:b_ F.length F vs Str.empty 0 T' N' c)(hc:c<=F.length)(hN:N'<=16777216) :
  Meets (Builtin.«str.format» ⟨.str ⟨F.toArray⟩ t::vs,[]⟩) (fun O R s=>∀t' k,R (.ok (.ret (.str T' t'))) {s with toks:=k}) :=
 KPc.meets_of fun C0 w A s Q E hQ=>Zq (m:=strSelf ⟨.str ⟨F.toArray⟩ t::vs,[]⟩) (f9 (a:=(_,_,_)) rfl (NM hp hc hN hQ))
theorem Py{n:Int}{t u:Tok}(h0:0<=n)(h1:n<10^10):Meets (Builtin.«str.format» ⟨[.str (Str.mk #[123,125]) t,.int n u],[]⟩) (fun O R s=>∀t' k,R (.ok (.ret (.str (Zw (A3 n)) t'))) {s with toks:=k}) :=
 fY (F:=[123,125]) (.field (l:=[]) (rest:=[]) (L:=Zw "") rfl (j5 rfl) rfl rfl (.int h0 h1) (by decide +kernel) KFm.cat_ee .done) (j5 rfl) (j5 rfl)
theorem Px{n m:Int}{t u u':Tok}(h0:0<=n)(h1:n<10^10)(h2:0<=m)(h3:m<10^10):Meets (Builtin.«str.format» ⟨[.str (Str.mk #[123,125,44,123,125]) t,.int n u,.int m u'],[]⟩)
  (fun O R s=>∀t' k,R (.ok (.ret (.str ((Zw (A3 n)++Zw ",")++Zw (A3 m)) t'))) {s with toks:=k}) :=
 fY (F:=[123,125,44,123,125]) (.field (l:=[]) (rest:=[44,123,125]) (L:=Zw "") rfl (j5 rfl) rfl rfl (.int h0 h1) (by decide +kernel) KFm.cat_ee
  (.field (l:=[44]) (rest:=[]) (L:=Zw ",") rfl (j5 rfl) rfl rfl (.int h2 h3) (by decide +kernel) rfl .done)) (j5 rfl) (j5 rfl)
end
noncomputable def am(K:Frag):D3:=fun a=>K.lookup a
theorem dg{K:Frag}(le:D3.le (am K) Z)(fr:∀a o,Z a=some o->s.heap.get? a=some o):K.In s.heap:=fun a o e=>fr a o (le a o e)
section
variable{K:Frag}
theorem Binds.peek{fd:A6}
  (h:∀(Z:D3) (xs:List Value) (ks:List (Str×Value)),Vals Z args xs->E0 Z kw ks->∃bs,f1 K ⟨C0,w.params⟩ (bindArgs fd ⟨xs,ks⟩)=some bs/\E0 Z binds bs) :
  Binds C0 w A (am K) fd args kw binds:=fun s Z led xs ks S hx hk Q E hQ=>by
 refine ae (h Z xs ks hx hk) fun bs e hb=>?_;exact y5 (M:=ZP C0 w) (dg S.base S.frozen) e A Q E s (fun b o e=>e) (hQ bs s Z S hb .refl)
theorem Binds.pk{fd:A6}
  (h:∀(Z:D3) (xs:List Value),Vals Z args xs->∃bs,f1 K ⟨C0,w.params⟩ (bindArgs fd ⟨xs,[]⟩)=some bs/\E0 Z binds bs) :
  Binds C0 w A (am K) fd args [] binds:=Binds.peek fun Z xs ks hx hk=>E0.un0 (P:=fun ks=>∃bs,f1 K ⟨C0,w.params⟩ (bindArgs fd ⟨xs,ks⟩)=some bs/\E0 Z binds bs) (h Z xs hx) ks hk
def bF(K:Frag)(f:b0)(gen:Bool)(fd:A6)(body:List Stmt)(c:b0):Prop :=
 (∃o,K.lookup f=some o/\o.data=.func fd)/\fd.body=.stmts body/\fd.code=.ref c/\fd.closure=[]/\fd.globals=l9/\fd.builtins=s7 /\
 (∃oc vs tq,K.lookup c=some oc/\oc.data=.fields vs/\vs[1]?=some (.str fd.qualname tq)) /\
 (fd.scope.isCoroutine=false/\fd.scope.isGenerator=gen/\fd.scope.kind=.function)/\(fd.scope.names.all fun x=>decide (x.2 ≠ .cell))=true
noncomputable abbrev bf(fd:A6)(L f c:b0):Env:=gv fd.scope L l9 [] fd.qualname f (.ref c) s7
theorem zH{f c:b0}{fd:A6}{led:aa}{R:AV->aa->Prop}
  (hG:G1 (am K)) (ok:bF K f false fd body c) (H5:A.depth<o1) (hb:Binds C0 w A.in1 (am K) fd args kw binds)
  (K5:((binds.map (·.1)).all fun x=>decide (fd.scope.names.lookup x=some .local))=true)
  (h:∀L,L∉keys led->T C0 w (A.deeper (bf fd L f c)) (am K) (bf fd L f c) E1 (execs body (bf fd L f c)) ⟨binds.reverse,led⟩ (lS R)) :
  TC C0 w A (am K) (.ref f) args kw led R:=by
 refine It ok fun O1 M8 hc ë hg Ω O7 O8 h4=>?_;clear ok;obtain⟨o,ho,hd⟩:=O1;obtain⟨oc,vs,tq,H_,U6,hq⟩:=O7;obtain⟨h1,h2,h3⟩:=O8;refine WS hG ho hd h1 h2 h3 M8 (fun x hx=>of_decide_eq_true (c5.mp h4 x hx)) hc H_ U6 hq H5 hb (fun x hx=>of_decide_eq_true (c5.mp K5 x hx)) fun L hL=>?_;exact(Eq.symm (ë))▸(Eq.symm (hg))▸(Eq.symm (Ω))▸(Eq.symm (hc))▸h L hL
theorem zO{X:Str}{vs:List AV}{T':Str}
  (hm:∀Z t xs,Vals Z vs xs->B2 "str.format" ⟨.str X t::xs,[]⟩/\Meets (Builtin.«str.format» ⟨.str X t::xs,[]⟩) (fun O R s=>∀t' k,R (.ok (.ret (.str T' t'))) {s with toks:=k}))
  (h:R (.str T') st):FC C0 w A B C1 (.blt "str.format") (.str X::vs) [] st R:=FC.b fun s Z S Q E hQ=>Vals.un <| Val.eStr fun t xs ht =>
 KFm.call_k rfl (hm Z t xs ht).1 (hm Z t xs ht).2 fun t' k=>hQ _ _ _ Z st h (S.toks _) (.str _ _) (.toks _)
theorem Ib{X:Str}{T':Str}
  (hm:∀Z t x,Val Z v x->Meets (Builtin.«str.format» ⟨[.str X t,x],[]⟩) (fun O R s=>∀t' k,R (.ok (.ret (.str T' t'))) {s with toks:=k}))
  (h:R (.str T') st):FC C0 w A B C1 (.blt "str.format") [.str X,v] [] st R :=
 zO (fun Z t=>Vals.un fun x hx=>Vals.un0 ⟨KFm.args_2 _ _,hm Z t x hx⟩) h
theorem zN{X:Str}{u:AV}{T':Str}
  (hm:∀Z t x,Val Z v x->∀y,Val Z u y->Meets (Builtin.«str.format» ⟨[.str X t,x,y],[]⟩) (fun O R s=>∀t' k,R (.ok (.ret (.str T' t'))) {s with toks:=k}))
  (h:R (.str T') st):FC C0 w A B C1 (.blt "str.format") [.str X,v,u] [] st R :=
 zO (fun Z t=>Vals.un fun x hx=>Vals.un fun y hy=>Vals.un0 ⟨KFm.args_3 _ _ _,hm Z t x hx y hy⟩) h
theorem tc{X:Str}{u r:AV}{T':Str}
  (hm:∀Z t x,Val Z v x->∀y,Val Z u y->∀z,Val Z r z->Meets (Builtin.«str.format» ⟨[.str X t,x,y,z],[]⟩) (fun O R s=>∀t' k,R (.ok (.ret (.str T' t'))) {s with toks:=k}))
  (h:R (.str T') st):FC C0 w A B C1 (.blt "str.format") [.str X,v,u,r] [] st R :=
 zO (fun Z t=>Vals.un fun x hx=>Vals.un fun y hy=>Vals.un fun z hz=>Vals.un0 ⟨KFm.args_4 _ _ _ _,hm Z t x hx y hy z hz⟩) h
end
theorem zQ{n:Int}(h0:0<=n)(h1:n<10^10)(h:R (.str (Zw (A3 n))) st):FC C0 w A B C1 (.blt "str.format") [.str (Str.mk (k6 [123,125])),.int n] [] st R :=
 Ib (fun Z t=>Val.eInt fun O=>Py h0 h1) h
theorem zP{n m:Int}(h0:0<=n)(h1:n<10^10)(h2:0<=m)(h3:m<10^10)(h:R (.str ((Zw (A3 n)++Zw ",")++Zw (A3 m))) st) :
  FC C0 w A B C1 (.blt "str.format") [.str (Str.mk (k6 [123,125,44,123,125])),.int n,.int m] [] st R :=
 zN (fun Z t=>Val.eInt fun O=>Val.eInt fun O=>Px h0 h1 h2 h3) h
structure D6 (A:ZI) (k:Nat):Prop where
 h:A.handled=none
 d:A.depth+k<=o1
 u:A.units+k<=cLine
theorem D6.mono(r:D6 A k)(h:j<=k):D6 A j:=⟨r.h,d7 (Nat.add_le_add_left h _) r.d,d7 (Nat.add_le_add_left h _) r.u⟩
theorem D6.in1(r:D6 A (k+1)):D6 A.in1 k:=⟨r.h,d7 (Nat.add_le_add_left (Nat.le_succ k) _) r.d,by have:=r.u;show A.units+1+k<=cLine;omega⟩
theorem D6.deeper(r:D6 A (k+3)):D6 (A.deeper C1) k:=⟨r.h,by have:=r.d;show A.depth+1+k<=_;omega,by have:=r.u;show A.units+3+k<=cLine;omega⟩
theorem D6.lt(r:D6 A (k+1)):A.depth<o1:=by have:=r.d;omega
theorem D6.ult(r:D6 A (k+1)):A.units<cLine:=by have:=r.u;omega
section
variable{M:Model}{Φ:End->Zx->Prop}{c:Code}{fs:List Frame}
def be(M:Model)(A:ZI)(Φ:End->Zx->Prop)(c:Code)(t:Sem Fin)(fs:List Frame)(s:Zx):Prop :=
 ∀Γ p,Γ.code=c->Γ.Woken A->∃e s',Runs M Γ p t fs s e s'/\Φ e s'
theorem dL{m:Sem α}{K:α->Sem Fin}{H:Value->Sem Fin}{gd lv}
  (h:ZS M (A.over c fs) m (fun a s'=>be M A Φ c (K a) fs s') (fun x s'=>be M A Φ c (H x) fs s') s):be M A Φ c (m.wrap K H gd lv) fs s:=by
 rintro Γ p rfl S8
 exact runs_wrap_of_wp K H gd lv m (h (Γ.over fs) p (S8.over fs)) (fun a p' s' h'=>h' Γ p' rfl S8) (fun x p' s' h'=>h' Γ p' rfl S8)
theorem iA{p':Pos}{k:Unit->Sem Fin}(h:be M A Φ c (k ()) fs s):be M A Φ c (.at p' k) fs s :=
 dL (m:=standAt p') (K:=k) (H:=.raise) (gd:=id) (lv:=id) (a9 h)
theorem Ll{l:List Value}{k:Unit->Sem Fin}(h:be M A Φ c (k ()) fs s):be M A Φ c (.point l k) fs s :=
 dL (m:=point) (K:=k) (H:=.raise) (gd:=id) (lv:=fun O=>l) (wpAny_point h)
theorem Ln{c':Code}{h g l}{k:Result->Sem Fin}(hc:∀p,be M A Φ c' (M.den c') (.ret k h g l c p []::fs) s):be M A Φ c (.call c' h g l k) fs s:=by
 rintro Γ p rfl S8
 refine bI (hc p (Γ.goto c') p rfl (S8.goto c')) fun e s' hr he=>?_;exact ed e s' (runs_call_seg hr) he
theorem Lm{k h g l c₁ p1 kp}(r:Result)(hk:be M A Φ c₁ (k r) fs s):be M A Φ c (leafOf r) (.ret k h g l c₁ p1 kp::fs) s:=by
 rintro Γ p rfl S8
 refine bI (hk (Γ.goto c₁) p1 rfl (S8.goto c₁)) fun e s' hr he=>?_;exact ed e s' (Runs.pop r hr) he
theorem lQ{c':Code}(hq:c'.quiet=true)(hc:be M A Φ c' (M.den c') fs s):be M A Φ c (.pure (.again c')) fs s:=by
 rintro Γ p rfl S8
 refine bI (hc (Γ.goto c') p rfl (S8.goto c')) fun e s' hr he=>?_;exact ed e s' (Runs.head (c₁:=c') (fun O O x => .again hq x) hr) he
theorem Br(r:Result)(h:Φ (.ret r) s):be M A Φ c (leafOf r) [] s:=by
 rintro Γ p rfl _
 exact ed (.ret r) s (Runs.leaf r) h
theorem Bq{v g l}{k:Resume->Sem Fin}(hfs:splitAtGen fs=none)(h:∀p,Φ (.susp v g l k c p fs) s):be M A Φ c (.yield v g l k) fs s:=by
 rintro Γ p rfl _
 exact ed _ s (Runs.yield' fs hfs) (h p)
set_option backward.match.sparseCases false in
def oJ(M:Model)(A:ZI)(Φ:End->Zx->Prop)(gs:y7)(s:Zx):Prop :=
 match gs with
 |.fresh c=>be M A Φ c (M.den c) [] s
 |.suspended k _ c _ fs _=>be M A Φ c (k (.send .none)) fs s
 |_=>False
theorem IH{g:Nat}{gs:y7}{l:List Value}{k:GenResult->Sem α}{Q:α->Zx->Prop}(hg:s.gens[g]?=some gs)
  (W5:oJ M A Φ gs (s.setGen g .running)) (hq:∀e s₁,Φ e s₁->e.quiet=true)
  (hR:∀e s₁,Φ e s₁->ZS M A (k e.result) Q E (s₁.setGen g e.genState)):ZS M A (.resume g (.send .none) l k) Q E s:=by
 intro Γ p S8;rw[Sem.wp_resume];cases gs with
 |fresh c =>
  refine bI (W5 (Γ.wake c p) p rfl (S8.wake c p)) fun V9 s₁ hr he=>?_;exact ed _ _ (by unfold Wakes;exact(Eq.symm (hg))▸HX V9 s₁ hr (hq V9 s₁ he) rfl rfl) (hR V9 s₁ he Γ p S8)
 |suspended k₀ l₀ Ķ p0 fs0 cl =>
  refine bI (W5 (Γ.wake Ķ p) p0 rfl (S8.wake Ķ p)) fun V9 s₁ hr he=>?_;exact ed _ _ (by unfold Wakes;exact(Eq.symm (hg))▸HX V9 s₁ hr (hq V9 s₁ he) rfl rfl) (hR V9 s₁ he Γ p S8)
 |running=>exact W5.elim
 |finished=>exact W5.elim
end
def R7(e:End):Prop:=e=.ret (.ok (.ret .none))∨e=.ret (.ok .next)
theorem Ai{g:Nat}{gs:y7}{Φ:End->Zx->Prop}{Q:Option Value->Zx->Prop}(hh:A.handled=none)
  (hl:s.heap.NoLimit) (H5:A.depth<o1) (hg:s.heap.IsGen a g) (T0:s.gens[g]?=some gs)
  (W5:oJ (ZP C0 w) A.in1 Φ gs (s.setGen g .running)) (hq:∀e s₁,Φ e s₁->e.quiet=true)
  (hY:∀e s₁ v,Φ e s₁->e.result=.yielded v->Q (some v) (s₁.setGen g e.genState))
  (hP:∀e s₁,Φ e s₁->(∃v,e.result=.yielded v)∨(R7 e/\∀h',(∀b o,s₁.heap.get? b=some o->h'.get? b=some o)->Q none {s₁.setGen g .finished with heap:=h' })) :
  ZS (ZP C0 w) A (s6 (.ref a)) Q E s:=by
 unfold s6;refine Zq (s9 (f2 (name:=Zw "__next__") hg.typeIs slot_gen_next
  (d6 slot_gen_next hg.typeIs entry_gen_next ?_ (args_gen_next _))))
 show ZS _ _ (Builtin.Generator.genWake (.ref a) (.send .none)) _ _ s;unfold Builtin.Generator.genWake;refine Zq (ZF (wpAny_genNumber hg (Zq (wpAny_genState T0 ?_))));cases gs with
 |running=>exact W5.elim
 |finished=>exact W5.elim
 |_ =>
  refine Zq (wpAny_roomToWake hl H5 ?_);show ZS _ _ (.resume g (.send .none) [] _) _ _ s;refine IH T0 W5 hq fun e s₁ hx=>?_;rcases hP e s₁ hx with ⟨v,hv⟩ |⟨he,hp⟩
  ·exact(Eq.symm (hv))▸Zs ⟨v,rfl,Zs (hY e s₁ v hx hv)⟩
  ·rcases he with rfl |rfl
   all_goals
    show ZS _ _ (newExc (.type "StopIteration") []>>=_) _ _ _;refine Zq ?_;dsimp only[newExc,newTuple];refine Zq (f6 ?_ (by size_fits));refine Zq (m:=t0 _ _) (f9 (a:=j6) (by first |rfl |(dsimp only[t0];rfl)) ?_);refine f6 ?_ (by size_fits);dsimp only[raiseNew];refine Zq (Zq (wpAny_handled ?_));rw[show A.in1.handled=none from hh];refine wpAny_throw ?_;refine Zq (m8 (T := "StopIteration") (b:=true) ⟨_,ZB _ rfl,rfl⟩ isSubtype_stop ?_);exact Zs (hp _ fun b o hb=>ZC _ (ZC _ hb))
section
theorem dx(st:St):aC C1 st=aj ((C1.locals,.ns st.loc)::st.led):=by
 unfold aC aj;congr 1
 funext a
 simp only[keys,ZD,Zy]
theorem D7.toL(S:D7 B C1 s Z st):C7 B s Z ((C1.locals,.ns st.loc)::st.led) where
 base:=S.base
 frozen:=S.frozen
 nodup:=ZL.mpr ⟨S.locL,S.nodup⟩
 apart:=fun p hp=>by
  rcases Zy.mp hp with rfl |hp
  ·exact S.locZ
  ·exact S.apart p hp
 own:=fun p hp=>by
  rcases Zy.mp hp with rfl |hp
  ·exact S.loc
  ·exact S.own p hp
 gnodup:=S.gnodup
 bare:=S.bare
theorem C7.drop1{p:b0×D9}{led:aa}(S:C7 B s Z (p::led)):C7 B s Z led where
 base:=S.base
 frozen:=S.frozen
 nodup:=(ZL.mp S.nodup).2
 apart:=fun q hq=>S.apart q (Zt _ hq)
 own:=fun q hq=>S.own q (Zt _ hq)
 gnodup:=by
  have:=S.gnodup;unfold gkeys at this ⊢;rw[k9] at this;split at this
  ·exact this
  ·exact(ZL.mp this).2
 bare:=S.bare
theorem C7.toF(S:C7 B s Z ((C1.locals,.ns st.loc)::st.led))(hk:∀x v,st.loc.lookup x=some v->C1.kindOf x=some .local)(hf:C1.scope.kind=.function):D7 B C1 s Z st where
 toC7:=S.drop1
 locZ:=S.apart _ (Zr ..)
 locL:=(ZL.mp S.nodup).1
 loc:=S.own _ (Zr ..)
 kinds:=hk
 fn:=hf
def G5(N led:aa):Prop:=∀p∈N,p∈led
theorem G5.app{N led:aa}(h:G5 N led)(l:aa):G5 N (l++led):=fun p hp=>ZY _ (h p hp)
theorem G5.cons{N led:aa}(h:G5 N led)(q:b0×D9):G5 N (q::led):=fun p hp=>Zt _ (h p hp)
theorem G5.nil{led:aa}:G5 [] led:=fun p hp=>by cases hp
variable{N:aa}
def I8(C0:ZJ)(w:ZQ)(B:D3)(N:aa)(n:Nat):List AV->aa->y7->Prop
 | [],V7,gs=>∀A,D6 A n->∀led,G5 N led->∀s Z,C7 B s Z (V7++led) ->
   oJ (ZP C0 w) A (fun e s'=>R7 e/\∃Z',C7 B s' Z' led/\E7 (aj (V7++led)) s Z s' Z' (aj led)) gs s
 |row::rest,V7,gs=>∀A,D6 A n->∀led,G5 N led->∀s Z,C7 B s Z (V7++led) ->
   oJ (ZP C0 w) A (fun e s'=>e.quiet=true/\∃v Z' R2,e.result=.yielded v/\C7 B s' Z' (R2++led)/\Val Z' row v/\E7 (aj (V7++led)) s Z s' Z' (aj (R2++led))/\I8 C0 w B N n rest R2 e.genState) gs s
def oR(C0:ZJ)(w:ZQ)(B:D3)(N:aa)(n:Nat)(C5:List AV)(led:aa)(H0:i_)(G9:Zx)(Z0:D3)(e:End)(s':Zx):Prop :=
 match C5 with
 | []=>R7 e/\∃Z',C7 B s' Z' led/\E7 H0 G9 Z0 s' Z' (aj led)
 |row::rest=>e.quiet=true/\∃v Z' R2,e.result=.yielded v/\C7 B s' Z' (R2++led)/\Val Z' row v/\E7 H0 G9 Z0 s' Z' (aj (R2++led))/\I8 C0 w B N n rest R2 e.genState
theorem I8.iff{V7:aa}{gs:y7}:I8 C0 w B N n C5 V7 gs↔∀A,D6 A n->∀led,G5 N led->∀s Z,C7 B s Z (V7++led)->oJ (ZP C0 w) A (oR C0 w B N n C5 led (aj (V7++led)) s Z) gs s:=by
 cases C5 <;> rfl
def jt(C0:ZJ)(w:ZQ)(B:D3)(N:aa)(n:Nat)(C1:Env)(c:Code)(t:Sem Fin)(fs:List Frame)(C5:List AV)(st:St):Prop :=
 ∀A,D6 A n->∀led,G5 N led->∀H0 G9 Z0 s Z,D7 B C1 s Z ⟨st.loc,st.led++led⟩->E7 H0 G9 Z0 s Z (aC C1 ⟨st.loc,st.led++led⟩)->be (ZP C0 w) A (oR C0 w B N n C5 led H0 G9 Z0) c t fs s
structure Sk (n m:Nat) (c:Code) (fs:List Frame):Prop where
 room:∀A,D6 A n->D6 (A.over c fs) m
 split:splitAtGen fs=none
 quiet:fs.any Frame.guarded=false
inductive N2:D4->Flow->Prop
 |next:N2 .next .next
 |brk:N2 .brk .brk
 |cont:N2 .cont .cont
 |ret:N2 (.ret .none) (.ret .none)
theorem N2.of{f:D4}{x:Flow}(p:match f with |.ret v=>v=.none |_=>True)(V:E1 Z f x):N2 f x:=by
 induction V with
 |next=>exact .next
 |brk=>exact .brk
 |cont=>exact .cont
 |ret hv =>
  dsimp only at p;subst p;exact(show _=_ from hv.inv)▸.ret
def TG(C0:ZJ)(w:ZQ)(B:D3)(N:aa)(n m:Nat)(C1:Env)(t:Sem Flow)(st:St)(C5:List AV)(K:D4->St->List AV->Prop):Prop :=
 ∀c fs (Kc:Flow->Sem Fin) H gd lv,Sk n m c fs->gd false=false->(∀f x C4 E2,K f C4 E2->N2 f x->jt C0 w B N n C1 c (Kc x) fs E2 C4)->jt C0 w B N n C1 c (t.wrap Kc H gd lv) fs C5 st
variable{n m:Nat}{K:D4->St->List AV->Prop}
theorem HA{t:Sem Flow}(h:∀A,D6 A m->∀led,G5 N led->T C0 w A B C1 E1 t ⟨st.loc,st.led++led⟩ fun f C4=>∃l,C4.led=l++led/\(match f with |.ret v=>v=.none |_=>True)/\K f ⟨C4.loc,l⟩ C5):TG C0 w B N n m C1 t st C5 K :=
 fun c fs Kc H gd lv hs hg hK A hA led hN H0 G9 Z0 s Z S X=>dL (h _ (hs.room A hA) led hN s Z S _ _ fun f x s' Z' C4 k S' V X'=>by
  obtain⟨D8,led'⟩:=C4;refine aU k ?_;clear k;intro l e p k;dsimp only at e k;subst e;refine hK f x ⟨D8,l⟩ C5 k ?_ A hA led hN H0 G9 Z0 s' Z' S' (X.trans X');exact .of p V)
theorem TG.spare{t:Sem Flow}{led:aa}(x:Str)(hk:C1.kindOf x=some .local)(h:TG C0 w B N n m C1 t ⟨loc++[(x,.any)],led⟩ C5 K):TG C0 w B N n m C1 t ⟨loc,led⟩ C5 K :=
 fun c fs Kc H gd lv hs hg hK A hA led' hN H0 G9 Z0 s Z S X=>h c fs Kc H gd lv hs hg hK A hA led' hN H0 G9 Z0 s Z (S.spare x hk) X
theorem TG.spares{t:Sem Flow}{led:aa}(xs:List Str)(hk:(xs.all fun x=>decide (C1.kindOf x=some .local))=true)(h:TG C0 w B N n m C1 t ⟨loc++xs.map fun x=>(x,.any),led⟩ C5 K):TG C0 w B N n m C1 t ⟨loc,led⟩ C5 K:=by
 induction xs generalizing loc with
 |nil=>rw[y2,g7] at h;exact h
 |cons x xs ih =>
  rw[List.all_cons,i9] at hk;exact TG.spare x (of_decide_eq_true hk.1) (ih hk.2 (by rw[ZW];exact h))
theorem bk(h:K .next st C5):TG C0 w B N n m C1 (execs [] C1) st C5 K:=fun c fs Kc H gd lv hs hg hK=>hK .next .next st C5 h .next
def Bp(C0:ZJ)(w:ZQ)(B:D3)(N:aa)(n m:Nat)(C1:Env)(rest:List Stmt)(K:D4->St->List AV->Prop)(f:D4)(C4:St)(E2:List AV):Prop :=
 match f with
 |.next=>TG C0 w B N n m C1 (execs rest C1) C4 E2 K
 |f=>K f C4 E2
theorem cK{x:Stmt}{rest:List Stmt}(h:TG C0 w B N n m C1 (exec x C1) st C5 (Bp C0 w B N n m C1 rest K)) :
  TG C0 w B N n m C1 (execs (x::rest) C1) st C5 K:=fun c fs Kc H gd lv hs hg hK=>by
 rw[execs_cons_wrap];refine h c fs _ H gd lv hs hg fun f y C4 E2 k p=>?_;induction p with
 |next=>exact k c fs Kc H gd lv hs hg hK
 |brk=>exact hK _ _ C4 E2 k .brk
 |cont=>exact hK _ _ C4 E2 k .cont
 |ret=>exact hK _ _ C4 E2 k .ret
theorem WA{G7:Expr}{G3:List Stmt}
  (h:∀A,D6 A m->∀led,G5 N led->T C0 w A B C1 aK (isTrue G7 C1 (k7 G7 C1)) ⟨st.loc,st.led++led⟩ fun b C4=>∃l,C4.led=l++led /\
   if b then TG C0 w B N n m C1 (execs body C1) ⟨C4.loc,l⟩ C5 K else TG C0 w B N n m C1 (execs G3 C1) ⟨C4.loc,l⟩ C5 K) :
  TG C0 w B N n m C1 (exec (.If G7 body G3 pos) C1) st C5 K:=fun c fs Kc H gd lv hs hg hK A hA led hN H0 G9 Z0 s Z S X=>by
 rw[show exec (.If G7 body G3 pos) C1=(standAt pos>>=fun O=>isTrue G7 C1 (k7 G7 C1)>>=fun b=>if b=true then execs body C1 else execs G3 C1) from rfl];refine iA ?_;show be _ A _ c ((isTrue G7 C1 (k7 G7 C1)>>=fun b=>if b=true then execs body C1 else execs G3 C1).wrap Kc H gd lv) fs s;rw[j3,m9];refine dL (h _ (hs.room A hA) led hN s Z S _ _ fun b x s' Z' C4 k S' V X'=>?_);obtain⟨D8,led'⟩:=C4;refine ae k ?_;clear k;intro l e k;dsimp only at e k;subst e;unfold aK at V;subst V;cases x with
 |true=>exact k c fs Kc H gd lv hs hg hK A hA led hN H0 G9 Z0 s' Z' S' (X.trans X')
 |false=>exact k c fs Kc H gd lv hs hg hK A hA led hN H0 G9 Z0 s' Z' S' (X.trans X')
theorem Wz{e:Expr}{Q6:Pos}
  (h:∀A,D6 A m->∀led,G5 N led->T C0 w A B C1 Val (k7 e C1) ⟨st.loc,st.led++led⟩ fun v C4=>∃l rest,C5=v::rest/\C4.led=l++led/\K .next ⟨C4.loc,l⟩ rest)
  (Q4:C1.scope.isCoroutine=false) (hi:interactive C1=false):TG C0 w B N n m C1 (exec (.Expr (.Yield (some e) Q6) pos) C1) st C5 K:=fun c fs Kc H gd lv hs hg hK A hA led hN H0 G9 Z0 s Z S X=>by
 rw[exec_Expr C1 _ pos hi rfl];have hy:∀v,yieldOut C1 v=yieldValue v:=fun v=>by simp only[yieldOut,Q4,c7,if_false]
 show be _ A _ c (.at pos fun O=>((k7 e C1>>=fun v=>(standAt Q6>>=fun O=>yieldOut C1 v))>>=fun x=>dropValue (.Yield (some e) Q6) pos x).wrap Kc H gd lv) fs s;simp only[hy];refine iA ?_;rw[j3,j3,m9,m9];refine dL (h _ (hs.room A hA) led hN s Z S _ _ fun v x s' Z' C4 k S' V X'=>?_);obtain⟨D8,led'⟩:=C4;refine bW k ?_;clear k;intro l rest V9 Á k;dsimp only at Á k;subst V9;subst Á;refine iA (Bq hs.split fun p=>?_);refine⟨by simp[End.quiet,hg,hs.quiet],x,Z',(C1.locals,.ns D8)::l,rfl,S'.toL,V,?_,?_⟩
 ·have:=X.trans X';rw[dx] at this;exact this
 ·rw[I8.iff];intro A' D0 led' F6 s' Z' J1;have SF:D7 B C1 s' Z' ⟨D8,l++led'⟩:=C7.toF (st:=⟨D8,l++led'⟩) J1 S'.kinds S'.fn;refine hK .next .next ⟨D8,l⟩ rest k .next A' D0 led' F6 _ s' Z' s' Z' SF ?_;rw[dx];exact .refl
def D5(C0:ZJ)(w:ZQ)(B:D3)(N:aa)(n:Nat)(C3:Expr)(it:b0):List AV->aa->Prop
 | [],gl=>∀A,D6 A n->∀led,G5 N led->∀s Z,C7 B s Z (gl++led)->∀(Q:Option Value->Zx->Prop) (E:Value->Zx->Prop),(∀s' Z',C7 B s' Z' led->E7 (aj (gl++led)) s Z s' Z' (aj led)->Q none s') ->
   ZS (ZP C0 w) A (s6 (.ref it)) Q E s
 |x::xs,gl=>∀A,D6 A n->∀led,G5 N led->∀s Z,C7 B s Z (gl++led)->∀(Q:Option Value->Zx->Prop) (E:Value->Zx->Prop),
   (∀s' Z' v gl',C7 B s' Z' (gl'++led)->Val Z' x v->E7 (aj (gl++led)) s Z s' Z' (aj (gl'++led))->D5 C0 w B N n C3 it xs gl'->Q (some v) s') ->
   ZS (ZP C0 w) A (s6 (.ref it)) (fun r s₁=>match r with |none=>False |some v=>ZS (ZP C0 w) A (g5 C3 (.ref it) v) (fun O s2=>Q (some v) s2) E s₁) E s
theorem D5.last{gl led:aa}{f:Option Value->Sem α}{Q:α->Zx->Prop}(hI:D5 C0 w B N n C3 it [] gl)(hA:D6 A n)(hN:G5 N led)(S:C7 B s Z (gl++led))
  (h:∀s' Z',C7 B s' Z' led->E7 (aj (gl++led)) s Z s' Z' (aj led)->ZS (ZP C0 w) A (f none) Q E s'):ZS (ZP C0 w) A (s6 (.ref it)>>=f) Q E s:=Zq (hI A hA led hN s Z S _ _ h)
theorem D5.draw{x:AV}{gl led:aa}{f:Option Value->Sem α}{g:Value->Sem α}{Q:α->Zx->Prop}(hI:D5 C0 w B N n C3 it (x::xs) gl)(hA:D6 A n)(hN:G5 N led)(S:C7 B s Z (gl++led))
  (hf:∀v,f (some v)=g5 C3 (.ref it) v>>=fun O=>g v) (h:∀s' Z' v gl',C7 B s' Z' (gl'++led)->Val Z' x v->E7 (aj (gl++led)) s Z s' Z' (aj (gl'++led))->D5 C0 w B N n C3 it xs gl'->ZS (ZP C0 w) A (g v) Q E s') :
  ZS (ZP C0 w) A (s6 (.ref it)>>=f) Q E s :=
 Zq (e9 (hI A hA led hN s Z S (fun r s₁=>match r with |none=>False |some v=>ZS (ZP C0 w) A (g v) Q E s₁) E h) (fun r s₁ k=>by
  cases r with
  |none=>exact k.elim
  |some v=>rw[hf];exact Zq k) fun O O h=>h)
end
section
variable{N:aa}
theorem C7.perm{l l':aa}(S:C7 B s Z l)(p:l.Perm l'):C7 B s Z l' where
 base:=S.base
 frozen:=S.frozen
 nodup:=(p.map _).nodup_iff.mp S.nodup
 apart:=fun q hq=>S.apart q (p.mem_iff.mpr hq)
 own:=fun q hq=>S.own q (p.mem_iff.mpr hq)
 gnodup:=(p.filterMap _).nodup_iff.mp S.gnodup
 bare:=S.bare
theorem dN{l l':aa}(p:l.Perm l'):aj l=aj l':=by
 unfold aj;congr 1
 ·funext a;exact propext (p.map _).mem_iff
 ·funext a;exact propext (p.filterMap _).mem_iff
theorem C7.drop:∀ {l l':aa},C7 B s Z (l++l')->C7 B s Z l'
 | [],_,S=>S
 |_::l,_,S=>C7.drop (l:=l) S.drop1
theorem E7.less{o o' o'':i_}{s':Zx}{Z':D3}(X:E7 o s Z s' Z' o')(h1:∀a,o''.at_ a->o'.at_ a)(h2:∀a,o''.gn a->o'.gn a):E7 o s Z s' Z' o'' :=
 ⟨X.le,X.kept,fun a h=>X.grow a (h1 a h),X.zgrow,X.os,X.gkept,fun g h=>X.ggrow g (h2 g h)⟩
theorem lP{g:Nat}{gs x:y7}(h:s.gens[g]?=some gs):(s.setGen g x).gens[g]?=some x:=setGen_self h
theorem lO{g:Nat}{x:y7}(h:k≠g):(s.setGen g x).gens[k]?=s.gens[k]?:=by
 show (s.gens.setIfInBounds g x)[k]?=_;rw[Array.getElem?_setIfInBounds];simp[Ne.symm h]
theorem Pn{g:Nat}{x y:y7}(h:y∈(s.setGen g x).gens):y=x∨y∈s.gens:=by
 refine aw (Array.mem_iff_getElem?.mp h) fun i hi=>?_;by_cases e:i=g
 ·subst e;by_cases hb:i<s.gens.size
  ·have:=lP (x:=x) (m7 hb);rw[this] at hi;exact .inl (r7 hi).symm
  ·rw[show (s.setGen i x).gens[i]?=none from by
    show (s.gens.setIfInBounds i x)[i]?=none;rw[Array.getElem?_eq_none_iff,Array.size_setIfInBounds];omega] at hi
   cases hi
 ·rw[lO e] at hi;exact .inr (Array.mem_iff_getElem?.mpr ⟨i,hi⟩)
theorem C7.setGen{l:aa}{g:Nat}{x:y7}(S:C7 B s Z l)(hg:g∉gkeys l)(hx:x.bare=true):C7 B (s.setGen g x) Z l where
 base:=S.base
 frozen:=S.frozen
 nodup:=S.nodup
 apart:=S.apart
 own:=fun p hp=>Holds.mono (s:=s) (s':=s.setGen g x) (.refl _) (fun O e=>e) (x:=S.own p hp) fun k gs e h=>by
  rw[lO]
  ·exact h
  ·intro q;subst q;exact hg (Pp hp e)
 gnodup:=S.gnodup
 bare:=fun y hy=>by
  rcases Pn hy with rfl |h
  ·exact hx
  ·exact S.bare y h
theorem R7.elim{P:End->Prop}{e:End}(h:R7 e)(a:P (.ret (.ok (.ret .none))))(b:P (.ret (.ok .next))):P e:=Or.elim h (fun h=>h▸a) fun h=>h▸b
theorem E7.unrun{own M3 o2 G':i_}{s₁ s2:Zx}{Z':D3}{g:Nat}{x y:y7}(X:E7 own (s.setGen g y) Z s₁ Z' M3)(hh:∀b o,s₁.heap.get? b=some o->s2.heap.get? b=some o)(J5:s2.os=s₁.os)(hg:s2.gens=(s₁.setGen g x).gens)
  (ha:∀b,own.at_ b->o2.at_ b) (hn:∀k,own.gn k->o2.gn k) (W6:o2.gn g) (h3:∀b,G'.at_ b->o2.at_ b∨M3.at_ b) (h3n:∀k,G'.gn k->k≠g->M3.gn k):E7 o2 s Z s2 Z' G' where
 le:=X.le
 kept:=fun b o e hb=>hh b o (X.kept b o e fun q=>hb (ha b q))
 grow:=fun b hb=>(h3 b hb).elim .inl fun q=>(X.grow b q).imp_left (ha b)
 zgrow:=fun b o e=>(X.zgrow b o e).imp_right (Or.imp_left (ha b))
 os:=J5.trans X.os
 gkept:=fun k gs e hk =>
  have ù:k≠g:=fun q=>hk (q▸W6);hg▸(lO ù).trans (X.gkept k gs ((lO ù).trans e) fun q=>hk (hn k q))
 ggrow:=fun k hk=>if ù:k=g then .inl (ù▸W6) else (X.ggrow k (h3n k hk ù)).imp (hn k) (lO ù).symm.trans
theorem C7.consGen{l:aa}{g:Nat}{gs:y7}(S:C7 B s Z l)(û:s.heap.IsGen a g)(T0:s.gens[g]?=some gs)(N4:a∉keys l)(W6:g∉gkeys l)(hZ:Z a=none):C7 B s Z ((a,.gen g gs)::l) where
 base:=S.base
 frozen:=S.frozen
 nodup:=ZL.mpr ⟨N4,S.nodup⟩
 apart:=fun p hp=>(Zy.mp hp).elim (fun e=>e▸hZ) (S.apart p)
 own:=fun p hp=>(Zy.mp hp).elim (fun e=>e▸⟨û,T0⟩) (S.own p)
 gnodup:=ZL.mpr ⟨W6,S.gnodup⟩
 bare:=S.bare
theorem C7.more{s':Zx}{l:aa}(S:C7 B s Z l)(hk:∀b o,s.heap.get? b=some o->s'.heap.get? b=some o)(hg:s'.gens=s.gens):C7 B s' Z l where
 base:=S.base
 frozen:=fun b o e=>hk b o (S.frozen b o e)
 nodup:=S.nodup
 apart:=S.apart
 own:=fun p hp=>Holds.mono (s:=s) (.refl _) (fun o e=>hk _ o e) (fun O O O e=>hg▸e) (S.own p hp)
 gnodup:=S.gnodup
 bare:=hg▸S.bare
section
variable(hG:G1 B)
include hG
theorem D5.gen_last{g:Nat}{gs:y7}{gl:aa}(h:I8 C0 w B N n [] gl gs):D5 C0 w B N (n+1) C3 a [] ((a,.gen g gs)::gl):=fun A hA led hN s Z S Q E hQ =>
 have W6:g∉gkeys (gl++led):=(ZL.mp S.gnodup).1;aA (S.own _ (Zr ..)) fun û T0 =>
 Ai hA.h (hG.lim s fun a o e=>S.frozen a o (S.base a o e)) hA.lt û T0 (h A.in1 hA.in1 led hN _ Z (S.drop1.setGen W6 rfl)) (fun e s₁ he=>he.1.elim (P:=fun e=>e.quiet=true) rfl rfl) (fun e s₁ v he=>he.1.elim (P:=fun e=>e.result=.yielded v->_) nofun nofun) fun e s₁ he => .inr ⟨he.1,fun h' hk =>
  ae he.2 fun Z' S' X=>hQ _ Z' (C7.more (C7.setGen (x:=.finished) S' (fun q=>W6 (by unfold gkeys;rw[u9];exact ZY _ q)) rfl) hk rfl)
   (X.unrun (x:=.finished) hk rfl rfl (fun b=>Zt _) (fun k=>Zt _) (Zr ..) (fun b => .inr) fun k q O=>q)⟩
theorem D5.gen_draw(ht:∀led s Z v g gs gl,C7 B s Z ((a,.gen g gs)::gl++led)->∀A (Q:Unit->Zx->Prop) E,Q () s->ZS (ZP C0 w) A (g5 C3 (.ref a) v) Q E s){row:AV}{rest:List AV}
  (ih:∀ {g:Nat} {gs:y7} {gl:aa},I8 C0 w B N n rest gl gs->D5 C0 w B N (n+1) C3 a rest ((a,.gen g gs)::gl)) {g:Nat} {gs:y7} {gl:aa} (h:I8 C0 w B N n (row::rest) gl gs):D5 C0 w B N (n+1) C3 a (row::rest) ((a,.gen g gs)::gl):=fun A hA led hN s Z S Q E hQ=>by
 have W6:g∉gkeys (gl++led):=(ZL.mp S.gnodup).1;have N4:a∉keys (gl++led):=(ZL.mp S.nodup).1;have hZ:=S.apart _ (Zr ..);refine aA (S.own _ (Zr ..)) fun û T0=>?_;refine Ai hA.h (hG.lim s fun a o e=>S.frozen a o (S.base a o e)) hA.lt û T0 (h A.in1 hA.in1 led hN _ Z (S.drop1.setGen W6 rfl)) (fun e s₁ he=>he.1) (fun e s₁ v he hv=>?_) fun e s₁ he => .inl (jx he.2 fun v O O e O=>⟨v,e⟩);refine oS he.2 fun v' Z' gl' Q_ S' V X hs=>?_;cases GenResult.yielded.inj (Q_.symm.trans hv)
 refine jx û fun o nm qn ho r=>?_;have Ŋ:∀ {P:Prop},s.heap.get? a=none->P:=fun q=>nomatch q.symm.trans ho;have S2:=(S'.setGen (x:=e.genState) (fun q=>(X.ggrow g q).elim W6 fun q=>nomatch q.symm.trans (lP T0)) (End.bare_of_quiet he.1)).consGen (a:=a) (gs:=e.genState) (XA o nm qn (X.kept a o ho N4) r) (lP (X.gkept g _ (lP T0) W6)) (fun q=>(X.grow a q).elim N4 Ŋ) (fun q=>(X.ggrow g q).elim W6 fun q=>nomatch q.symm.trans (lP T0))
  (Option.eq_none_iff_forall_ne_some.mpr fun o e=>(X.zgrow a o e).elim (fun q=>nomatch hZ.symm.trans q) fun q=>q.elim N4 Ŋ)
 exact ht led _ Z' v g e.genState gl' S2 A _ _ (hQ _ Z' v ((a,.gen g e.genState)::gl') S2 V (X.unrun (x:=e.genState) (fun O O e=>e) rfl rfl (fun b=>Zt _) (fun k=>Zt _) (Zr ..)
  (fun b hb=>(Zy.mp hb).imp (fun e:b=a=>e▸Zr ..) id) fun k hk q=>(Zy.mp hk).resolve_left q) (ih hs))
end
theorem D5.gen(hG:G1 B)(ht:∀led s Z v g gs gl,C7 B s Z ((a,.gen g gs)::gl++led)->∀A (Q:Unit->Zx->Prop) E,Q () s->ZS (ZP C0 w) A (g5 C3 (.ref a) v) Q E s) :
  ∀ {g:Nat} {gs:y7} {gl:aa},I8 C0 w B N n C5 gl gs->D5 C0 w B N (n+1) C3 a C5 ((a,.gen g gs)::gl):=by
 induction C5 with
 |nil=>exact fun h=>D5.gen_last hG h
 |cons row rest ih=>exact fun h=>D5.gen_draw hG ht ih h
end
section
variable{N:aa}
def yt(I:b0)(fp:List b0)(Pv:Nat->Value->Prop)(xs:List AV)(St:Nat->Heap->Prop)(i:Nat)(Z:D3)(o:Obj):Prop :=
 (∀b∈fp,b=I∨∃o,Z b=some o)/\(∀i x v,xs[i]?=some x->Pv i v->Val Z x v)/\(∀h:Heap,h.get? I=some o->(∀a o,Z a=some o->h.get? a=some o)->St i h)
theorem Rs{I:b0}{fp:List b0}{Pv:Nat->Value->Prop}{St:Nat->Heap->Prop}(Z Z':D3)(o:Obj)(k:D3.le Z Z')(x:yt I fp Pv xs St i Z o):yt I fp Pv xs St i Z' o :=
 ⟨fun b hb=>(x.1 b hb).imp id fun⟨o,h⟩=>⟨o,k _ _ h⟩,fun i y v h1 h2=>(x.2.1 i y v h1 h2).mono k,fun h h1 h2=>x.2.2 h h1 fun a o e=>h2 a o (k a o e)⟩
noncomputable abbrev gh(I:b0)(fp:List b0)(Pv:Nat->Value->Prop)(xs:List AV)(St:Nat->Heap->Prop)(i:Nat):D9:=.obj (yt I fp Pv xs St i) Rs
theorem D5.walks{I:b0}{fp:List b0}{Pv:Nat->Value->Prop}{St:Nat->Heap->Prop}
  (hW:∀A:ZI,A.handled=none->Walks C0 w A I fp [I] xs.length Pv St)
  (hlet:∀(A:ZI) i (s:Zx) v Q E,St i s.heap->Q () s->ZS (ZP C0 w) A (g5 C3 (.ref I) v) Q E s) (Ě:∀i h,St i h->∃o,h.get? I=some o) (k:Nat) :
  ∀(d i:Nat),i+d=xs.length->D5 C0 w B N k C3 I (xs.drop i) [(I,gh I fp Pv xs St i)]:=by
 intro d;induction d with
 |zero =>
  intro i hi;have hi:i=xs.length:=hi;subst hi;rw[List.drop_length];intro A hA led hN s Z S Q E hQ;refine jy (S.own _ (Zr ..)) fun o ho h1 h2 h3=>?_;refine(hW A hA.h).toS.done s _ _ (h3 _ ho S.frozen) fun s' mv=>?_;have P:=C7.stepE (gl:=[(I,gh I fp Pv xs St xs.length)]) S mv.heap mv.gens mv.os;exact hQ s' Z P.1 P.2
 |succ d ih =>
  intro i hi;have G8:i<xs.length:=hi▸Nat.lt_add_of_pos_right (Nat.succ_pos d);rw[m6 G8];intro A hA led hN s Z S Q E hQ;refine jy (S.own _ (Zr ..)) fun o ho h1 h2 h3=>?_;have W:=(hW A hA.h).toS;refine W.item i s _ _ G8 (h3 _ ho S.frozen) fun v s' hP C4 mv=>hlet A (i+1) s' v _ _ C4 ?_;refine aw (Ě _ _ C4) fun o' Ì=>?_;have fro:∀a o,Z a=some o->s'.heap.get? a=some o:=fun a o e=>mv.heap a o (fun q=>nomatch (S.zkey (gg.mpr (.inl q)):Z a=none).symm.trans e) (S.frozen a o e);have T_:∀h:Heap,h.get? I=some o'->(∀a o,Z a=some o->h.get? a=some o)->St (i+1) h:=fun h e1 e2=>W.frame (i+1) s' h s'.toks C4 (ZZ _) fun b hb ob e =>
   (h1 b hb).elim (fun q=>by subst q;exact e1.trans (Ì.symm.trans e)) fun q=>aw q fun oz q=>(e2 _ _ q).trans ((fro _ _ q).symm.trans e)
  have P:=C7.stepS (gl:=[(I,gh I fp Pv xs St i)]) (gl':=[(I,gh I fp Pv xs St (i+1))]) S mv.heap (fun p hp=>ZK.mp hp▸XB o' Ì h1 h2 T_) rfl rfl mv.gens mv.os;exact hQ s' Z v [(I,gh I fp Pv xs St (i+1))] P.1 (h2 i _ v (ZU G8) hP) P.2 (ih (i+1) ((Nat.succ_add_eq_add_succ i d).trans hi))
theorem C7.push{led:aa}(S:C7 B s Z led){ao:D9}(W6:ao.gnum=none)(tk:Nat)(hh:Holds Z {s with heap:=s.heap.push o,toks:=tk} s.heap.objs.size ao) :
  C7 B {s with heap:=s.heap.push o,toks:=tk} Z ((s.heap.objs.size,ao)::led)/\E7 (aj led) s Z {s with heap:=s.heap.push o,toks:=tk} Z (aj ((s.heap.objs.size,ao)::led)) :=
 S.newAt W6 tk (fun O O e=>ZC o e) hh
theorem EP{I ax:b0}{v:Value}{Q:Unit->Zx->Prop}(h:s.heap.IsListIter I ax i)(hQ:Q () s) :
  ZS (ZP C0 w) A (g5 C3 (.ref I) v) Q E s :=
 aU h fun o ho hc hd=>yj ho hc hd (.inl rfl) hQ
theorem FY{items:List Value}(fr:∀a o,Z a=some o->s.heap.get? a=some o)(e:Z a=some {cls:=.type "list",data:=.seq items.toArray n}):s.heap.IsList a items.toArray :=
 ⟨_,fr _ _ e,rfl,n,rfl⟩
theorem eH(h:∀it gl,D5 C0 w B N k C3 it xs gl->K (.ref it) ⟨st.loc,gl++st.led⟩):F1 C0 w A B C1 Val pyIter (.lst xs) st K:=fun s Z x V S Q E hQ=>by
 refine bv (ex V) fun a items n qv e hv=>?_;subst qv;have hl:=FY S.frozen e;refine wpAny_pyIter_list hl ?_;have I3:a≠s.heap.objs.size:=j9 (e8 (S.frozen _ _ e));have E3:items.toArray.size=xs.length:=by simp[hv.length]
 have hI:Heap.IsListIter (s.heap.push {cls:=.type "list_iterator",data:=.fields #[.ref a,.int 0 0]}) s.heap.objs.size a 0:=⟨_,ZB _ rfl,rfl,rfl⟩;have P:=S.toC7.push (o:={ cls:=.type "list_iterator",data:=.fields #[.ref a,.int 0 0]}) (ao:=gh s.heap.objs.size [s.heap.objs.size,a] (fun i v=>items.toArray[i]?=some v) xs (fun i h=>h.IsListIter s.heap.objs.size a i/\h.IsList a items.toArray) 0) rfl s.toks
  ⟨_,ZB _ rfl,fun b hb=>by
   simp only[Zy,n5,or_false] at hb;rcases hb with rfl |rfl
   ·exact .inl rfl
   ·exact .inr ⟨_,e⟩,fun i y v h1 h2=>by
   refine ae (hv.get h1) fun u e1 e2=>?_;simp only[List.getElem?_toArray] at h2;rw[e1] at h2;cases h2
   exact e2,fun h e1 e2=>⟨⟨_,e1,rfl,rfl⟩,_,e2 _ _ e,rfl,n,rfl⟩⟩
 refine hQ _ _ _ Z _ (h s.heap.objs.size _ (D5.walks (C0:=C0) (w:=w) (B:=B) (C3:=C3) (xs:=xs) (fun A hA=>by exact(E3)▸Walks.list hA s.heap.objs.size a I3 items.toArray) (fun A i s v Q E J8 hq=>EP J8.1 hq) (fun i h J8=>by refine ae J8.1 fun o ho O=>?_;exact⟨o,ho⟩) k xs.length 0 ⋯)) (S.after P.1 P.2) (.ref _) P.2.toF
end
section
variable{N:aa}
theorem D7.perm{l l':aa}(S:D7 B C1 s Z ⟨loc,l⟩)(p:l.Perm l'):D7 B C1 s Z ⟨loc,l'⟩ :=
 ⟨S.toC7.perm p,S.locZ,fun h=>S.locL ((p.map _).mem_iff.mpr h),S.loc,S.kinds,S.fn⟩
theorem er{l l':aa}(p:l.Perm l'):aC C1 ⟨loc,l⟩=aC C1 ⟨D8,l'⟩:=by
 unfold aC;congr 1
 ·funext a;exact propext ⟨Or.imp id (p.map _).mem_iff.mp,Or.imp id (p.map _).mem_iff.mpr⟩
 ·funext a;exact propext (p.filterMap _).mem_iff
theorem T.perm{rel:D3->α->β->Prop}{t:Sem β}{l l':aa}{K:α->St->Prop}(p:l.Perm l')(h:T C0 w A B C1 rel t ⟨loc,l'⟩ K):T C0 w A B C1 rel t ⟨loc,l⟩ K :=
 fun s Z S Q E hQ=>h s Z (S.perm p) Q E fun v x s' Z' C4 k S' V X=>hQ v x s' Z' C4 k S' V (by rw[er (C1:=C1) (loc:=loc) (D8:=loc) p];exact X)
theorem D7.drop{l l':aa}(S:D7 B C1 s Z ⟨loc,l++l'⟩):D7 B C1 s Z ⟨loc,l'⟩ :=
 ⟨S.toC7.drop,S.locZ,fun h=>S.locL (by rw[keys,ZT];exact ZY _ h),S.loc,S.kinds,S.fn⟩
theorem E7.dropF{o:i_}{s':Zx}{Z':D3}{l l':aa}(X:E7 o s Z s' Z' (aC C1 ⟨loc,l++l'⟩)):E7 o s Z s' Z' (aC C1 ⟨D8,l'⟩) :=
 X.less (fun a h=>h.imp id fun h=>by rw[keys,ZT];exact ZY _ h) fun a h=>by
  show a∈gkeys (l++l');unfold gkeys;rw[u9];exact ZY _ h
theorem se{x:AV}{gl l:aa}(h:D5 C0 w B N k C3 it (x::xs) gl)(hA:D6 A k)(hN:G5 N l)(S:D7 B C1 s Z ⟨loc,l++gl⟩)
  {Q:Option Value->Zx->Prop} 
  (hQ:∀s' Z' v gl',D7 B C1 s' Z' ⟨loc,l++gl'⟩->Val Z' x v->E7 (aC C1 ⟨loc,l++gl⟩) s Z s' Z' (aC C1 ⟨loc,l++gl'⟩)->D5 C0 w B N k C3 it xs gl'->Q (some v) s') :
  ZS (ZP C0 w) A (s6 (.ref it)) (fun r s₁=>match r with |none=>False |some v=>ZS (ZP C0 w) A (g5 C3 (.ref it) v) (fun O s2=>Q (some v) s2) E s₁) E s :=
 h A hA l hN s Z (S.toC7.perm ZG) Q E fun s' Z' v gl' S' V X hi=>by
  have J1:=S'.perm (ZG (l₁:=gl') (l₂:=l));have X':E7 (aj (l++gl)) s Z s' Z' (aj (l++gl')):=by
   rw[dN (ZG (l₁:=l) (l₂:=gl)),dN (ZG (l₁:=l) (l₂:=gl'))];exact X
  exact hQ s' Z' v gl' (S.after J1 X') V X'.toF hi
theorem sf{gl l:aa}(h:D5 C0 w B N k C3 it [] gl)(hA:D6 A k)(hN:G5 N l)(S:D7 B C1 s Z ⟨loc,l++gl⟩)
  {Q:Option Value->Zx->Prop} 
  (hQ:∀s' Z',D7 B C1 s' Z' ⟨loc,l⟩->E7 (aC C1 ⟨loc,l++gl⟩) s Z s' Z' (aC C1 ⟨loc,l⟩)->Q none s'):ZS (ZP C0 w) A (s6 (.ref it)) Q E s :=
 h A hA l hN s Z (S.toC7.perm ZG) Q E fun s' Z' S' X=>by
  have X':E7 (aj (l++gl)) s Z s' Z' (aj l):=by
   rw[dN (ZG (l₁:=l) (l₂:=gl))];exact X
  exact hQ s' Z' (S.after S' X') X'.toF
theorem UV{R:Result->Zx->Prop}{C3 it body C1}(I:Nat->Zx->Prop)
  (turn:∀n s,I n s->ZS (ZP C0 w) A (s6 it) (fun r s₁=>match r with
   |none=>R (.ok .next) s₁
   |some v=>ZS (ZP C0 w) A (g5 C3 it v) (fun O s₁=>ZS (ZP C0 w) A (m0 C3 C1 v) (fun O s2=>ZS (ZP C0 w) A (execs body C1) (fun f s3=>match f with
     |.next |.cont=>∃m,m<n/\I m s3
     |.brk=>R (.ok .next) s3
     |.ret v=>R (.ok (.ret v)) s3) (notedBy (ZP C0 w) A C1 fun e s'=>R (.error e) s') s2) (notedBy (ZP C0 w) A C1 fun e s'=>R (.error e) s') s₁) (notedBy (ZP C0 w) A C1 fun e s'=>R (.error e) s') s₁)
    (notedBy (ZP C0 w) A C1 fun e s'=>R (.error e) s') s)
  (n:Nat) (h:I n s):codeAny (ZP C0 w) A (.forLoop C3 it body [] C1) R s:=by
 refine codeAny_loop' rfl I (fun n s hI=>?_) n h;show ZS _ _ ((forTurn C3 it body [] C1).onRaise (fun x=>do noteFrame x C1;theTreesLotGoes x)) _ _ s;refine wpAny_noted ?_;simp only[forTurn];refine Zq (a9 (Zq (wpAny_onRaise (e9 (turn n s hI) (fun r s₁ h1=>?_) fun O O h'=>a9 h'))));cases r with
 |none=>exact Zs (.inr ⟨rfl,codeAny_block (wpAny_execs_nil h1)⟩)
 |some v =>
  refine Zq (e9 h1 (fun O s₁ h1=>?_) fun O O h'=>h');refine Zq (e9 h1 (fun O s2 h2=>Zq (e9 h2 (fun f s3 l_=>?_) fun O O h'=>h')) fun O O h'=>h');cases f with
  |next=>exact Zs (.inl ⟨rfl,l_⟩)
  |cont=>exact Zs (.inl ⟨rfl,l_⟩)
  |brk=>exact Zs l_
  |ret v=>exact Zs l_
inductive T2 (J:List AV->St->Prop) (K:D4->St->Prop) (xs:List AV) (gl:aa):D4->St->Prop
 |next {loc:List (Str×AV)} {l:aa} (h:J xs ⟨loc,l⟩):T2 J K xs gl .next ⟨loc,l++gl⟩
 |cont {loc:List (Str×AV)} {l:aa} (h:J xs ⟨loc,l⟩):T2 J K xs gl .cont ⟨loc,l++gl⟩
 |brk {loc:List (Str×AV)} {l:aa} (h:K .next ⟨loc,l⟩):T2 J K xs gl .brk ⟨loc,l++gl⟩
 |ret {v:AV} {loc:List (Str×AV)} {l:aa} (h:K (.ret v) ⟨loc,l⟩):T2 J K xs gl (.ret v) ⟨loc,l++gl⟩
theorem T2.nextE{J:List AV->St->Prop}{K:D4->St->Prop}{gl l led:aa}(e:led=l++gl)(h:J xs ⟨loc,l⟩):T2 J K xs gl .next ⟨loc,led⟩:=e▸.next h
inductive þ (C0:ZJ) (w:ZQ) (B:D3) (N:aa) (k:Nat) (C3:Expr) (J:List AV->St->Prop):AV->St->Prop
 |mk {it:b0} {gl l:aa} {items:List AV} {loc:List (Str×AV)} (hI:D5 C0 w B N k C3 it items gl) (hJ:J items ⟨loc,l⟩):þ C0 w B N k C3 J (.ref it) ⟨loc,gl++l⟩
def HY(C0:ZJ)(w:ZQ)(B:D3)(C1:Env)(N:aa)(k:Nat)(C3:Expr)(it:b0)(J:List AV->St->Prop)(st:St)(s:Zx)(Z:D3)(n:Nat)(s':Zx):Prop :=
 ∃Z' D8 l' gl' xs,n=xs.length/\D7 B C1 s' Z' ⟨D8,l'++gl'⟩/\D5 C0 w B N k C3 it xs gl'/\J xs ⟨D8,l'⟩/\E7 (aC C1 st) s Z s' Z' (aC C1 ⟨D8,l'++gl'⟩)
theorem D7.front{l gl:aa}(S:D7 B C1 s Z ⟨loc,l++gl⟩):D7 B C1 s Z ⟨loc,l⟩:=(S.perm ZG).drop
theorem E7.front{o:i_}{s':Zx}{Z':D3}{l gl:aa}(X:E7 o s Z s' Z' (aC C1 ⟨loc,l++gl⟩)):E7 o s Z s' Z' (aC C1 ⟨loc,l⟩) :=
 E7.dropF (loc:=loc) (l:=gl) (er (C1:=C1) (loc:=loc) (D8:=loc) (ZG (l₁:=l) (l₂:=gl))▸X)
theorem Ws{J:List AV->St->Prop}{K:D4->St->Prop}(hA:D6 A k)
  (H6:T C0 w A B C1 Val (k7 iter C1) st fun v E5=>F1 C0 w A B C1 Val pyIter v E5 (þ C0 w B N k C3 J))
  (step:∀x xs C4 gl,J (x::xs) C4->F1 C0 w A B C1 aS (m0 C3 C1) x ⟨C4.loc,C4.led++gl⟩ fun O J2=>T C0 w A B C1 E1 (execs body C1) J2 (T2 J K xs gl))
  (hN:∀items C4,J items C4->G5 N C4.led) (done:∀C4,J [] C4->K .next C4) (hs:∀x,w9 iter C1 x=o4 x) :
  T C0 w A B C1 E1 (exec (.For C3 iter body [] pos) C1) st K:=fun s Z S Q E hQ=>by
 refine wpAny_For (H6 s Z S _ _ fun v x s₁ Z1 E5 k₁ S1 V1 X1=>k₁ s₁ Z1 x V1 S1 _ _ fun u y s2 Z2 F9 k2 S2 V2 X2=>þ.rec (motive:=fun u F9 O=>D7 B C1 s2 Z2 F9->Val Z2 u y->E7 (aC C1 st) s Z s2 Z2 (aC C1 F9)->_) (fun{it gl l items I9} hit hJ S2 V2 X0=>?_) k2 S2 V2 (X1.trans X2)) hs;have ey:y=.ref it:=V2.inv;subst ey;clear V2 k2 k₁ V1 S1 X1 X2;refine UV (HY C0 w B C1 N k C3 it J st s Z) ?_ items.length ⟨Z2,I9,l,gl,items,rfl,S2.perm ZG,hit,hJ,er (C1:=C1) (loc:=I9) (D8:=I9) (ZG (l₁:=gl) (l₂:=l))▸X0⟩;clear X0 S2 hit hJ;intro n s' Y3;refine Zf Y3 fun Z' D8 l' gl' xs e S' N8 Θ X'=>?_;clear Y3;subst e;cases xs with
 |nil=>exact sf N8 hA (hN _ _ Θ) S' fun s3 Z3 S3 X3=>hQ .next .next s3 Z3 _ (done _ Θ) S3 .next (X'.trans X3)
 |cons x xs =>
  refine e9 (se N8 hA (hN _ _ Θ) S' (Q:=fun r s₁=>match r with
   |none=>False
   |some v=>ZS (ZP C0 w) A (m0 C3 C1 v) (fun O s2=>ZS (ZP C0 w) A (execs body C1) (fun f s3=>match f with
     |.next |.cont=>∃m,m<(x::xs).length/\HY C0 w B C1 N k C3 it J st s Z m s3
     |.brk=>Q .next s3
     |.ret v=>Q (.ret v) s3) (notedBy (ZP C0 w) A C1 fun e s'=>cameBackBy (ZP C0 w) A C1 E e s') s2) (notedBy (ZP C0 w) A C1 fun e s'=>cameBackBy (ZP C0 w) A C1 E e s') s₁)
   fun s3 Z3 v gl3 S3 V3 X3 U8=>step x xs ⟨D8,l'⟩ gl3 Θ s3 Z3 v V3 S3 _ _ fun O O s4 Z4 N5 k4 S4 O X4=>k4 s4 Z4 S4 _ _ fun f y s5 Z5 Ä J7 S5 V5 X5=>?_) (fun r s₁ h1=>?_) fun O O h=>h
  ·have X6:=((X'.trans X3).trans X4).trans X5;clear k4 S4 X4 X5 X3 S3 V3 X' S' N8 Θ step H6 done;induction V5 with
   |next=>cases J7 with |next k=>exact⟨xs.length,t9 _,Z5,_,_,gl3,xs,rfl,S5,U8,k,X6⟩
   |cont=>cases J7 with |cont k=>exact⟨xs.length,t9 _,Z5,_,_,gl3,xs,rfl,S5,U8,k,X6⟩
   |brk=>cases J7 with |brk k=>exact hQ .next .next s5 Z5 _ k S5.front .next X6.front
   |ret hv=>cases J7 with |ret k=>exact hQ _ _ s5 Z5 _ k S5.front (.ret hv) X6.front
  ·cases r with
   |none=>exact h1.elim
   |some v=>exact h1
end
section
variable{N:aa}{n m:Nat}
theorem Sk.push{c c':Code}{fs:List Frame}{k:Result->Sem PySem.Fin}{l:List Value}{p:Pos}(h:Sk n m c fs)(h1:c'.weight=0)(h2:c'.cUnits=0):Sk n m c' (.ret k none false l c p []::fs) where
 room:=fun A hA=>by
  have R:=h.room A hA;refine⟨?_,?_,?_⟩
  ·show (marksOver (.ret k none false l c p []::fs) (A.handled,A.handled)).1=none
   have:=R.h;simpa[Around.over,marksOver,Frame.marks,markOver] using this
  ·have:=R.d;simp only[Around.over,ZD,Frame.where_,frameCount_cons,h1] at this ⊢;omega
  ·have:=R.u;simp only[Around.over,ZD,Frame.where_,unitsOf_cons,h2] at this ⊢;omega
 split:=by simp only[splitAtGen,h.split,Option.map_none]
 quiet:=by simp only[List.any_cons,Frame.guarded,h.quiet,Bool.or_false]
noncomputable def sL(C3:Expr)(it:Value)(body:List Stmt)(C1:Env)(v:Value):Sem PySem.Fin :=
 m0 C3 C1 v>>=fun O=>execs body C1>>=fun f=>match f with
  |.next |.cont => .pure (.again (.forLoop C3 it body [] C1))
  |.brk => .pure (.done .next)
  |.ret v => .pure (.done (.ret v))
noncomputable def rN(C3:Expr)(it:Value)(body:List Stmt)(C1:Env)(r:Option Value):Sem PySem.Fin :=
 match r with
 |none => .pure (.again (.block [] C1))
 |some v=>g5 C3 it v>>=fun O=>sL C3 it body C1 v
theorem Te{it:Value}:forTurn C3 it body [] C1=(standAt C3.pos>>=fun O=>((s6 it).onRaise (fun O=>standAt {C3.pos with line:=0}))>>=rN C3 it body C1):=by
 unfold forTurn rN sL;congr 1
theorem Gz{it:Value}:∃H,(ZP C0 w).den (.forLoop C3 it body [] C1) =
  .at C3.pos fun O=>(s6 it).wrap (fun r=>(rN C3 it body C1 r).wrap .pure (fun e=>(do noteFrame e C1;theTreesLotGoes e:Sem Unit).bind fun O => .raise e) id id) H id id:=by
 apply Exists.intro
 ·show (forTurn C3 it body [] C1).onRaise (fun x=>do noteFrame x C1;theTreesLotGoes x)=_;rw[Te,y4];show Sem.at C3.pos (fun O=>Sem.wrap _ _ _ _ (((s6 it).onRaise (fun O=>standAt {C3.pos with line:=0}))>>=rN C3 it body C1))=_;rw[j3,y4,m9,m9];rfl
inductive V8 (J:List AV->St->List AV->Prop) (K:D4->St->List AV->Prop) (xs:List AV) (gl:aa):D4->St->List AV->Prop
 |next {loc:List (Str×AV)} {l:aa} {C5:List AV} (h:J xs ⟨loc,l⟩ C5):V8 J K xs gl .next ⟨loc,l++gl⟩ C5
 |cont {loc:List (Str×AV)} {l:aa} {C5:List AV} (h:J xs ⟨loc,l⟩ C5):V8 J K xs gl .cont ⟨loc,l++gl⟩ C5
 |brk {loc:List (Str×AV)} {l:aa} {C5:List AV} (h:K .next ⟨loc,l⟩ C5):V8 J K xs gl .brk ⟨loc,l++gl⟩ C5
 |ret {v:AV} {loc:List (Str×AV)} {l:aa} {C5:List AV} (h:K (.ret v) ⟨loc,l⟩ C5):V8 J K xs gl (.ret v) ⟨loc,l++gl⟩ C5
inductive ρ (C0:ZJ) (w:ZQ) (B:D3) (N:aa) (n m:Nat) (C1:Env) (C3:Expr) (v:AV) (body:List Stmt) (gl:aa) (K:D4->St->List AV->Prop) (st:St) (C5:List AV):Prop
 |mk {loc:List (Str×AV)} (h:∀A,D6 A m->∀led,G5 N led->F1 C0 w A B C1 aS (m0 C3 C1) v ⟨st.loc,(st.led++gl)++led⟩ fun O s=>s=⟨loc,(st.led++gl)++led⟩) (k:TG C0 w B N n m C1 (execs body C1) ⟨loc,st.led++gl⟩ C5 K):ρ C0 w B N n m C1 C3 v body gl K st C5
theorem Lk{K:D4->St->List AV->Prop}{J:List AV->St->List AV->Prop}(hk:k<=m)
  (step:∀x xs C4 E2 gl,J (x::xs) C4 E2->ρ C0 w B N n m C1 C3 x body gl (V8 J K xs gl) C4 E2)
  (done:∀C4 E2,J [] C4 E2->K .next C4 E2) {fs:List Frame} (hs:Sk n m (.forLoop C3 (.ref it) body [] C1) fs) (hb:Sk n m (.block [] C1) fs)
  (hK:∀f x C4 E2,K f C4 E2->N2 f x->∀c,jt C0 w B N n C1 c (.pure (.done x)) fs E2 C4) :
  ∀(xs:List AV) (st:St) (C5:List AV) (gl:aa),D5 C0 w B N k C3 it xs gl->J xs st C5 ->
   jt C0 w B N n C1 (.forLoop C3 (.ref it) body [] C1) ((ZP C0 w).den (.forLoop C3 (.ref it) body [] C1)) fs C5 ⟨st.loc,st.led++gl⟩:=by
 intro xs;induction xs with
 |nil =>
  intro st C5 gl hit hJ A hA led hN H0 G9 Z0 s Z S X;refine aw (Gz (C0:=C0) (w:=w) (C1:=C1) (C3:=C3) (it:=.ref it) (body:=body)) fun H hH=>?_;rw[hH];refine iA ?_;have Sp:D7 B C1 s Z ⟨st.loc,(st.led++led)++gl⟩:=S.perm (by
   simp only[ZW];exact B7 _ ZG)
  refine dL (sf hit ((hs.room A hA).mono hk) (hN.app _) Sp fun s3 Z3 S3 X3=>?_);show be _ A _ _ (.pure (.again (.block [] C1))) fs s3;refine lQ rfl ?_;show be _ A _ _ (.pure (.done .next)) fs s3;refine hK .next .next st C5 (done st C5 hJ) .next _ A hA led hN H0 G9 Z0 s3 Z3 S3 (X.trans ?_);exact(Eq.symm (er (C1:=C1) (loc:=st.loc) (D8:=st.loc) (l:=(st.led++gl)++led) (l':=(st.led++led)++gl) (by
   simp only[ZW];exact B7 _ ZG)))▸X3
 |cons x xs ih =>
  intro st C5 gl hit hJ A hA led hN H0 G9 Z0 s Z S X;refine aw (Gz (C0:=C0) (w:=w) (C1:=C1) (C3:=C3) (it:=.ref it) (body:=body)) fun H hH=>?_;rw[hH];refine iA ?_;have P:((st.led++gl)++led).Perm ((st.led++led)++gl):=by
   simp only[ZW];exact B7 _ ZG
  have Sp:D7 B C1 s Z ⟨st.loc,(st.led++led)++gl⟩:=S.perm P;rw[er (C1:=C1) (loc:=st.loc) (D8:=st.loc) P] at X;refine dL (e9 (se hit ((hs.room A hA).mono hk) (hN.app _) Sp (Q:=fun r s₁=>match r with
   |none=>False
   |some v=>be (ZP C0 w) A (oR C0 w B N n C5 led H0 G9 Z0) (.forLoop C3 (.ref it) body [] C1) ((sL C3 (.ref it) body C1 v).wrap .pure (fun e=>(do noteFrame e C1;theTreesLotGoes e:Sem Unit).bind fun O => .raise e) id id) fs s₁)
   (E:=fun O O=>False) fun s3 Z3 v gl3 S3 V3 X3 U8=>?_) (fun r s₁ h1=>?_) fun O O h=>h.elim)
  ·dsimp only;unfold sL;rw[j3,m9];have P3:((st.led++led)++gl3).Perm ((st.led++gl3)++led):=by
    simp only[ZW];exact B7 _ ZG
   have X':=X.trans X3;rw[er (C1:=C1) (loc:=st.loc) (D8:=st.loc) P3] at X';refine ρ.rec (fun{loc4} h k=>?_) (step x xs st C5 gl3 hJ);refine dL (h _ (hs.room A hA) led hN s3 Z3 v V3 (S3.perm P3) _ _ fun O O s4 Z4 N5 e S4 O X4=>?_);subst e;rw[j3,m9];refine k _ fs _ _ _ _ hs rfl (fun f y Ä T6 J7 p=>?_) A hA led hN H0 G9 Z0 s4 Z4 S4 (X'.trans X4);clear k h S4 X4 X' S3 V3 X3 X Sp P P3 S hJ step;have ν:∀ {K4 l₅},J xs ⟨K4,l₅⟩ T6->jt C0 w B N n C1 (.forLoop C3 (.ref it) body [] C1) (.pure (.again (.forLoop C3 (.ref it) body [] C1))) fs T6 ⟨K4,l₅++gl3⟩:=fun Θ A' D0 led' F6 M3 s' Z' L5 J9 J1 W7 =>
    lQ rfl (ih ⟨_,_⟩ T6 gl3 U8 Θ A' D0 led' F6 M3 s' Z' L5 J9 J1 W7)
   have Ρ:∀ {K4 l₅ f' x'},K f' ⟨K4,l₅⟩ T6->N2 f' x'->jt C0 w B N n C1 (.forLoop C3 (.ref it) body [] C1) (.pure (.done x')) fs T6 ⟨K4,l₅++gl3⟩:=fun{K4 l₅ f' x'} hk' p' A' D0 led' F6 M3 s' Z' L5 J9 J1 W7=>by
    have P5:((l₅++gl3)++led').Perm (gl3++(l₅++led')):=by
     have:((l₅++gl3)++led').Perm ((gl3++l₅)++led'):=List.Perm.append_right _ ZG;rwa [ZW gl3] at this
    refine hK f' x' ⟨K4,l₅⟩ T6 hk' p' _ A' D0 led' F6 M3 s' Z' L5 J9 ((J1.perm P5).drop) (E7.dropF (loc:=K4) (l:=gl3) ?_);exact(er (C1:=C1) (loc:=K4) (D8:=K4) P5)▸W7
   induction p with
   |next=>cases J7 with |next k=>exact ν k
   |cont=>cases J7 with |cont k=>exact ν k
   |brk=>cases J7 with |brk k=>exact Ρ (f':=.next) k .next
   |ret=>cases J7 with |ret k=>exact Ρ (f':=.ret .none) k .ret
  ·cases r with
   |none=>exact h1.elim
   |some v =>
    show be _ A _ _ (Sem.wrap _ _ _ _ (g5 C3 (.ref it) v>>=_)) fs s₁;rw[j3,m9];exact dL (e9 h1 (fun O s2 h2=>h2) fun O O h=>h.elim)
end
section
variable{N:aa}{n m:Nat}
inductive ς (C0:ZJ) (w:ZQ) (B:D3) (N:aa) (k:Nat) (C3:Expr) (led:aa) (J:List AV->St->List AV->Prop) (C5:List AV):AV->St->Prop
 |mk {it:b0} {gl l:aa} {items:List AV} {loc:List (Str×AV)} (hI:D5 C0 w B N k C3 it items gl) (hJ:J items ⟨loc,l⟩ C5):ς C0 w B N k C3 led J C5 (.ref it) ⟨loc,gl++(l++led)⟩
theorem WB{J:List AV->St->List AV->Prop}{K:D4->St->List AV->Prop}(hk:k<=m)
  (H6:∀A,D6 A m->∀led,G5 N led->T C0 w A B C1 Val (k7 iter C1) ⟨st.loc,st.led++led⟩ fun v E5=>F1 C0 w A B C1 Val pyIter v E5 (ς C0 w B N k C3 led J C5))
  (step:∀x xs C4 E2 gl,J (x::xs) C4 E2->ρ C0 w B N n m C1 C3 x body gl (V8 J K xs gl) C4 E2)
  (done:∀C4 E2,J [] C4 E2->K .next C4 E2) (hs:∀x,w9 iter C1 x=o4 x) :
  TG C0 w B N n m C1 (exec (.For C3 iter body [] pos) C1) st C5 K:=fun c fs Kc H gd lv hsk hg hK A hA led hN H0 G9 Z0 s Z S X=>by
 rw[exec_For];refine iA ?_;show be _ A _ c ((k7 iter C1>>=fun x=>w9 iter C1 x>>=fun x=>standAt iter.pos>>=fun O=>A9 [x] (pyIter x)>>=fun it=>runOwn (.forLoop C3 it body [] C1) C1).wrap Kc H gd lv) fs s;rw[j3,m9];refine dL (H6 _ (hsk.room A hA) led hN s Z S _ _ fun v x s₁ Z1 E5 k₁ S1 V1 X1=>?_);rw[hs x];refine iA ?_;show be _ A _ c ((A9 [x] (pyIter x)>>=fun it=>runOwn (.forLoop C3 it body [] C1) C1).wrap Kc H gd lv) fs s₁;rw[j3,m9];refine dL (ZF (k₁ s₁ Z1 x V1 S1 _ _ fun u y s2 Z2 F9 k2 S2 V2 X2=>ς.rec (motive:=fun u F9 O=>D7 B C1 s2 Z2 F9->Val Z2 u y->E7 (aC C1 ⟨st.loc,st.led++led⟩) s Z s2 Z2 (aC C1 F9)->_) (fun{it gl l items I9} hit hJ S2 V2 Ι=>?_) k2 S2 V2 (X1.trans X2)));have ey:y=.ref it:=V2.inv;subst ey;refine Ln fun p=>?_;have hgf:gd false=false:=hg;rw[hgf];have W4:=hsk.push (c':=.forLoop C3 (.ref it) body [] C1) (k:=(fun r=>((match r with |.ok f=>(.pure f:Sem Flow) |.error e => .raise e).onRaise fun(x:Value)=>do
    if (← field x 1)==j6 then unsupported "frame.own-activation:exception-without-traceback"
    setFlight x C1.frame).wrap Kc H gd lv)) (l:=lv []) (p:=p) rfl rfl
 have É:=hsk.push (c':=.block [] C1) (k:=(fun r=>((match r with |.ok f=>(.pure f:Sem Flow) |.error e => .raise e).onRaise fun(x:Value)=>do
    if (← field x 1)==j6 then unsupported "frame.own-activation:exception-without-traceback"
    setFlight x C1.frame).wrap Kc H gd lv)) (l:=lv []) (p:=p) rfl rfl
 have P:(gl++(l++led)).Perm ((l++gl)++led):=by
  rw[← ZW];exact List.Perm.append_right _ ZG
 have X':=X.trans Ι;rw[er (C1:=C1) (loc:=I9) (D8:=I9) P] at X';refine Lk (K:=K) (J:=J) hk step done W4 É (fun f x C4 E2 k' p' c' A' D0 led' F6 M3 s' Z' L5 J9 J1 W7=>?_) items ⟨I9,l⟩ C5 gl hit hJ A hA led hN H0 G9 Z0 s2 Z2 (S2.perm P) X';refine Lm (.ok x) ?_;exact hK f x C4 E2 k' p' A' D0 led' F6 M3 s' Z' L5 J9 J1 W7
theorem Sk.func:Sk (m+3) m (.func body C1) [] where
 room:=fun A hA=>⟨hA.h,by
  have:=hA.d;show A.depth+0+1+m<=_;omega,by
  have:=hA.u;show A.units+0+3+m<=_;omega⟩
 split:=rfl
 quiet:=rfl
theorem I8.fresh{l:aa}(hk:∀x v,loc.lookup x=some v->C1.kindOf x=some .local)(hf:C1.scope.kind=.function)
  (h:TG C0 w B N (m+3) m C1 (execs body C1) ⟨loc,l⟩ C5 fun f st E2=>E2=[]):I8 C0 w B N (m+3) C5 ((C1.locals,.ns loc)::l) (.fresh (.func body C1)):=by
 rw[I8.iff];intro A hA led hN s Z S;show be _ A _ _ (.point [] fun O=>((execs body C1).onRaise (leaving C1))>>=_) [] s;refine Ll ?_;have SF:D7 B C1 s Z ⟨loc,l++led⟩:=C7.toF (st:=⟨loc,l++led⟩) S hk hf;rw[y4,j3,m9];refine h _ [] _ _ _ _ Sk.func rfl (fun f x C4 E2 k p A' D0 led' F6 M3 s' Z' L5 J9 J1 W7=>?_) A hA led hN _ s Z s Z SF (by rw[dx];exact .refl);subst k;have fin:be (ZP C0 w) A' (oR C0 w B N (m+3) [] led' M3 s' Z') (.func body C1) (.pure (.done (.ret .none))) [] L5:=by
  refine Br (.ok (.ret .none)) ⟨.inl rfl,J9,(J1.toC7).drop (l:=C4.led),?_⟩;refine W7.less (fun a h => .inr ?_) fun a h=>?_
  ·show a∈keys (C4.led++led');rw[keys,ZT];exact ZY _ h
  ·show a∈gkeys (C4.led++led');unfold gkeys;rw[u9];exact ZY _ h
 induction p with
 |next=>exact fin
 |brk=>exact fin
 |cont=>exact fin
 |ret=>exact fin
theorem WR{f:b0}{fd:A6}{led:aa}{K:AV->aa->Prop}{c:b0}{oc:Obj}{vs:Array Value}{tq:Tok}
  (hG:G1 B) (ho:B f=some o) (hd:o.data=.func fd) (Q4:fd.scope.isCoroutine=false) (Y_:fd.scope.isGenerator=true) (hk:fd.scope.kind=.function) (M8:fd.body=.stmts body)
  (I6:∀x∈fd.scope.names,x.2 ≠ .cell)
  (hc:fd.code=.ref c) (H_:B c=some oc) (U6:oc.data=.fields vs) (hq:vs[1]?=some (.str fd.qualname tq)) (H5:A.depth<o1)
  (hb:Binds C0 w A.in1 B fd args kw binds) (K5:∀x∈binds.map (·.1),fd.scope.names.lookup x=some .local)
  (h:∀L a g,K (.ref a) ((a,.gen g (.fresh (.func body (gv fd.scope L fd.globals fd.closure fd.qualname f fd.code fd.builtins))))::(L,.ns binds.reverse)::led)) :
  TC C0 w A B (.ref f) args kw led K:=fun s Z fx xs ks S hf hx p_ R hR=>by
 cases hf
 refine codeAny_call_generator H5 (S.frozen _ _ (S.base _ _ ho)) hd Q4 Y_ M8 ⟨c,oc,vs,tq,hc,S.frozen _ _ (S.base _ _ H_),U6,hq⟩ ?_;refine hb s Z led xs ks S hx p_ _ _ fun bs s₁ Z1 S1 Ζ X1=>?_;have hR:=hR.after X1;clear X1 S;revert s₁ Z1;intro s Z S Ζ hR;refine wpAny_newFunctionEnv (around:=none) I6 (fun x hx=>K5 x.1 (Ζ.keys▸ZO hx)) (fun h1 g_ K1=>?_) hk;have keep:∀b o,s.heap.get? b=some o->h1.get? b=some o:=fun b o e=>K1.extBut b o (j9 (e8 e)) (ZC _ e);refine⟨hG.lim _ fun a o e=>keep a o (S.frozen a o (S.base a o e)),?_⟩;have hf:=gm s;have hf1:=gm {s with heap:=h1};have I3:h1.objs.size≠s.heap.objs.size:=jx g_ fun ob O O g O=>Nat.ne_of_gt (e8 g);generalize W5:({cls:=.type "generator",data:=.fields #[.int s.gens.size 0,.str fd.name (s.toks+bs.length),.str fd.qualname (s.toks+bs.length+1)]}:Obj)=go;have R0:∀b o,s.heap.get? b=some o->(h1.push go).get? b=some o:=fun b o e=>ZC go (keep b o e);have Ï:(h1.push go).get? h1.objs.size=some go:=ZB _ (by subst W5;rfl);have Z8:s.gens[s.gens.size]?=none:=A0 (ZZ _);have hfb:=zj (s:=s) (s₁:={ s with heap:=h1}) keep hf1;have hgl:s.gens.size∉gkeys led:=fun q=>by
  refine ae (List.mem_filterMap.mp q) fun p hp e=>?_
  have:=S.own p hp;obtain⟨a,ob⟩:=p;cases ob with
  |gen g gs=>exact nomatch Z8.symm.trans (show s.gens[s.gens.size]?=some gs from(r7 e:g=s.gens.size)▸this.2)
  |_=>exact nomatch e
 have a_:∀g (gs x:y7),s.gens[g]?=some gs->(s.gens.push x)[g]?=some gs:=fun g gs x e=>by
  rw[Array.getElem?_push,if_neg (aw (Array.getElem?_eq_some_iff.mp e) fun G8 O=>j9 G8)];exact e
 refine hR (.ref h1.objs.size) _ _ Z _ (h s.heap.objs.size h1.objs.size s.gens.size) (C7.cons (C7.cons (S.keep R0 (fun g gs e=>a_ g gs _ e) fun x hx=>(Array.mem_push.mp hx).elim (S.bare x) fun e=>e▸rfl) (S.lfree hf) (S.zfree hf)
   (M1.mono (.refl _) (fun o e=>ZC go e) ⟨_,g_,fun y=>Ζ.reverse.lookup y⟩) S.gnodup) (fun q=>(Zy.mp q).elim I3 (S.lfree hfb)) (S.zfree hfb)
   ⟨⟨go,_,_,Ï,by subst W5;rfl,by subst W5;rfl,by subst W5;rfl⟩,(Array.getElem?_push ..).trans ((if_pos rfl).trans rfl)⟩ (ZL.mpr ⟨hgl,S.gnodup⟩)) (.ref _)
  ⟨.refl _,fun a o e O=>R0 a o e,fun a ha=>(Zy.mp ha).elim (fun e => .inr (e▸hfb)) fun q=>(Zy.mp q).elim (fun e => .inr (e▸hf)) .inl,fun O O e => .inl e,rfl,fun g gs e O=>a_ g gs _ e,
   fun g hg=>(Zy.mp (show g∈s.gens.size::gkeys led from hg)).elim (fun e => .inr (e▸Z8)) .inl⟩
theorem Rd{fd:A6}{L f c:b0}(K5:((binds.map (·.1)).all fun x=>decide (fd.scope.names.lookup x=some .local))=true) :
  ∀x v,binds.reverse.lookup x=some v->(bf fd L f c).kindOf x=some .local:=fun x v e=>of_decide_eq_true (c5.mp K5 x (EH e))
def H8(C0:ZJ)(w:ZQ)(B:D3)(N:aa)(n:Nat)(C5:List AV)(led:aa)(v:AV)(led':aa):Prop :=
 ∃a g gs gl,v=.ref a/\led'=((a,.gen g gs)::gl)++led/\I8 C0 w B N n C5 gl gs
theorem H8.elim{N:aa}{led:aa}{P:AV->aa->Prop}(k:∀a g gs gl,I8 C0 w B N n C5 gl gs->P (.ref a) (((a,.gen g gs)::gl)++led))(v:AV)(led':aa)(h:H8 C0 w B N n C5 led v led'):P v led' :=
 dq h fun a g gs gl e el hs=>e▸el▸k a g gs gl hs
theorem HL{K:Frag}{f c:b0}{fd:A6}{l0 led:aa}
  (hG:G1 (am K)) (ok:bF K f true fd body c) (H5:A.depth<o1) (hb:Binds C0 w A.in1 (am K) fd args kw binds)
  (K5:((binds.map (·.1)).all fun x=>decide (fd.scope.names.lookup x=some .local))=true)
  (h:∀L,TG C0 w (am K) N (m+3) m (bf fd L f c) (execs body (bf fd L f c)) ⟨binds.reverse,l0⟩ C5 fun O O E2=>E2=[]) :
  TC C0 w A (am K) (.ref f) args kw (l0++led) (H8 C0 w (am K) N (m+3) C5 led):=by
 refine It ok fun O1 M8 hc ë hg Ω O7 O8 h4=>?_;clear ok;obtain⟨o,ho,hd⟩:=O1;obtain⟨oc,vs,tq,H_,U6,hq⟩:=O7;obtain⟨h1,h2,h3⟩:=O8;refine WR hG ho hd h1 h2 h3 M8 (fun x hx=>of_decide_eq_true (c5.mp h4 x hx)) hc H_ U6 hq H5 hb (fun x hx=>of_decide_eq_true (c5.mp K5 x hx)) fun L a g=>?_;exact(Eq.symm (ë))▸(Eq.symm (hg))▸(Eq.symm (Ω))▸(Eq.symm (hc))▸il a g _ ((L,.ns binds.reverse)::l0) rfl rfl (I8.fresh (C1:=bf fd L f c) (Rd K5) h3 (h L))
end
noncomputable def D3.add(Z:D3)(a:b0)(o:Obj):D3:=fun b=>if b=a then some o else Z b
theorem D3.add_at(Z:D3)(a:b0)(o:Obj):Z.add a o a=some o:=if_pos rfl
theorem D3.le_add(h:Z a=none):D3.le Z (Z.add a o):=fun b ob e=>by
 unfold D3.add;by_cases q:b=a
 ·subst q;rw[h] at e;cases e
 ·rw[if_neg q];exact e
theorem D3.add_inv{b:b0}{ob:Obj}(e:Z.add a o b=some ob):Z b=some ob∨(b=a/\o=ob):=by
 unfold D3.add at e;by_cases q:b=a
 ·rw[if_pos q] at e;exact .inr ⟨q,r7 e⟩
 ·rw[if_neg q] at e;exact .inl e
theorem C7.stepN{s':Zx}{gl gl' led:aa}(S:C7 B s Z (gl++led))(keep:∀b o,b∉keys gl->s.heap.get? b=some o->s'.heap.get? b=some o)(ha:s.heap.get? a=none)(h':s'.heap.get? a=some o)
  (own:D3.le Z (Z.add a o)->∀p∈gl',Holds (Z.add a o) s' p.1 p.2) (hk:keys gl'=keys gl) (hg:gkeys gl'=gkeys gl) (r_:s'.gens=s.gens) (J5:s'.os=s.os) :
  D3.le Z (Z.add a o)/\C7 B s' (Z.add a o) (gl'++led)/\E7 (aj (gl++led)) s Z s' (Z.add a o) (aj (gl'++led)) :=
 have le:=D3.le_add (o:=o) (S.zfree ha)
 ⟨le,S.step le keep (fun b ob e=>(D3.add_inv e).elim .inl fun q => .inr (q.1▸q.2▸⟨ha,h'⟩)) (own le) (fun O h => .inl (hk▸h)) (hk▸(List.nodup_append.mp (ZT▸S.nodup:(keys gl++keys led).Nodup)).1) (hg▸.refl _) r_ J5⟩
theorem C7.pushZ{led:aa}(S:C7 B s Z led)(I':o.isFreed=false)(tk:Nat) :
  C7 B {s with heap:=s.heap.push o,toks:=tk} (Z.add s.heap.objs.size o) led/\E7 (aj led) s Z {s with heap:=s.heap.push o,toks:=tk} (Z.add s.heap.objs.size o) (aj led) :=
 C7.step (gl:=[]) (gl':=[]) S (D3.le_add S.zfresh) (fun O O O e=>ZC o e) (fun a ob e=>(D3.add_inv e).elim .inl fun q => .inr (q.1▸q.2▸⟨gm s,ZB _ I'⟩)) (fun O h=>absurd h n5) (fun O h=>absurd h n5) List.nodup_nil (.refl _) rfl rfl
theorem sV{x1:Nat}(h:T C0 w A B C1 Vals (spliced (u5 pos (f0 elts C1))) st fun vs C4=>vs.length<=c9/\K (.tup vs) C4) :
  T C0 w A B C1 Val (k7 (.Tuple elts x1 pos) C1) st K:=fun s Z S Q E hQ=>by
 rw[arm_eval_Tuple];refine Zq (a9 (Zq (h s Z S _ _ fun vs xs s' Z' C4 k S' V X=>?_)));refine wpAny_newTuple ?_ (by rw[V.length];exact k.1);have P:=S'.toC7.pushZ (o:={ cls:=.type "tuple",data:=.seq xs.toArray}) rfl s'.toks;exact hQ _ _ _ _ _ k.2 (S'.after P.1 P.2) (.tup (D3.add_at ..) (V.mono P.2.le)) (X.trans P.2.toF)
theorem jq(h:T C0 w A B C1 Vals (spliced (u5 pos (f0 elts C1))) st fun vs C4=>vs.length<=c9/\∀a,a∉keys C4.led->K (.ref a) ⟨C4.loc,(a,.list vs)::C4.led⟩) :
  T C0 w A B C1 Val (k7 (.List elts pos) C1) st K:=fun s Z S Q E hQ=>by
 rw[arm_eval_List];refine Zq (a9 (Zq (h s Z S _ _ fun vs xs s' Z' C4 k S' V X=>?_)));refine wpAny_newList ?_ (by rw[V.length];exact k.1);have P:=S'.toC7.push (o:={ cls:=.type "list",data:=.seq xs.toArray}) (ao:=.list vs) rfl s'.toks ⟨_,_,ZB _ rfl,V⟩;exact hQ _ _ _ _ _ (k.2 _ S'.toC7.lfresh) (S'.after P.1 P.2) (.ref _) (X.trans P.2.toF)
inductive F4 (led:aa):AV->List AV->Prop
 |own {a:b0} {xs:List AV}:(a,.list xs)∈led->F4 led (.ref a) xs
 |frz {xs:List AV}:F4 led (.lst xs) xs
theorem F4.type{led:aa}(h:F4 led v xs):eb B v led "list" := by
 induction h with
 |own h=>exact bz h
 |frz=>exact tT
theorem F4.get{led:aa}(h:F4 led v xs){x:Value}(V:Val Z v x)(S:C7 B s Z led):∃a items n,x=.ref a/\s.heap.get? a=some {cls:=.type "list",data:=.seq items n}/\Vals Z xs items.toList:=by
 induction h with
 |own h =>
  cases V
  refine bI (S.own _ h) fun items n g v=>?_;exact zK _ items n rfl g v
 |frz =>
  refine bv (ex V) fun O O O qv e h=>?_;subst qv;exact zK _ _ _ rfl (S.frozen _ _ e) (by simpa using h)
theorem ee{i:Int}{x:AV}(hl:F4 st.led v xs)(h0:0<=i)(h1:i<2^63)(hx:xs[i.toNat]?=some x)(h:K x st) :
  F2 C0 w A B C1 Val getItem v (.int i) st K:=fun s Z G2 x2 V1 V2 S Q E hQ=>by
 refine bv (hl.get V1 S.toC7) fun a items n O4 g vs=>?_;subst O4;cases V2
 refine ae (vs.get hx) fun u e hu=>?_;exact wpAny_getItem_list ⟨_,g,rfl,n,rfl⟩ h0 h1 (by simpa using e) (hQ x u s Z st h S hu .refl)
theorem Yz{i:Int}{x:AV}(hl:F4 st.led v xs)(h0:i<0)(h1 : -(xs.length:Int)<=i)(h2:xs.length<2^62)(hx:xs[(i+xs.length).toNat]?=some x)(h:K x st) :
  F2 C0 w A B C1 Val getItem v (.int i) st K:=fun s Z G2 x2 V1 V2 S Q E hQ=>by
 refine bv (hl.get V1 S.toC7) fun a items n O4 g vs=>?_;subst O4;cases V2
 have E3:items.size=xs.length:=vs.size;refine ae (vs.get hx) fun u e hu=>?_;exact wpAny_getItem_list_neg ⟨_,g,rfl,n,rfl⟩ h0 ⋯ ⋯ (by rw[E3];simpa using e) (hQ x u s Z st h S hu .refl)
theorem oP{K:Bool->St->Prop}(hl:F4 st.led v xs)(h1:xs.length<2^62)(h:K (!xs.isEmpty) st):F1 C0 w A B C1 aK truthy v st K:=fun s Z x V S Q E hQ=>by
 refine bv (hl.get V S.toC7) fun a items n O4 g vs=>?_;subst O4;have E3:items.size=xs.length:=vs.size;have he:items.isEmpty=xs.isEmpty:=by
  cases xs with
  |nil=>simp only[ZR] at E3;simp[Array.isEmpty,E3]
  |cons y ys=>simp only[Zz] at E3;simp[Array.isEmpty,E3]
 exact wpAny_truthy_list ⟨_,g,rfl,n,rfl⟩ ⋯ (hQ _ _ _ Z st h (S.toks _) (by rw[he];rfl) (.toks _))
section
variable{N:aa}
inductive Upd (a:b0) (o o':D9):aa->aa->Prop
 |here {l:aa}:Upd a o o' ((a,o)::l) ((a,o')::l)
 |there {p:b0×D9} {l l':aa}:Upd a o o' l l'->Upd a o o' (p::l) (p::l')
theorem Upd.mem{o o':D9}{l l':aa}(u:Upd a o o' l l'):(a,o)∈l:=by
 induction u with
 |here=>exact Zr ..
 |there _ ih=>exact Zt _ ih
theorem Upd.keys{o o':D9}{l l':aa}(u:Upd a o o' l l'):keys l'=keys l:=by
 induction u with
 |here=>rfl
 | @there p l l' _ ih=>show p.1::Internal.keys l'=p.1::Internal.keys l;rw[ih]
theorem Upd.gkeys{o o':D9}{l l':aa}(u:Upd a o o' l l')(h:o.gnum=none)(h':o'.gnum=none):gkeys l'=gkeys l:=by
 induction u with
 |here=>unfold Internal.gkeys;rw[k9,k9,h,h']
 | @there p l l' _ ih =>
  have ih:List.filterMap (fun p:b0×D9=>p.2.gnum) l'=List.filterMap (fun p:b0×D9=>p.2.gnum) l:=ih;unfold Internal.gkeys;rw[k9,k9,ih]
theorem Upd.out{o o':D9}{l l':aa}(u:Upd a o o' l l')(nd:(Internal.keys l).Nodup):∀p∈l',p=(a,o')∨(p∈l/\p.1≠a):=by
 induction u with
 | @here l =>
  intro p hp;rcases Zy.mp hp with rfl |hp
  ·exact .inl rfl
  ·exact .inr ⟨Zt _ hp,fun e=>(ZL.mp nd).1 (by show a∈_;exact(e)▸ZO (f:=fun x:b0×D9=>x.1) hp)⟩
 | @there q l l' u ih =>
  intro p hp;rcases Zy.mp hp with rfl |hp
  ·exact .inr ⟨Zr ..,fun e=>(ZL.mp nd).1 (by show p.1∈_;exact(Eq.symm (e))▸ZO (f:=fun x:b0×D9=>x.1) u.mem)⟩
  ·rcases ih (ZL.mp nd).2 p hp with h |⟨h,h'⟩
   ·exact .inl h
   ·exact .inr ⟨Zt _ h,h'⟩
theorem C7.upd{led led':aa}{o o':D9}(U:Upd a o o' led led')(S:C7 B s Z led){h':Heap}{tk:Nat}(hs:∀b ob,b≠a->s.heap.get? b=some ob->h'.get? b=some ob)(g1:o.gnum=none)(g2:o'.gnum=none)
  (hh:Holds Z {s with heap:=h',toks:=tk} a o'):C7 B {s with heap:=h',toks:=tk} Z led'/\E7 (aj led) s Z {s with heap:=h',toks:=tk} Z (aj led'):=by
 have à:aj led'=aj led:=by unfold aj;rw[U.keys,U.gkeys g1 g2]
 have hZ:Z a=none:=S.apart _ U.mem;refine⟨⟨S.base,fun b ob e=>hs b ob (fun q=>by rw[q,hZ] at e;cases e) (S.frozen b ob e),by rw[U.keys];exact S.nodup,fun p hp=>?_,fun p hp=>?_,by rw[U.gkeys g1 g2];exact S.gnodup,S.bare⟩,?_⟩
 ·rcases U.out S.nodup p hp with rfl |⟨h,_⟩
  ·exact hZ
  ·exact S.apart p h
 ·rcases U.out S.nodup p hp with rfl |⟨h,I3⟩
  ·exact hh
  ·exact(S.own p h).mono (.refl _) (fun ob e=>hs _ ob I3 e) fun O O O e=>e
 ·rw[à];exact⟨.refl _,fun b ob e hb=>hs b ob (fun q=>hb (q▸ZO U.mem)) e,fun b hb => .inl hb,fun O O e => .inl e,rfl,fun O O e O=>e,fun g hg => .inl hg⟩
theorem zM{T' Tx:String}(R_:typeOf (.type T')=o4 (.type "type"))(L6:y8 (.type Tx) (.type T')=o4 true)(hv:eb B v st.led Tx)(h:K (.bool true) st) :
  FC C0 w A B C1 (.blt "isinstance") [v,.typ T'] [] st K:=FC.b fun s Z S Q E hQ=>Vals.un <| fun O h1=>Vals.un <| Val.eTyp <| Vals.un0 <| call_isinstance (isinstance_true (Tx:=Tx) R_ L6) ⟨(hv s Z _ h1 S.toC7).1,hQ _ _ s Z st h S (.bool true) .refl⟩
theorem gB(hl:F4 st.led v xs)(h1:xs.length<2^62)(h:K (.int xs.length) st):FC C0 w A B C1 (.blt "len") [v] [] st K:=FC.b fun s Z S Q E hQ=>Vals.un <| fun O hv=>Vals.un0 <| by
 refine bv (hl.get hv S.toC7) fun a items n O4 g vs=>?_;subst O4;have E3:items.size=xs.length:=vs.size;refine Calls.call_len_list ⟨_,g,rfl,n,rfl⟩ ⋯ (hQ _ _ _ Z st h (S.toks _) ?_ (.toks _));rw[E3];exact .int _ _
theorem zR{led':aa}(hsz:xs.length<=c9)(U:Upd a (.list xs) (.list (xs++[v])) st.led led')(h:K .none ⟨st.loc,led'⟩) :
  FC C0 w A B C1 (.blt "list.append") [.ref a,v] [] st K:=FC.b fun s Z S Q E hQ=>Vals.un <| Val.eRef <| Vals.un fun u Ù=>Vals.un0 <| by
 refine bI (S.own _ U.mem) fun items n g vs=>?_;dsimp only at g;have E3:items.size=xs.length:=vs.size;refine call_meets F.slot_list_append (⟨_,g,rfl⟩) F.entry_list_append (F.args_list_append_2 _ _) (list_append a items n u ⋯) ⟨g,?_⟩;have K3:∃n',(s.heap.update a (d9 fun x=>x.push u)).get? a=some {cls:=.type "list",data:=.seq (items.push u) n' }:=⟨_,c6 (d9 fun x=>x.push u) g rfl⟩;refine aw K3 ?_;clear K3;intro n' K3;have P:=S.toC7.upd U (h':=s.heap.update a (d9 fun x=>x.push u)) (tk:=s.toks) (fun b ob hb e=>(c0 ..).extBut b ob hb e) rfl rfl ⟨_,n',K3,by simpa using vs.append (.cons Ù .nil)⟩;exact hQ _ _ _ Z _ h (S.after P.1 P.2) .none P.2.toF
def FA(C0:ZJ)(w:ZQ)(A:ZI)(B:D3)(C1:Env)(ts:List (Value->Sem Unit))(vs:List AV)(st:St)(K:Unit->St->Prop):Prop :=
 ∀(s:Zx) (Z:D3) (xs:List Value),Vals Z vs xs->D7 B C1 s Z st->∀(Q:Unit->Zx->Prop) (E:Value->Zx->Prop),
  HQ B C1 aS st K s Z Q->ZS (ZP C0 w) A (assignInOrder ts xs) Q E s
theorem zS{K:Unit->St->Prop}(h:K () st):FA C0 w A B C1 [] [] st K:=fun s Z xs hx S Q E hQ=>by
 (have e_:=hx.inv;subst e_)
 exact Zs (hQ () () s Z st h S trivial .refl)
theorem Ig{t:Value->Sem Unit}{ts:List (Value->Sem Unit)}{vs:List AV}{K:Unit->St->Prop}(h:F1 C0 w A B C1 aS t v st fun O C4=>FA C0 w A B C1 ts vs C4 K):FA C0 w A B C1 (t::ts) (v::vs) st K:=fun s Z xs hx S Q E hQ=>by
 cases hx with
 |cons hv hx =>
  show ZS _ A (A9 _ (t _)>>=fun O=>assignInOrder ts _) Q E s;exact Zq (ZF (h s Z _ hv S _ _ fun O O s' Z' C4 k S' O X=>k s' Z' _ (hx.mono X.le) S' Q E fun v x L5 J9 F0 k' J1 V' X'=>hQ v x L5 J9 F0 k' J1 V' (X.trans X')))
theorem cx{K:Unit->St->Prop}(h:F1 C0 w A B C1 aS (A8 C1 x) v st K):F1 C0 w A B C1 aS (m0 (.Name x pos) C1) v st K:=fun s Z u V S Q E hQ =>
 wpAny_assign_Name (h s Z u V S Q E hQ)
theorem D7.ext1(S:D7 B C1 s Z st){h':Heap}(he:Heap.ExtBut s.heap.objs.size s.heap h'):D7 B C1 {s with heap:=h' } Z st/\E7 (aC C1 st) s Z {s with heap:=h' } Z (aC C1 st):=by
 have keep:∀b o,s.heap.get? b=some o->h'.get? b=some o:=fun b o e=>he b o (j9 (e8 e)) e;exact⟨⟨⟨S.base,fun a o e=>keep a o (S.frozen a o e),S.nodup,S.apart,fun p hp=>(S.own p hp).mono (.refl _) (fun o e=>keep _ o e) (fun O O O e=>e),S.gnodup,S.bare⟩,S.locZ,S.locL,M1.mono (.refl _) (fun o e=>keep _ o e) S.loc,S.kinds,S.fn⟩,
  ⟨.refl _,fun a o e O=>keep a o e,fun a h => .inl h,fun O O e => .inl e,rfl,fun O O e O=>e,fun O h => .inl h⟩⟩
theorem Zc{x1:Nat}{vs:List AV}{K:Unit->St->Prop}(hh:A.handled=none)(hn:(n6 elts C1).length=vs.length)(M4:(n6 elts C1).findIdx? (·.1)=none)
  (h:FA C0 w A B C1 ((n6 elts C1).map (·.2)) vs st K):F1 C0 w A B C1 aS (m0 (.Tuple elts x1 pos) C1) (.tup vs) st K:=fun s Z u V S Q E hQ=>by
 refine bv (kP V) fun a items n qv e hv=>?_;subst qv;refine PySem.wpAny_assign_Tuple hh (items:=items.toArray) ⟨_,S.frozen _ _ e,rfl,n,rfl⟩ (by rw[hn];simp[hv.length]) M4 fun h' he=>?_;refine aA (S.ext1 he) fun S' X'=>?_;exact h _ Z _ (by simpa using hv) S' Q E fun v x L5 J9 F0 k' J1 V' W7=>hQ v x L5 J9 F0 k' J1 V' (X'.trans W7)
theorem QC{I ax:b0}{v:Value}{Q:Unit->Zx->Prop}(h:s.heap.IsTupleIter I ax i)(hQ:Q () s) :
  ZS (ZP C0 w) A (g5 C3 (.ref I) v) Q E s :=
 aU h fun o ho hc hd=>yj ho hc hd (.inr (.inl rfl)) hQ
theorem YT(h:∀it gl,D5 C0 w B N k C3 it xs gl->K (.ref it) ⟨st.loc,gl++st.led⟩):F1 C0 w A B C1 Val pyIter (.tup xs) st K:=fun s Z x V S Q E hQ=>by
 refine bv (kP V) fun a items n qv e hv=>?_;subst qv;have hl:s.heap.IsTuple a items.toArray:=⟨_,S.frozen _ _ e,rfl,n,rfl⟩;refine wpAny_pyIter_tuple hl ?_;have I3:a≠s.heap.objs.size:=j9 (e8 (S.frozen _ _ e));have E3:items.toArray.size=xs.length:=by simp[hv.length]
 have P:=S.toC7.push (o:={ cls:=.type "tuple_iterator",data:=.fields #[.ref a,.int 0 0]}) (ao:=gh s.heap.objs.size [s.heap.objs.size,a] (fun i v=>items.toArray[i]?=some v) xs (fun i h=>h.IsTupleIter s.heap.objs.size a i/\h.IsTuple a items.toArray) 0) rfl s.toks
  ⟨_,ZB _ rfl,fun b hb=>by
   simp only[Zy,n5,or_false] at hb;rcases hb with rfl |rfl
   ·exact .inl rfl
   ·exact .inr ⟨_,e⟩,fun i y v h1 h2=>by
   refine ae (hv.get h1) fun u e1 e2=>?_;simp only[List.getElem?_toArray] at h2;rw[e1] at h2;cases h2
   exact e2,fun h e1 e2=>⟨⟨_,e1,rfl,rfl⟩,_,e2 _ _ e,rfl,n,rfl⟩⟩
 refine hQ _ _ _ Z _ (h s.heap.objs.size _ (D5.walks (C0:=C0) (w:=w) (B:=B) (C3:=C3) (xs:=xs) (fun A hA=>by exact(E3)▸Walks.tuple hA s.heap.objs.size a I3 items.toArray) (fun A i s v Q E J8 hq=>QC J8.1 hq) (fun i h J8=>by refine ae J8.1 fun o ho O=>?_;exact⟨o,ho⟩) k xs.length 0 ⋯)) (S.after P.1 P.2) (.ref _) P.2.toF
end
section
variable{K:Frag}
theorem EI{es:Array DictEntry}{ep:Nat}(hd:o.data=.dict es ep)(hk:StrKeys es):lookIn name o=some (nsFind es name):=by
 unfold lookIn nsFind findBy;rw[hd];dsimp only;have e:es.find? (fun e=>e.key.isStr name)=es.toList.find? (fun e=>e.key.isStr name):=by rw[Array.find?_toList]
 rw[e];cases q:es.toList.find? (fun e=>e.key.isStr name) with
 |some e=>rfl
 |none =>
  dsimp only;rw[if_neg]
  ·rfl
  ·rw[Bool.not_eq_true,List.any_eq_false];intro e he;refine gF (hk e (by simpa using he)) fun n t hn=>?_;unfold DictEntry.refKey;exact(Eq.symm (hn))▸d3
def yA(m:List (Str×AV))(Z:D3)(o:Obj):Prop:=∃f:Str->Option Value,(∃es ep,o.data=.dict es ep/\StrKeys es/\UniqKeys es/\∀n,nsFind es n=f n)/\∀x,E9 Z (m.lookup x) (f x)
theorem RF{m:List (Str×AV)}(Z Z':D3)(o:Obj)(k:D3.le Z Z')(x:yA m Z o):yA m Z' o:=x.imp fun O h=>⟨h.1,fun y=>(h.2 y).mono k⟩
noncomputable abbrev bh(m:List (Str×AV)):D9:=.obj (yA m) RF
theorem Po{m:List (Str×AV)}(h:m.lookup x≠none):x∈m.map (·.1):=by
 induction m with
 |nil=>exact absurd rfl h
 |cons p l ih =>
  rw[ZN] at h;cases q:(x==p.1) with
  |true=>rw[beq_iff_eq.mp q];simp
  |false=>rw[q] at h;exact Zt _ (ih h)
structure U1 (K:Frag) (C:b0):Prop where
 ga:findIn K (.ref C) "__getattribute__" = some (some (.builtin "object.__getattribute__"))
 gt:findIn K (.ref C) "__getattr__" = some none
 sa:findIn K (.ref C) "__setattr__" = some (some (.builtin "object.__setattr__"))
 plain:plainOver K C=true
 cd:∃c,clsIn K C=some c/\c.hasDict=true
set_option backward.match.sparseCases false in
noncomputable def AV.handed:AV->Bool
 |.blt _=>false
 |.any=>false
 |_=>true
theorem Val.handed{x:Value}(h:Val Z v x)(e:v.handed=true):handedIn x=true:=by
 revert e;refine Val.casesOn (motive_1:=fun v x O=>v.handed=true->handedIn x=true) h ?_ ?_ ?_ ?_ ?_ ?_ ?_ ?_ ?_ ?_ ?_ ?_ ?_ ?_ ?_ <;> intros <;> first |rfl |exact(d3 (by assumption)).elim
theorem yz{od:Obj}(fr:∀a o,Z a=some o->s.heap.get? a=some o)(e:Z a=some {cls:=.ref C,dict:=some d,data:=.plain})(hd:s.heap.get? d=some od) :
  InstAt s.heap a {cls:=.ref C,dict:=some d,data:=.plain} C (some od):=⟨fr _ _ e,rfl,rfl,hd⟩
theorem dJ{m:List (Str×AV)}{R3:Bool}(ok:U1 K C)(hn:findIn K (.ref C) name=some none)(hm:(d,bh m)∈st.led)(hv:m.lookup name=some v)(hh:v.handed=true)
  (h:R v st):F1 C0 w A (am K) C1 Val (fun x=>getAttr x name R3) (.inst C d) st R:=fun s Z x V S Q E hQ=>by
 refine ae (yB V) fun O qv e=>?_;subst qv;refine ae (S.own _ hm) fun od U5 h_=>ae h_ fun f h_ hr=>lA h_ fun es ep K6 Y8 R' hf=>?_;dsimp only at U5;have I:=yz S.frozen e U5;have ē:=hr name;rw[hv] at ē;refine ae ok.cd fun c hc ê=>?_;cases s_:f name with
 |none =>
  rw[s_] at ē;cases ē
  cases hh
 |some u =>
  rw[s_] at ē;have V:Val Z v u:=by
   cases ē with
   |some h=>exact h
   |any=>cases hh
  refine get_value (K:=K) (dg S.base S.frozen) I ok.ga (v:=u) ?_ (V.handed hh) (hQ v u _ Z st h (S.toks _) V (.toks _));unfold findObj;rw[hc,hn];dsimp only[Option.bind_some];unfold ownOf;rw[ê,if_pos rfl];dsimp only;rw[EI K6 Y8,hf,s_];rfl
theorem Ik{m m':List (Str×AV)}{led':aa}{R:Unit->St->Prop}(ok:U1 K C)(ht:takerIn K C name=some none)(hm:cL m name v=m')(hsz:m'.length<=1000)(U:Upd d (bh m) (bh m') st.led led')
  (h:R () ⟨st.loc,led'⟩):F2 C0 w A (am K) C1 aS (fun x y=>setAttr x name y) (.inst C d) v st R:=fun s Z x y V V' S Q E hQ=>by
 refine ae (yB V) fun a qv e=>?_;subst qv;subst hm;refine ae (S.own _ U.mem) fun od U5 h_=>ae h_ fun f h_ hr=>lA h_ fun es ep K6 Y8 R' hf=>?_;dsimp only at U5;have g_:s.heap.Ns1 d f:=⟨od,es,ep,U5,K6,Y8,R',hf⟩;have X:=dg S.base S.frozen;have I:=yz S.frozen e U5;refine ae ok.cd fun c hc ê=>?_;refine set_plain (K:=K) X I ok.sa ?_;refine osa_open (s:={ s with toks:=s.toks+1}) X I ok.plain ht fun b=>?_;refine Zq (Zs (Zq (Zq (wpAny_loadPart I.at_ (Zq (looks_clsIn X hc _ _ _ _ (fun O O e=>e) ?_))))));rw[ê];refine Zs (a:=some d) (Zq (Zs (Zq ?_)));refine wpAny_nsSet1 (s:={ s with toks:=s.toks+1}) g_ fun h' W' K1=>?_;have hr':∀z,E9 Z ((cL m name v).lookup z) (if z=name then some y else f z):=fun z=>by
  rw[rY];by_cases q:z=name
  ·simp only[q,if_true];exact .some V'
  ·simp only[q,if_false];exact hr z
 have hw:Within (fun z=>if z=name then some y else f z) ((cL m name v).map (·.1)):=fun z hz=>Po fun e=>by
  have:=hr' z;rw[e] at this;have Ċ:(if z=name then some y else f z)≠none:=hz;revert Ċ this;generalize (if z=name then some y else f z)=q;intro this Ċ;cases this
  exact Ċ rfl
 refine bv (W'.count hw) fun o' es' ř Ì Ε í=>?_;have M6:o'.data.pastItsLine=none:=by
  rw[Ε];refine pastItsLine_dict ?_;rw[Zu] at í;have h1000:(1000:Nat)<=c9:=by decide
  omega
 refine Zq (wpAny_lookBehind (s:={ s with heap:=h',toks:=s.toks+1+1}) Ì M6 (Zs ?_));refine oS W' fun o2 M2 ep2 ho2 hd2 hk2 hu2 Ġ=>?_;clear W';have P:=S.toC7.upd U (h':=h') (tk:=s.toks+1+1) (fun b ob hb e=>K1.extBut b ob hb e) rfl rfl ⟨o2,ho2,_,⟨M2,ep2,hd2,hk2,hu2,Ġ⟩,hr'⟩;exact hQ () () _ Z _ h (S.after P.1 P.2) trivial P.2.toF
end
section
variable{K:Frag}
theorem WN{attr:Str}(M9:attributeBase value attr C1 (k7 value C1)=k7 value C1)
  (h:T C0 w A B C1 Val (k7 value C1) st fun v E5=>F1 C0 w A B C1 Val (fun x=>getAttr x attr true) v E5 R):T C0 w A B C1 Val (k7 (.Attribute value attr pos) C1) st R:=fun s Z S Q E hQ=>by
 rw[arm_eval_Attribute,M9];exact Zq (h s Z S _ _ fun v x s₁ Z1 E5 k₁ S1 V1 X1=>Zq (a9 (Zq (ZF (k₁ s₁ Z1 x V1 S1 _ _ fun u y s' Z' C4 k S' V X =>
  Zq (wpAny_letTemporaryGo (Zs (hQ u y s' Z' C4 k S' V (X1.trans X)))))))))
theorem dp{o:Expr}{attr:Str}{R:Unit->St->Prop}
  (h:T C0 w A B C1 Val (k7 o C1) st fun u E5=>F2 C0 w A B C1 aS (fun x y=>setAttr x attr y) u v E5 R):F1 C0 w A B C1 aS (m0 (.Attribute o attr pos) C1) v st R:=fun s Z x V S Q E hQ=>by
 rw[arm_assign_Attribute];refine Zq (ZF (h s Z S _ _ fun u y s₁ Z1 E5 k₁ S1 V1 X1=>Zq (a9 (Zq (ZF (k₁ s₁ Z1 y x V1 (V.mono X1.le) S1 _ _ fun O O s' Z' C4 k S' O X=>?_))))));exact PySem.wpAny_release (hQ () () s' Z' C4 k S' trivial (X1.trans X))
inductive ó (C0:ZJ) (w:ZQ) (A:ZI) (B:D3) (C1:Env) (pos:Pos) (name:Str) (C f:b0) (args:List Expr) (R:AV->St->Prop):AV->St->Prop
 |mk {d:b0} {m:List (Str×AV)} {st:St} (hm:(d,bh m)∈st.led) (hl:m.lookup name=none) (h:CA C0 w A B C1 pos (.ref f) [.inst C d] args st R):ó C0 w A B C1 pos name C f args R (.inst C d) st
theorem ik{o:Expr}{O0:Pos}{args:List Expr}{f:b0}
  (M9:attributeBase o name C1 (k7 o C1)=k7 o C1)
  (u_:((u5 pos (f0 args C1)).all (fun x => !x.1)&&(backToKw pos (keywordEach [] C1)).all (fun x=>x.1.isSome)
   && decide (args.length+([]:List Keyword).length+(if ([]:List Keyword).isEmpty then 0 else 1)<30))=true)
  (M6:(O0.endLine==pos.line)=true) (ok:U1 K C) (hf:findIn K (.ref C) name=some (some (.ref f))) (ht:typeIn K (.ref f)=some (.type "function"))
  (h:T C0 w A (am K) C1 Val (k7 o C1) st (ó C0 w A (am K) C1 pos name C f args R)) :
  T C0 w A (am K) C1 Val (k7 (.Call (.Attribute o name O0) args [] pos) C1) st R:=fun s Z S Q E hQ=>by
 rw[arm_eval_Call,M9];refine Zq (h s Z S _ _ fun v x s₁ Z1 E5 k₁ S1 V1 X1=>Zq (a9 ?_));revert S1 V1 X1;refine k₁.rec fun{d m E5} hm hl hc S1 V1 X1=>?_;have V2:=V1;refine ae (yB V1) fun a qv e=>?_;subst qv;refine ae (S1.own _ hm) fun od U5 h_=>ae h_ fun g h_ hr=>lA h_ fun es ep K6 Y8 R' hg=>?_;dsimp only at U5;have I:=yz S1.frozen e U5;have hr1:=hr name;rw[hl] at hr1;have W6:g name=none:=by cases q:g name with |none=>rfl |some u=>rw[q] at hr1;cases hr1
 have ε:methodCallForm (args.length+([]:List Keyword).length) (u5 pos (f0 args C1)) (backToKw pos (keywordEach [] C1))=true:=u_;have Þ:methodCallPos true o C1 O0 pos=o4 pos:=by unfold methodCallPos;simp[M6]
 unfold methodCall;rw[ε];refine Zq (ZF (method_fn (K:=K) (dg S1.base S1.frozen) I ok.ga ok.gt hf ht (by unfold shadowIn;dsimp only;rw[EI K6 Y8,hg,W6];rfl) ?_));refine Zq (f9 Þ ?_);exact hc s₁ Z1 (.ref f) [.ref a] (.ref f) (.cons V2 .nil) S1 _ _ fun v y s' Z' C4 k S' V X=>hQ v y s' Z' C4 k S' V (X1.trans X)
theorem WT{fI:b0}{led:aa}{R:AV->aa->Prop}(hA:D6 A (k+1))(Δ:makesIn K C=true)(hi:findIn K (.ref C) "__init__" = some (some (.ref fI)))(hf:typeIn K (.ref fI)=some (.type "function"))
  (h:∀d A',D6 A' k->d∉keys led->TC C0 w A' (am K) (.ref fI) (.inst C d::args) kw ((d,bh [])::led) fun v led'=>v=.none/\R (.inst C d) led') :
  TC C0 w A (am K) (.ref C) args kw led R:=fun s Z fx xs ks S s_ hx p_ Q hQ=>by
 cases s_
 obtain⟨hp,g,dr,t,os⟩:=s;have X:=dg S.base S.frozen;refine make_core (init:=.ref fI) (makes_of X Δ) (looks_findIn X hi) (fun self=>bind_fn X self hf) (.inl rfl) ?_;have P1:=S.push (o:=emptyDict) (ao:=bh []) rfl t ⟨_,ZB _ rfl,fun O=>none,⟨#[],0,rfl,fun O h=>by simp at h,by unfold UniqKeys;simp,fun O=>rfl⟩,fun O => .none⟩;have P2:=P1.1.pushZ (o:=instObj C hp.objs.size) rfl t;have hsz:(hp.push emptyDict).objs.size=hp.objs.size+1:=z5 ..;have hV:Val (D3.add Z (hp.push emptyDict).objs.size (instObj C hp.objs.size)) (.inst C hp.objs.size) (.ref (hp.objs.size+1)):=by rw[hsz];exact .inst (D3.add_at ..)
 have Ι:=P1.2.trans P2.2;refine h hp.objs.size (A.under (.builtin "type.__call__" ⟨.ref C::xs,ks⟩)) ⟨hA.h,?_,?_⟩ S.lfresh _ _ (.ref fI) _ ks P2.1 (.ref fI) (.cons hV (hx.mono Ι.le)) (p_.mono Ι.le) _ fun v x s' Z' led' k S' V X'=>?_
 ·have e:(Code.builtin "type.__call__" ⟨.ref C::xs,ks⟩).weight=1:=@_
  have:=hA.d;show A.depth+(Code.builtin "type.__call__" ⟨.ref C::xs,ks⟩).weight+k<=_;rw[e];omega
 ·have e:(Code.builtin "type.__call__" ⟨.ref C::xs,ks⟩).cUnits=1:=@_
  have:=hA.u;show A.units+(Code.builtin "type.__call__" ⟨.ref C::xs,ks⟩).cUnits+k<=_;rw[e];omega
 ·refine aA k ?_;clear k;intro O1 k;subst O1
  (have e_:=V.inv;subst e_)
  exact⟨rfl,hQ _ _ s' Z' led' k S' (hV.mono X'.le) (Ι.trans X')⟩
end
section
variable{K:Type}[DecidableEq K]
inductive KV (Z:D3):List (K×AV)->List (K×Value)->Prop
 |nil:KV Z [] []
 |cons {k:K} {v:AV} {x:Value} {l:List (K×AV)} {r:List (K×Value)}:Val Z v x->KV Z l r->KV Z ((k,v)::l) ((k,x)::r)
omit [DecidableEq K] in
theorem KV.mono{Z':D3}(k:D3.le Z Z'){l:List (K×AV)}{r:List (K×Value)}(h:KV Z l r):KV Z' l r:=by
 induction h with
 |nil=>exact .nil
 |cons v _ ih=>exact .cons (v.mono k) ih
omit [DecidableEq K] in
theorem KV.length{l:List (K×AV)}{r:List (K×Value)}(h:KV Z l r):r.length=l.length:=by
 induction h with
 |nil=>rfl
 |cons v _ ih=>rw[Zz,Zz,ih]
noncomputable def aP(m:List (K×AV))(k:K):Option AV:=(m.find? fun kv=>kv.1=k).map (·.2)
noncomputable def ek(m:List (K×AV))(k:K)(v:AV):List (K×AV) :=
 if m.any (fun kv=>kv.1=k) then m.map (fun kv=>if kv.1=k then (kv.1,v) else kv) else m++[(k,v)]
theorem KV.find{l:List (K×AV)}{r:List (K×Value)}(h:KV Z l r)(k:K):(aP l k=none/\valueAt r k=none)∨∃v x,aP l k=some v/\valueAt r k=some x/\Val Z v x:=by
 induction h with
 |nil=>exact .inl ⟨rfl,rfl⟩
 | @cons k' v x l r hv _ ih =>
  unfold aP valueAt at *;rw[o9,o9];by_cases e:k'=k
  ·simp only[e,decide_true];exact .inr ⟨v,x,rfl,rfl,hv⟩
  ·simp only[e,decide_false];exact ih
theorem KV.any{l:List (K×AV)}{r:List (K×Value)}(h:KV Z l r)(k:K):(r.any fun kv=>kv.1=k)=(l.any fun kv=>kv.1=k):=by
 induction h with
 |nil=>rfl
 |cons v _ ih=>rw[List.any_cons,List.any_cons,ih]
theorem KV.stored{l:List (K×AV)}{r:List (K×Value)}(h:KV Z l r){k:K}{x:Value}(hv:Val Z v x):KV Z (ek l k v) (PySem.stored r k x):=by
 unfold ek PySem.stored;rw[h.any k];generalize (l.any fun kv=>kv.1=k)=b;cases b with
 |true =>
  rw[if_pos rfl,if_pos rfl];induction h with
  |nil=>exact .nil
  | @cons k' v' x' l r Q_ _ ih =>
   rw[ZD,ZD];dsimp only;by_cases e:k'=k
   ·rw[if_pos e,if_pos e];exact .cons hv ih
   ·rw[if_neg e,if_neg e];exact .cons Q_ ih
 |false =>
  rw[if_neg d3,if_neg d3];induction h with
  |nil=>exact .cons hv .nil
  |cons Q_ _ ih=>exact .cons Q_ ih
theorem JW(l:List (K×AV))(k:K)(v:AV):(ek l k v).length<=l.length+1:=by
 unfold ek;split
 ·rw[Zu];omega
 ·rw[ZA];exact ZZ _
def gw(knd:B8 C0 w K)(m:List (K×AV))(Z:D3)(o:Obj):Prop:=∃es ep kvs,o.ExactDict/\o.data=.dict es ep/\KeysOf knd es/\Pairs knd es.toList kvs/\(kvs.map (·.1)).Nodup/\KV Z m kvs
theorem oy{knd:B8 C0 w K}{m:List (K×AV)}(Z Z':D3)(o:Obj)(k:D3.le Z Z')(x:gw knd m Z o):gw knd m Z' o :=
 x.imp fun O h=>h.imp fun O h=>h.imp fun O h=>⟨h.1,h.2.1,h.2.2.1,h.2.2.2.1,h.2.2.2.2.1,h.2.2.2.2.2.mono k⟩
noncomputable abbrev au(knd:B8 C0 w K)(m:List (K×AV)):D9:=.obj (gw knd m) oy
theorem li{knd:B8 C0 w K}{m:List (K×AV)}{led:aa}(S:C7 B s Z led)(h:(d,au knd m)∈led):∃kvs,s.heap.DictOf knd d kvs/\KV Z m kvs:=by
 refine ae (S.own _ h) fun o ho h_=>eh h_ fun es ep kvs a b c e f g=>?_;exact bB kvs ⟨o,es,ep,ho,a,b,c,e,f⟩ g
theorem ib{knd:B8 C0 w K}{m:List (K×AV)}{kvs:List (K×Value)}(h:s.heap.DictOf knd d kvs)(g:KV Z m kvs):Holds Z s d (au knd m):=by
 refine eh h fun o es ep ho a b c e f=>?_;clear h;exact⟨o,ho,es,ep,kvs,a,b,c,e,f,g⟩
theorem ym(i:Int):∀Z x,Val Z (.int i) x->(y3 C0 w).is i x=true:=fun Z x V=>by
 cases V
 show (decide _)=true;simp
theorem sd(i:Str):∀Z x,Val Z (.str i) x->(a8 C0 w).is i x=true:=fun Z x V=>by
 cases V
 simp[a8,Value.isStrOf]
theorem XZ{knd:B8 C0 w K}{m:List (K×AV)}{dflt:AV}{k:K}(L4:(d==p8)=false)(hk:∀Z x,Val Z v x->knd.is k x=true)(hm:(d,au knd m)∈st.led)
  (h:R ((aP m k).getD dflt) st):FC C0 w A B C1 (.blt "dict.get") [.ref d,v,dflt] [] st R:=FC.b fun s Z S Q E hQ=>Vals.un <| Val.eRef <| Vals.un <| fun xk h2=>Vals.un <| fun xd h3=>Vals.un0 <| by
 refine ae (li S.toC7 hm) fun kvs hD Z9=>?_;refine call_meetsIn F.slot_dict_get hD.typeIs F.entry_dict_get (F.args_dict_get_3 _ _ _) (meets_dict_get_default knd d (hk Z xk h2) L4 xd) ⟨_,hD.mapOf,?_⟩;refine hQ _ _ _ Z st h (S.toks _) ?_ (.toks _);rcases Z9.find k with ⟨e1,e2⟩ |⟨u,y,e1,e2,e3⟩
 ·exact(Eq.symm (e1))▸(Eq.symm (e2))▸h3
 ·exact(Eq.symm (e1))▸(Eq.symm (e2))▸e3
end
section
variable{K:Type}[DecidableEq K]
def F3(C0:ZJ)(w:ZQ)(A:ZI)(B:D3)(C1:Env)(f:Value->Value->Value->Sem Unit)(v1 v2 v3:AV)(st:St)(R:Unit->St->Prop):Prop :=
 ∀(s:Zx) (Z:D3) (G2 x2 x3:Value),Val Z v1 G2->Val Z v2 x2->Val Z v3 x3->D7 B C1 s Z st->∀(Q:Unit->Zx->Prop) (E:Value->Zx->Prop),
  HQ B C1 aS st R s Z Q->ZS (ZP C0 w) A (f G2 x2 x3) Q E s
theorem zY{o i:Expr}{R:Unit->St->Prop}
  (h:T C0 w A B C1 Val (k7 o C1) st fun u E5=>T C0 w A B C1 Val (k7 i C1) E5 fun j F9=>F3 C0 w A B C1 setItem u j v F9 R):F1 C0 w A B C1 aS (m0 (.Subscript o i pos) C1) v st R:=fun s Z x V S Q E hQ=>by
 rw[arm_assign_Subscript];refine Zq (ZF (h s Z S _ _ fun u y s₁ Z1 E5 k₁ S1 V1 X1=>Zq (ZF (k₁ s₁ Z1 S1 _ _ fun j z s2 Z2 F9 k2 S2 V2 X2=>Zq (a9 (Zq (ZF
  (k2 s2 Z2 y z x (V1.mono X2.le) V2 (V.mono (X1.le.trans X2.le)) S2 _ _ fun O O s' Z' C4 k S' O X=>?_))))))))
 exact PySem.wpAny_release (hQ () () s' Z' C4 k S' trivial ((X1.trans X2).trans X))
theorem Yo{knd:B8 C0 w K}{m m':List (K×AV)}{u:AV}{k:K}{led':aa}{R:Unit->St->Prop}(hk:∀Z x,Val Z v x->knd.is k x=true)(hsz:m.length<=c9)(hm:ek m k u=m')
  (U:Upd d (au knd m) (au knd m') st.led led') (h:R () ⟨st.loc,led'⟩):F3 C0 w A B C1 setItem (.ref d) v u st R:=fun s Z G2 x2 x3 V1 V2 V3 S Q E hQ=>by
 (have e_:=V1.inv;subst e_)
 subst hm;refine ae (li S.toC7 U.mem) fun kvs hD Z9=>?_;refine wpAny_setItem_pairs (hk Z x2 V2) hD (fun h' Ĭ f_=>?_) (by rw[Z9.length];exact hsz);have P:=S.toC7.upd U (h':=h') (tk:=s.toks+1) (fun b ob hb e=>f_.extBut b ob hb e) rfl rfl (ib Ĭ (Z9.stored V3));exact hQ () () _ Z _ h (S.after P.1 P.2) trivial P.2.toF
theorem zU{knd:B8 C0 w K}{m:List (K×AV)}{u:AV}{k:K}(hk:∀Z x,Val Z v x->knd.is k x=true)(hm:(d,au knd m)∈st.led)(hu:aP m k=some u)
  (h:R u st):F2 C0 w A B C1 Val getItem (.ref d) v st R:=F2.of fun s Z S Q E hQ=>Val.eRef <| fun x2 V2=>by
 refine ae (li S.toC7 hm) fun kvs hD Z9=>?_;rcases Z9.find k with ⟨e1,e2⟩ |⟨u',y,e1,e2,e3⟩
 ·rw[hu] at e1;cases e1
 ·rw[hu] at e1;cases e1
  exact wpAny_getItem_of (hk Z x2 V2) hD.mapOf e2 (hQ _ _ _ Z st h (S.toks _) e3 (.toks _))
theorem IJ{knd:B8 C0 w K}{kvs:List (K×Value)}{k:K}{key dflt:Value}(M7:knd.is k key=true)(hm:s.heap.DictOf knd d kvs)
  (U4:∀v,valueAt kvs k=some v->Q v {s with toks:=s.toks+1})
  (P9:valueAt kvs k=none->∀h',h'.DictOf knd d (kvs++[(k,dflt)])->a7 d s.heap h'->Q dflt {s with heap:=h',toks:=s.toks+1})
  (hsz:kvs.length<=c9):ZS (ZP C0 w) A (dictSetDefault d key dflt) Q E s:=by
 have hmap:=hm.mapOf;refine eh hm fun o es ep ho hc hd hk hp hn=>?_;clear hm;have hes:es.size<=c9:=by
  have e1:=hp.length;have e2:es.toList.length=es.size:=by simp
  omega
 have è:(es.findIdx? fun e=>knd.is k e.key)=kvs.findIdx? fun kv=>decide (kv.1=k):=by
  rw[← hp.findIdx k];obtain⟨l⟩:=es;simp
 have hf:findBy knd.is es k=valueAt kvs k:=by
  rw[← hp.find k];unfold findBy;obtain⟨l⟩:=es;simp
 unfold dictSetDefault;try with_reducible refine ZF ?_
 refine Zq (knd.pyHash M7 ?_);refine Zq (wpAny_dictFind_of (s:={ s with toks:=s.toks+1}) M7 ho hd hk ?_);cases hi:es.findIdx? fun e=>knd.is k e.key with
 |some i =>
  have ő:valueAt kvs k=(es[i]?).map (·.val):=by rw[← hf,findBy_of_findIdx?,hi]
  refine Zq (wpAny_dictEntries (s:={ s with toks:=s.toks+1}) ho hd ?_);cases he:es[i]? with
  |none =>
   exfalso
   have:=Array.findIdx?_eq_some_iff_findIdx_eq.mp hi;have G8:i<es.size:=this.1;rw[m7 G8] at he;exact nomatch he
  |some e =>
   rw[he] at ő;exact Zq (l6 (Zs (U4 e.val ő)))
 |none =>
  have ő:valueAt kvs k=none:=by rw[← hf,findBy_of_findIdx?,hi]
  have hnot:k∉kvs.map (·.1):=not_mem_of_findIdx_none (è▸hi);refine Zq (l6 (Zq (wpAny_updateDictKeys (hz:=hes) (s:={ s with toks:=s.toks+1}) ho hd (Zs (P9 ő _ ⟨_,_,ep+1,c6 _ ho (Obj.isFreed_of_dict (Obj.data_mapDictKeys hd _)),
   hc.mapDictKeys _,Obj.data_mapDictKeys hd _,hk.push M7 _,?_,?_⟩ (c0 ..))))))
  ·have:=hp.append M7 (knd.hash k) dflt;obtain⟨l⟩:=es;simpa using this
  ·rw[ZT,List.nodup_append];refine⟨hn,by simp,?_⟩;intro a ha b hb;rw[ZD,y2,ZK] at hb;subst hb;exact fun e=>hnot (e▸ha)
end
section
variable{K:Type}[DecidableEq K]
theorem Pu(knd:B8 C0 w K){k:K}{key:Value}(M7:knd.is k key=true)(hd:(d==p8)=false)(dflt:Value) :
  MeetsIn C0 w (Builtin.«dict.setdefault» ⟨[.ref d,key,dflt],[]⟩) (fun O R s=>∃kvs,s.heap.DictOf knd d kvs/\kvs.length<=c9 /\
   (∀v,valueAt kvs k=some v->R (.ok (.ret v)) {s with toks:=s.toks+1}) /\
   (valueAt kvs k=none->∀h',h'.DictOf knd d (kvs++[(k,dflt)])->a7 d s.heap h'->R (.ok (.ret dflt)) {s with heap:=h',toks:=s.toks+1})) :=
 .of_wp fun A R s h_=>jy h_ fun kvs hm hz h1 h2=>by
  unfold Builtin.«dict.setdefault»;refine Zq ?_;unfold Builtin.Dict.keyAndDefault;refine Zq (wpAny_notOrdered_dict hm.typeIs ?_);show ZS _ _ (o4 (d,key,some dflt)) _ _ s;refine Zs ?_;show ZS _ _ (if (d==p8)=true then _ else (dictSetDefault d key dflt>>=_)) _ _ s;refine cS (by rw[hd];exact d3) ?_;exact Zq (IJ M7 hm (fun v hv=>Zs ⟨v,rfl,h1 v hv⟩) (fun hn h' hm' f_=>Zs ⟨dflt,rfl,h2 hn h' hm' f_⟩) hz)
omit [DecidableEq K] in
theorem KV.snoc{l:List (K×AV)}{r:List (K×Value)}(h:KV Z l r){k:K}{x:Value}(hv:Val Z v x):KV Z (l++[(k,v)]) (r++[(k,x)]):=by
 induction h with
 |nil=>exact .cons hv .nil
 |cons Q_ _ ih=>exact .cons Q_ ih
theorem XJ{knd:B8 C0 w K}{m:List (K×AV)}{u:AV}{k:K}{led':aa}(L4:(d==p8)=false)(hk:∀Z x,Val Z v x->knd.is k x=true)(hsz:m.length<=c9)
  (U:Upd d (au knd m) (au knd (m++[(k,u)])) st.led led') (h1:∀x,aP m k=some x->R x st) (h2:aP m k=none->R u ⟨st.loc,led'⟩) :
  FC C0 w A B C1 (.blt "dict.setdefault") [.ref d,v,u] [] st R:=FC.b fun s Z S Q E hQ=>Vals.un <| Val.eRef <| Vals.un <| fun xk g2=>Vals.un <| fun xd g3=>Vals.un0 <| by
 refine ae (li S.toC7 U.mem) fun kvs hD Z9=>?_;refine call_meetsIn F.slot_dict_setdefault hD.typeIs F.entry_dict_setdefault (F.args_dict_setdefault_3 _ _ _) (Pu knd (hk Z xk g2) L4 xd) ⟨kvs,hD,by rw[Z9.length];exact hsz,fun y hy=>?_,fun hn h' Ĭ f_=>?_⟩
 ·rcases Z9.find k with ⟨e1,e2⟩ |⟨u',y',e1,e2,e3⟩
  ·rw[hy] at e2;cases e2
  ·rw[hy] at e2;cases e2
   exact hQ _ _ _ Z st (h1 _ e1) (S.toks _) e3 (.toks _)
 ·rcases Z9.find k with ⟨e1,e2⟩ |⟨u',y',e1,e2,e3⟩
  ·have P:=S.toC7.upd U (h':=h') (tk:=s.toks+1) (fun b ob hb e=>f_.extBut b ob hb e) rfl rfl (ib Ĭ (Z9.snoc g3));exact hQ _ _ _ Z _ (h2 e1) (S.after P.1 P.2) g3 P.2.toF
  ·rw[hn] at e2;cases e2
end
section
variable{N:aa}
noncomputable def sC:Nat->List AV->List AV
 |_,[]=>[]
 |i,x::xs => .tup [.int i,x]::sC (i+1) xs
def yZ(it:b0)(i:Nat)(_:D3)(o:Obj):Prop:=∃ô,o={ cls:=.type "enumerate",dict:=none,data:=.fields #[.none,.bool false,.ref it,k5 i,.none,ô],slots:=#[]}
def jo(xs:List AV)(i:Nat)(Z:D3)(o:Obj):Prop:=∃l items n,o.cls=.type "list_iterator" /\ o.data=.fields #[.ref l,.int i 0]/\Z l=some {cls:=.type "list",data:=.seq (items:List Value).toArray n}/\Vals Z xs items
theorem UC(Z Z':D3)(o:Obj)(k:D3.le Z Z')(x:yZ it i Z o):yZ it i Z' o:=x
theorem oq(Z Z':D3)(o:Obj)(k:D3.le Z Z')(x:jo xs i Z o):jo xs i Z' o:=x.imp fun O h=>h.imp fun O h=>h.imp fun O h=>⟨h.1,h.2.1,k _ _ h.2.2.1,h.2.2.2.mono k⟩
noncomputable abbrev fk(e it:b0)(xs:List AV)(i:Nat):aa:=[(e,.obj (yZ it i) UC),(it,.obj (jo xs i) oq)]
theorem D5.enum{x1:Nat}{Ö:Pos}{e:b0}(k:Nat):∀(d i:Nat),i+d=xs.length->D5 C0 w B N k (.Tuple elts x1 Ö) e (sC i (xs.drop i)) (fk e it xs i):=by
 intro d;induction d with
 |zero =>
  intro i hi;have hi:i=xs.length:=(Nat.add_zero i).symm.trans hi;subst hi;rw[List.drop_length];intro A hA led hN s Z S Q E hQ;refine ae (S.own _ (Zr ..)) fun oe ã h_=>aw h_ fun ô e_=>?_;subst e_;refine ae (S.own _ (Zt _ (Zr ..))) fun oi T8 h_=>jw h_ fun l items n hc hd hz hv=>?_;refine wpAny_pyNext_enum_end hA.h ã ⟨oi,T8,hc,hd⟩ ⟨_,S.frozen _ _ hz,rfl,n,rfl⟩ ((List.getElem?_toArray ..).trans (n8 (Nat.le_of_eq hv.length))) fun h' hx=>?_;have P:=C7.stepE (gl:=fk e it xs xs.length) (s':={ s with heap:=h' }) S (fun b o hb q=>hx b o (fun y=>hb (y▸Zt _ (Zr ..))) q) rfl rfl;exact hQ _ Z P.1 P.2
 |succ d ih =>
  intro i hi;have G8:i<xs.length:=hi▸Nat.lt_add_of_pos_right (Nat.succ_pos d);rw[m6 G8];intro A hA led hN s Z S Q E hQ;refine ae (S.own _ (Zr ..)) fun oe ã h_=>aw h_ fun ô e_=>?_;subst e_;refine ae (S.own _ (Zt _ (Zr ..))) fun oi T8 h_=>jw h_ fun l items n hc hd hz hv=>?_;have hei:e≠it:=fun q=>(ZL.mp S.nodup).1 (q▸Zr ..);refine ae (hv.get (ZU G8)) fun u hu hV=>wpAny_pyNext_enum_item ã ⟨oi,T8,hc,hd⟩ ⟨_,S.frozen _ _ hz,rfl,n,rfl⟩ (x:=u) ((List.getElem?_toArray ..).trans hu) hei fun h' ho N8 hT hsz hk=>?_;refine wpAny_letOwnedTupleGo_enum ho fun h'' he'' Ü=>?_;refine aU N8 fun Å â í Ε=>?_;have hTe:s.heap.objs.size≠e:=Nat.ne_of_gt (e8 ã);refine di (C7.stepN (gl:=fk e it xs i) (gl':=fk e it xs (i+1)) (s':={ s with heap:=h'',toks:=s.toks+1}) S (fun b o hb q=>(Ü.2 b fun y=>hb (y▸Zr ..)).trans (hk b o (fun y=>hb (y▸Zr ..)) (fun y=>hb (y▸Zt _ (Zr ..))) q))
   (gm s) ((Ü.2 _ hTe).trans hT) (fun le p hp=>(Zy.mp hp).elim (fun y=>y▸⟨_,he'',_,rfl⟩) fun y=>ZK.mp y▸⟨Å,(Ü.2 it hei.symm).trans â,l,items,n,í,Ε,le _ _ hz,hv.mono le⟩) rfl rfl rfl rfl) fun le P1 P2=>?_
  exact hQ _ _ _ (fk e it xs (i+1)) P1 (.tup (items:=[.int i s.toks,u]) (D3.add_at ..) (.cons (.int _ _) (.cons (hV.mono le) .nil))) P2 (ih (i+1) ((Nat.succ_add_eq_add_succ i d).trans hi))
end
section
variable{N:aa}
theorem XO{a b:Int}(h:R (.rng a b) st):FC C0 w A B C1 (.typ "range") [.int a,.int b] [] st R:=FC.t fun s Z S Q E hQ=>Vals.un <| Val.eInt fun t1=>Vals.un <| Val.eInt fun t2=>Vals.un0 <| by
 refine call_range_2 ?_;have P:=S.toC7.pushZ (o:={ cls:=.type "range",data:=.fields #[.int a t1,.int b t2,.int 1 s.toks]}) rfl (s.toks+1);exact hQ _ _ _ _ _ h (S.after P.1 P.2) (.rng (D3.add_at ..)) P.2.toF
theorem XQ{b:Int}(h:R (.rng 0 b) st):FC C0 w A B C1 (.typ "range") [.int b] [] st R:=FC.t fun s Z S Q E hQ=>Vals.un <| Val.eInt fun t1=>Vals.un0 <| by
 refine call_range_1 ?_;have P:=S.toC7.pushZ (o:={ cls:=.type "range",data:=.fields #[.int 0 s.toks,.int b t1,.int 1 (s.toks+1)]}) rfl (s.toks+1+1);exact hQ _ _ _ _ _ h (S.after P.1 P.2) (.rng (D3.add_at ..)) P.2.toF
noncomputable def eP(a b:Int):List AV:=(List.range (b-a).toNat).map fun(i:Nat) => .int (a+(i:Int))
theorem QD{I:b0}{x l c:Int}{v:Value}{Q:Unit->Zx->Prop}(ho:IsRangeIter s.heap I x l c)(hQ:Q () s) :
  ZS (ZP C0 w) A (g5 C3 (.ref I) v) Q E s :=
 yj ho rfl rfl (.inr (.inr rfl)) hQ
theorem Il{a b:Int}(ha : -(2^62)<=a)(ha':a<2^62)(hb : -(2^62)<=b)(ŕ:b<2^62)
  (h:∀it gl,D5 C0 w B N k C3 it (eP a b) gl->R (.ref it) ⟨st.loc,gl++st.led⟩):F1 C0 w A B C1 Val pyIter (.rng a b) st R:=fun s Z x V S Q E hQ=>by
 refine Zi (RO V) fun r t u v qv e=>?_;subst qv;refine wpAny_pyIter_range (S.frozen _ _ e) (small_one ha ha' hb ŕ) ?_;have E3:(eP a b).length=(b-a).toNat:=by unfold eP;rw[Zu,List.length_range]
 have hsz:Builtin.Range.rangeSize a b 1=((b-a).toNat:Int):=by
  rw[rangeSize_one];exact if h:a<b then (if_pos h).trans (Int.toNat_of_nonneg (Int.sub_nonneg_of_le (Int.le_of_lt h))).symm else (if_neg h).trans (congrArg Int.ofNat (Int.toNat_of_nonpos (Int.sub_nonpos_of_le (Int.not_lt.mp h)))).symm
 rw[hsz];have P:=S.toC7.push (o:={ cls:=.type "range_iterator",data:=.fields #[k5 a,k5 ((b-a).toNat:Int),k5 1]})
  (ao:=gh s.heap.objs.size [s.heap.objs.size] (fun i v=>∃t,v=.int (a+i * 1) t) (eP a b) (fun i h=>IsRangeIter h s.heap.objs.size (a+(i:Nat) * 1) (((b-a).toNat:Int)-(i:Nat)) 1) 0) rfl s.toks
  ⟨_,ZB _ rfl,fun c hc => .inl (by simpa using hc),fun i y v h1 h2=>by
   refine aw h2 fun t O2=>?_;clear h2;subst O2;unfold eP at h1;rw[d4] at h1;refine ae (k0.mp h1) fun j hj O3=>?_;subst O3;have X_:j=i:=by
    refine aw (w6.mp hj) fun h1 h2=>?_;rw[← h2,List.getElem_range]
   rw[X_,Int.mul_one];exact .int _ _,fun h e1 e2=>by
   show h.get? s.heap.objs.size=_;rw[e1];simp⟩
 refine hQ _ _ _ Z _ (h s.heap.objs.size _ (D5.walks (C0:=C0) (w:=w) (B:=B) (C3:=C3) (xs:=eP a b) (fun A hA=>by exact(Eq.symm (E3))▸Walks.range hA s.heap.objs.size a 1 (b-a).toNat) (fun A i s v Q E J8 hq=>QD J8 hq) (fun i h J8=>⟨_,J8⟩) k (eP a b).length 0 ⋯)) (S.after P.1 P.2) (.ref _) P.2.toF
end
theorem C7.freeze{led:aa}(S:C7 B s Z ((a,.list xs)::led)):∃Z',C7 B s Z' led/\Val Z' (.lst xs) (.ref a)/\D3.le Z Z'/\E7 (aj ((a,.list xs)::led)) s Z s Z' (aj led):=by
 refine bI (S.own _ (Zr ..)) fun items n g v=>?_;dsimp only at g;have hZ:Z a=none:=S.apart _ (Zr ..);have le:=D3.le_add (o:={ cls:=.type "list",data:=.seq items n}) hZ;have S1:=S.drop1;have N4:a∉keys led:=(ZL.mp S.nodup).1;refine⟨Z.add a {cls:=.type "list",data:=.seq items n},⟨S.base.trans le,fun b o e=>?_,S1.nodup,fun p hp=>?_,fun p hp=>(S1.own p hp).mono le (fun O e=>e) (fun O O O e=>e),S1.gnodup,S1.bare⟩,?_,le,
  ⟨le,fun O O e O=>e,fun b hb => .inl (Zt _ hb),fun b o e=>?_,rfl,fun O O e O=>e,fun O h => .inl h⟩⟩
 ·unfold D3.add at e;by_cases q:b=a
  ·rw[if_pos q] at e;cases e;exact(Eq.symm (q))▸g
  ·rw[if_neg q] at e;exact S.frozen b o e
 ·have hn:p.1≠a:=fun q=>N4 (q▸ZO hp);unfold D3.add;exact(Eq.symm (if_neg hn))▸S1.apart p hp
 ·obtain⟨l⟩:=items;exact .lst (D3.add_at ..) (v.mono le)
 ·unfold D3.add at e;by_cases q:b=a
  ·exact .inr (.inl (q▸Zr ..))
  ·rw[if_neg q] at e;exact .inl e
inductive H2 (a:b0) (xs:List AV):List (Str×AV)->List (Str×AV)->Prop
 |nil:H2 a xs [] []
 |cast {x:Str} {l l':List (Str×AV)}:H2 a xs l l'->H2 a xs ((x,.ref a)::l) ((x,.lst xs)::l')
 |keep {x:Str} {v:AV} {l l':List (Str×AV)}:H2 a xs l l'->H2 a xs ((x,v)::l) ((x,v)::l')
theorem H2.look{l':List (Str×AV)}(h:H2 a xs l l')(y:Str):l'.lookup y=l.lookup y∨(l.lookup y=some (.ref a)/\l'.lookup y=some (.lst xs)):=by
 induction h with
 |nil=>exact .inl rfl
 |keep _ ih =>
  rw[ZN,ZN];split
  ·exact .inl rfl
  ·exact ih
 |cast _ ih =>
  rw[ZN,ZN];split
  ·exact .inr ⟨rfl,rfl⟩
  ·exact ih
theorem D7.freeze{led:aa}(S:D7 B C1 s Z ⟨loc,(a,.list xs)::led⟩)(hr:H2 a xs loc D8) :
  ∃Z',D7 B C1 s Z' ⟨D8,led⟩/\Val Z' (.lst xs) (.ref a)/\E7 (aC C1 ⟨loc,(a,.list xs)::led⟩) s Z s Z' (aC C1 ⟨D8,led⟩):=by
 refine jy S.toC7.freeze fun Z' S' V le X=>?_;have SF:=S.after S' X;refine eF Z' ⟨S',SF.locZ,SF.locL,?_,fun x v e=>?_,S.fn⟩ V (X.toF (st:=⟨loc,(a,.list xs)::led⟩))
 ·refine ae SF.loc fun f hn hv=>?_;refine bB f hn (fun y=>?_);rcases hr.look y with h |⟨h1,h2⟩
  ·show E9 Z' (D8.lookup y) (f y);exact(Eq.symm (h))▸hv y
  ·show E9 Z' (D8.lookup y) (f y);have hy:=hv y;dsimp only at hy;rw[h1] at hy;rw[h2];revert hy;generalize f y=q;intro hy;cases hy with
   |some hy=>cases hy;exact .some V
 ·rcases hr.look x with h |⟨h1,h2⟩
  ·exact S.kinds x v (by exact(h)▸e)
  ·exact S.kinds x _ h1
theorem T.freeze{rel:D3->α->β->Prop}{t:Sem β}{led:aa}{K:α->St->Prop}(hr:H2 a xs loc D8)(h:T C0 w A B C1 rel t ⟨D8,led⟩ K) :
  T C0 w A B C1 rel t ⟨loc,(a,.list xs)::led⟩ K:=fun s Z S Q E hQ=>by
 refine aU (S.freeze hr) fun Z' S' V X=>?_;exact h s Z' S' Q E fun v x s' J9 C4 k J1 V' X'=>hQ v x s' J9 C4 k J1 V' (X.trans X')
section
variable{N:aa}
theorem Yh(h:∀e it,R (.ref e) ⟨st.loc,fk e it xs 0++st.led⟩):FC C0 w A B C1 (.typ "enumerate") [.lst xs] [] st R:=FC.t fun s Z S Q E hQ=>Vals.un <| fun O h1=>Vals.un0 <| by
 refine bv (ex h1) fun a items n qv e hv=>?_;subst qv;refine call_enumerate_1 (S.frozen _ _ e) fun h' he hit hsz hk=>?_;refine aU hit fun oi T8 hc hd=>?_;clear hit;have L:=S.toC7;have fr1:∀b o,s.heap.get? b=some o->b≠s.heap.objs.size/\b≠s.heap.objs.size+1:=fun b o q=>by
  have:=e8 q;exact⟨j9 this,j9 (Nat.lt_succ_of_lt this)⟩
 have hnl:∀b∈keys st.led,b≠s.heap.objs.size/\b≠s.heap.objs.size+1:=fun b hb=>by
  refine ae (ZV.mp hb) fun p hp O3=>?_;subst O3;refine aw ((L.own p hp).live) fun ob g=>?_;exact fr1 _ _ g
 have hz:∀b o,Z b=some o->b≠s.heap.objs.size/\b≠s.heap.objs.size+1:=fun b o q=>fr1 b o (L.frozen _ _ q);have C_:∀b,(b=s.heap.objs.size∨b=s.heap.objs.size+1)->Z b=none:=fun b hb=>by
  cases q:Z b with
  |none=>rfl
  |some o=>refine aA (hz b o q) fun q1 q2=>?_;rcases hb with hb |hb <;> contradiction
 have π:∀b,(b=s.heap.objs.size∨b=s.heap.objs.size+1)->s.heap.get? b=none:=fun b hb=>by
  cases q:s.heap.get? b with
  |none=>rfl
  |some o=>refine aA (fr1 b o q) fun q1 q2=>?_;rcases hb with hb |hb <;> contradiction
 have SL:C7 B {s with heap:=h' } Z (fk (s.heap.objs.size+1) s.heap.objs.size xs 0++st.led):=by
  refine⟨L.base,fun b o q=>hk b o (L.frozen b o q),?_,fun p hp=>?_,fun p hp=>?_,L.gnodup,L.bare⟩
  ·refine ZL.mpr ⟨fun q=>?_,ZL.mpr ⟨fun q=>(hnl _ q).1 rfl,L.nodup⟩⟩;rcases Zy.mp q with q |q
   ·exact absurd q (Nat.ne_of_gt (t9 _))
   ·exact(hnl _ q).2 rfl
  ·rcases Zy.mp hp with rfl |hp
   ·exact C_ _ (.inr rfl)
   ·rcases Zy.mp hp with rfl |hp
    ·exact C_ _ (.inl rfl)
    ·exact L.apart p hp
  ·rcases Zy.mp hp with rfl |hp
   ·exact⟨_,he,_,rfl⟩
   ·rcases Zy.mp hp with rfl |hp
    ·exact⟨oi,T8,a,items,n,hc,hd,e,hv⟩
    ·exact Holds.mono (s:=s) (.refl _) (fun o q=>hk _ o q) (fun O O O q=>q) (L.own p hp)
 have X:E7 (aj st.led) s Z {s with heap:=h' } Z (aj (fk (s.heap.objs.size+1) s.heap.objs.size xs 0++st.led)):=by
  refine⟨.refl _,fun b o q O=>hk b o q,fun b hb=>?_,fun O O q => .inl q,rfl,fun O O q O=>q,fun O h => .inl h⟩;rcases Zy.mp hb with hb |hb
  ·exact .inr (π b (.inr hb))
  ·rcases Zy.mp hb with hb |hb
   ·exact .inr (π b (.inl hb))
   ·exact .inl hb
 exact hQ _ _ _ Z _ (h (s.heap.objs.size+1) s.heap.objs.size) (S.after SL X) (.ref _) X.toF
theorem YX{x1:Nat}{Ö:Pos}{e:b0}{led:aa}
  (h:D5 C0 w B N k (.Tuple elts x1 Ö) e (sC 0 xs) (fk e it xs 0)->R (.ref e) ⟨loc,fk e it xs 0++led⟩):F1 C0 w A B C1 Val pyIter (.ref e) ⟨loc,fk e it xs 0++led⟩ R:=F1.of fun s Z S Q E hQ=>Val.eRef <| by
 refine ae (S.own _ (Zr ..)) fun oe ã h_=>aw h_ fun ô e_=>?_;subst e_;dsimp only at ã;exact wpAny_pyIter_enum ã (hQ _ _ s Z _ (h (D5.enum k xs.length 0 ⋯)) S (.ref _) .refl)
end
set_option backward.match.sparseCases false in
noncomputable def AV.isNone:AV->Option Bool
 |.none=>some true
 |.any=>Option.none
 |.blt _=>Option.none
 |_=>some false
theorem Val.isNone{x:Value}{b:Bool}(h:Val Z v x)(e:v.isNone=some b):(x==j6)=b/\plainIs x .none=true :=
 Val.casesOn (motive_1:=fun v x O=>v.isNone=some b->(x==j6)=b/\plainIs x .none=true) h (fun e=>⟨r7 e,rfl⟩) (fun O e=>⟨r7 e,rfl⟩) (fun O O e=>⟨r7 e,rfl⟩) (fun O O e=>⟨r7 e,rfl⟩) (fun O O e=>⟨r7 e,rfl⟩)
  (fun O e=>⟨r7 e,rfl⟩) (fun O e=>nomatch e) (fun O e=>⟨r7 e,rfl⟩) (fun O O e=>⟨r7 e,rfl⟩) (fun O O e=>⟨r7 e,rfl⟩) (fun O O e=>⟨r7 e,rfl⟩) (fun O O e=>⟨r7 e,rfl⟩) (fun O e=>⟨r7 e,rfl⟩)
  (fun O e=>⟨r7 e,rfl⟩) (fun O e=>nomatch e) e
theorem YC{b:Bool}(hb:v.isNone=some b)(h:R (.bool b) st):F2 C0 w A B C1 Val (u0 .Is) v .none st R:=F2.of fun s Z S Q E hQ=>fun G2 V1=>Val.eNone <| by
 refine aA (V1.isNone hb) fun h1 h2=>?_;exact wpAny_is_plain h2 (by rw[h1];exact hQ _ _ s Z st h S (.bool b) .refl)
theorem YB{b:Bool}(hb:v.isNone=some b)(h:R (.bool (!b)) st):F2 C0 w A B C1 Val (u0 .IsNot) v .none st R:=F2.of fun s Z S Q E hQ=>fun G2 V1=>Val.eNone <| by
 refine aA (V1.isNone hb) fun h1 h2=>?_;exact wpAny_isNot_plain h2 (by rw[h1];exact hQ _ _ s Z st h S (.bool (!b)) .refl)
theorem YR{R:Bool->St->Prop}(h:R false st):F1 C0 w A B C1 aK truthy .none st R:=F1.of fun s Z S Q E hQ=>Val.eNone <| (fun O O O=>hQ false false s Z st h S rfl .refl:ZS (ZP C0 w) A (truthy j6) Q E s)
theorem zZ{t t':Value->Sem Unit}{ts:List (Value->Sem Unit)}{R:Unit->St->Prop}(h:F1 C0 w A B C1 aS t v st fun O C4=>F1 C0 w A B C1 aS (fun x=>assignAll x (t'::ts)) v C4 R) :
  F1 C0 w A B C1 aS (fun x=>assignAll x (t::t'::ts)) v st R:=fun s Z x V S Q E hQ =>
 Zq (ZF (h s Z x V S _ _ fun O O s₁ Z1 E5 k₁ S1 O X1=>k₁ s₁ Z1 x (V.mono X1.le) S1 _ _ fun v y s' Z' C4 k S' V' X=>hQ v y s' Z' C4 k S' V' (X1.trans X)))
theorem zw{J0:List Expr}{R:D4->St->Prop}(hs:swapsWithSole J0 value pos.line C1=o4 false)(hw:swappedStores J0 value C1=o4 none)
  (h:T C0 w A B C1 Val (k7 value C1) st fun v E5=>F1 C0 w A B C1 aS (fun x=>assignAll x ((n6 J0 C1).map (·.2))) v E5 fun O F9=>R .next F9) :
  T C0 w A B C1 E1 (exec (.Assign J0 value pos) C1) st R:=fun s Z S Q E hQ=>by
 rw[arm_exec_Assign,hs];refine Zq (a9 (Zq (Zs ?_)));refine cS d3 ?_;refine Zq (h s Z S _ _ fun v x s₁ Z1 E5 k₁ S1 V1 X1=>?_);rw[hw];refine Zq (Zs ?_);exact Zq (k₁ s₁ Z1 x V1 S1 _ _ fun O O s' Z' C4 k S' O X=>Zs (hQ _ _ s' Z' C4 k S' .next (X1.trans X)))
theorem ec{t:Expr}{R:D4->St->Prop}(hs:swapsWithSole [t] value pos.line C1=o4 false)(hw:swappedStores [t] value C1=o4 none)(he:n6 [t] C1=[(false,m0 t C1)])
  (h:T C0 w A B C1 Val (k7 value C1) st fun v E5=>F1 C0 w A B C1 aS (m0 t C1) v E5 fun O F9=>R .next F9):T C0 w A B C1 E1 (exec (.Assign [t] value pos) C1) st R :=
 zw hs hw (by exact(Eq.symm (he))▸h)
theorem fQ{t u:Expr}{R:D4->St->Prop}(hs:swapsWithSole [t,u] value pos.line C1=o4 false)(hw:swappedStores [t,u] value C1=o4 none)(he:n6 [t,u] C1=[(false,m0 t C1),(false,m0 u C1)])
  (h:T C0 w A B C1 Val (k7 value C1) st fun v E5=>F1 C0 w A B C1 aS (m0 t C1) v E5 fun O F9=>F1 C0 w A B C1 aS (m0 u C1) v F9 fun O J2=>R .next J2):T C0 w A B C1 E1 (exec (.Assign [t,u] value pos) C1) st R :=
 zw hs hw (by exact(Eq.symm (he))▸h.mono fun v C4 k=>zZ k)
theorem Vals.reverse(h:Vals Z xs vs):Vals Z xs.reverse vs.reverse :=
 h.ind (P:=fun xs vs=>Vals Z xs.reverse vs.reverse) .nil fun h O t=>by rw[ZX,ZX];exact t.append (.cons h .nil)
theorem Hy{J0:List Expr}{names:List Str}{R:D4->St->Prop}(hh:A.handled=none)(hs:swapsWithSole J0 value pos.line C1=o4 false)(hw:swappedStores J0 value C1=o4 (some names))
  (h:T C0 w A B C1 Val (k7 value C1) st fun v E5=>∃vs,v=.tup vs/\vs.length=names.length/\FA C0 w A B C1 (names.reverse.map fun n=>bindName C1 n) vs.reverse E5 fun O F9=>R .next F9) :
  T C0 w A B C1 E1 (exec (.Assign J0 value pos) C1) st R:=fun s Z S Q E hQ=>by
 rw[arm_exec_Assign,hs];refine Zq (a9 (Zq (Zs ?_)));refine cS d3 ?_;refine Zq (h s Z S _ _ fun v x s₁ Z1 E5 k₁ S1 V1 X1=>?_);rw[hw];refine Zq (Zs ?_);refine aU k₁ fun vs O2 hl k=>?_;clear k₁;subst O2;refine bv (kP V1) fun a items n qv e hv=>?_;subst qv;show ZS _ A (rule _>>=_) Q E s₁;refine Zq (l6 ?_);have E3:names.length=items.toArray.size:=by rw[← hl,← hv.length];simp
 rw[E3];refine Zq (wpAny_unpackItems_tuple hh (items:=items.toArray) ⟨_,S1.frozen _ _ e,rfl,n,rfl⟩ fun h' he=>?_);refine aA (S1.ext1 he) fun S' X'=>?_;refine Zq (k _ Z1 _ (by simpa using hv.reverse) S' _ _ fun O O s' Z' C4 k J1 O X=>Zs (hQ _ _ s' Z' C4 k J1 .next ((X1.trans X').trans X)))
theorem Zb{R:Unit->St->Prop}(h:F1 C0 w A B C1 aS (A8 C1 x) v st R):F1 C0 w A B C1 aS (bindName C1 x) v st R:=fun s Z u V S Q E hQ=>wpAny_bindName (h s Z u V S Q E hQ)
theorem D7.drop1{p:b0×D9}{led:aa}(S:D7 B C1 s Z ⟨loc,p::led⟩):D7 B C1 s Z ⟨loc,led⟩ :=
 ⟨S.toC7.drop1,S.locZ,fun h=>S.locL (Zt _ h),S.loc,S.kinds,S.fn⟩
theorem FR{p:b0×D9}{led:aa}{g:Nat}(h:g∈gkeys led):g∈gkeys (p::led):=by
 unfold gkeys at *;rw[k9];split
 ·exact h
 ·exact Zt _ h
theorem E7.more{U2 o2 o:i_}{s':Zx}{Z':D3}(X:E7 U2 s Z s' Z' o)(h1:∀a,U2.at_ a->o2.at_ a)(h2:∀g,U2.gn g->o2.gn g):E7 o2 s Z s' Z' o :=
 ⟨X.le,fun a ob e h=>X.kept a ob e fun q=>h (h1 a q),fun a h=>(X.grow a h).imp (h1 a) id,fun a ob e=>(X.zgrow a ob e).imp id (Or.imp (h1 a) id),X.os,fun g gs e h=>X.gkept g gs e fun q=>h (h2 g q),fun g h=>(X.ggrow g h).imp (h2 g) id⟩
theorem T.drop{rel:D3->α->β->Prop}{t:Sem β}{p:b0×D9}{led:aa}{K:α->St->Prop}(h:T C0 w A B C1 rel t ⟨loc,led⟩ K):T C0 w A B C1 rel t ⟨loc,p::led⟩ K :=
 fun s Z S Q E hQ=>h s Z S.drop1 Q E fun v x s' Z' C4 k S' V X=>hQ v x s' Z' C4 k S' V (X.more (fun a ha=>ha.imp id (Zt _)) fun g hg=>FR hg)
def uy(_:D3)(o:Obj):Prop:=∃led:Bool,o={ cls:=.type "set",dict:=none,data:=.set #[] 0 (.fresh 0 0 led)}
theorem Lh(Z Z':D3)(o:Obj)(k:D3.le Z Z')(x:uy Z o):uy Z' o:=x
noncomputable abbrev cn:D9:=.obj uy Lh
theorem XM(h:∀a,a∉keys st.led->R (.ref a) ⟨st.loc,(a,cn)::st.led⟩):FC C0 w A B C1 (.typ "set") [] [] st R:=FC.t fun s Z S Q E hQ =>  Vals.un0 <| by
 refine call_set_0 fun lb=>?_;have P:=S.toC7.push (o:={ cls:=.type "set",dict:=none,data:=.set #[] 0 (.fresh 0 0 lb)}) (ao:=cn) rfl s.toks ⟨_,ZB _ rfl,lb,rfl⟩;exact hQ _ _ _ _ _ (h _ S.toC7.lfresh) (S.after P.1 P.2) (.ref _) P.2.toF
theorem XS{led':aa}(hsz:xs.length<c9)(U:Upd a (.list (xs++[v])) (.list xs) st.led led')(h:K v ⟨st.loc,led'⟩) :
  FC C0 w A B C1 (.blt "list.pop") [.ref a] [] st K:=FC.b fun s Z S Q E hQ=>Vals.un <| Val.eRef <| Vals.un0 <| by
 refine bI (S.own _ U.mem) fun items n g vs=>?_;dsimp only at g;have E3:items.size=xs.length+1:=vs.size.trans ZA;refine ae (vs.get (i:=xs.length) (x:=v) (by simp)) fun y hy hV=>?_;have hy':items[items.size-1]?=some y:=by rw[E3];simpa using hy
 refine call_meets F.slot_list_pop (⟨_,g,rfl⟩) F.entry_list_pop (F.args_list_pop_1 _) (PySem.MeetsSeq.list_pop_last a items n y hy' ⋯) ⟨g,?_⟩;have K3:∃n',(s.heap.update a (d9 fun x=>x.eraseIdxIfInBounds (items.size-1))).get? a=some {cls:=.type "list",data:=.seq (items.eraseIdxIfInBounds (items.size-1)) n' }:=⟨_,c6 (d9 fun x=>x.eraseIdxIfInBounds (items.size-1)) g rfl⟩;refine aw K3 ?_;clear K3;intro n' K3;have æ:(items.eraseIdxIfInBounds (items.size-1)).toList=items.toList.take xs.length:=by
  have h1:items.size-1<items.size:=by rw[E3];exact t9 _
  rw[Array.eraseIdxIfInBounds,dif_pos h1,Array.toList_eraseIdx,List.eraseIdx_eq_take_drop_succ];have h2:items.size-1=xs.length:=by rw[E3];rfl
  rw[h2,m5 (by simp[E3]),g7]
 have P_:Vals Z xs (items.eraseIdxIfInBounds (items.size-1)).toList:=by
  rw[æ]
  have:=vs.take xs.length;simpa using this
 have P:=S.toC7.upd U (h':=s.heap.update a (d9 fun x=>x.eraseIdxIfInBounds (items.size-1))) (tk:=s.toks) (fun b ob hb e=>(c0 ..).extBut b ob hb e) rfl rfl ⟨_,n',K3,P_⟩;exact hQ _ _ _ Z _ h (S.after P.1 P.2) hV P.2.toF
theorem C7.push0{led:aa}(S:C7 B s Z led)(tk:Nat) :
  C7 B {s with heap:=s.heap.push o,toks:=tk} Z led/\E7 (aj led) s Z {s with heap:=s.heap.push o,toks:=tk} Z (aj led):=by
 have keep:∀b ob,s.heap.get? b=some ob->(s.heap.push o).get? b=some ob:=fun b ob e=>ZC o e;exact⟨⟨S.base,fun a ob e=>keep a ob (S.frozen a ob e),S.nodup,S.apart,fun p hp=>(S.own p hp).mono (.refl _) (fun ob e=>keep _ ob e) fun O O O e=>e,S.gnodup,S.bare⟩,
  ⟨.refl _,fun a ob e O=>keep a ob e,fun a ha => .inl ha,fun O O e => .inl e,rfl,fun O O e O=>e,fun g hg => .inl hg⟩⟩
theorem zC{lo hi:Expr}{p:Pos}(ht:∀o r,letTemporaryGo value o r=o4 ())
  (h:T C0 w A B C1 Val (k7 value C1) st fun v E5=>T C0 w A B C1 Val (k7 lo C1) E5 fun l F9=>T C0 w A B C1 Val (k7 hi C1) F9 fun u J2 =>
   ∃xs:List AV,∃i j:Nat,F4 J2.led v xs/\l=.int i/\u=.int j/\i<=j/\j<=xs.length/\xs.length<=c9/\R (.lst ((xs.drop i).take (j-i))) J2) :
  T C0 w A B C1 Val (k7 (.Subscript value (.Slice (some lo) (some hi) none p) pos) C1) st R:=fun s Z S Q E hQ=>by
 refine wpAny_Subscript_list_slice (h s Z S _ _ fun v x s₁ Z1 E5 k₁ S1 V1 X1=>k₁ s₁ Z1 S1 _ _ fun l y s2 Z2 F9 k2 S2 V2 X2=>k2 s2 Z2 S2 _ _ fun u z s3 Z3 J2 k3 S3 V3 X3=>?_) ht;refine Iq k3 fun xs i j hl O5 O6 L8 hj hsz k=>?_;clear k3;subst O5;subst O6;refine bv (hl.get (V1.mono (X2.le.trans X3.le)) S3.toC7) fun a items n O4 g vs=>?_;subst O4;have E3:items.size=xs.length:=vs.size;refine aw V2.inv fun t e=>?_;subst e;refine aw V3.inv fun Λ e=>?_;subst e;refine zJ a items (some i) (some j) rfl ⟨_,g,rfl,n,rfl⟩ ⋯ (.int _ _) (.int _ _) ?_;rw[slicePick_run items i j ⋯ L8];have P1:=S3.toC7.push0 (o:={ cls:=.type "slice",data:=.fields #[.int i t,.int j Λ,.none]}) s3.toks;have P2:=P1.1.pushZ (o:={ cls:=.type "list",data:=.seq ((items.toList.drop i).take (j-i)).toArray}) rfl s3.toks;have X:=P1.2.trans P2.2;have hs:(s3.heap.push {cls:=.type "slice",data:=.fields #[.int i t,.int j Λ,.none]}).objs.size=s3.heap.objs.size+1:=z5 ..;refine hQ _ _ _ _ _ k (S3.after P2.1 X) ?_ (((X1.trans X2).trans X3).trans X.toF);rw[← hs];exact .lst (D3.add_at ..) (((vs.drop i).take (j-i)).mono X.le)
section
variable{N:aa}
theorem WI{lo:Expr}{p:Pos}(ht:∀o r,letTemporaryGo value o r=o4 ())
  (h:T C0 w A B C1 Val (k7 value C1) st fun v E5=>T C0 w A B C1 Val (k7 lo C1) E5 fun l F9 =>
   ∃xs:List AV,∃i:Nat,F4 F9.led v xs/\l=.int i/\xs.length<=c9/\R (.lst (xs.drop i)) F9) :
  T C0 w A B C1 Val (k7 (.Subscript value (.Slice (some lo) none none p) pos) C1) st R:=fun s Z S Q E hQ=>by
 refine wpAny_Subscript_list_slice (h s Z S _ _ fun v x s₁ Z1 E5 k₁ S1 V1 X1=>k₁ s₁ Z1 S1 _ _ fun l y s2 Z2 F9 k2 S2 V2 X2=>?_) ht;refine Zs ?_;refine lA k2 fun xs i hl O5 hsz k=>?_;clear k2;subst O5;refine bv (hl.get (V1.mono X2.le) S2.toC7) fun a items n O4 g vs=>?_;subst O4;have E3:items.size=xs.length:=vs.size;refine aw V2.inv fun t e=>?_;subst e;refine zJ a items (some i) none rfl ⟨_,g,rfl,n,rfl⟩ (E3▸hsz) (.int _ _) .none ?_;rw[slicePick_from' items i];have P1:=S2.toC7.push0 (o:={ cls:=.type "slice",data:=.fields #[.int i t,.none,.none]}) s2.toks;have P2:=P1.1.pushZ (o:={ cls:=.type "list",data:=.seq (items.toList.drop i).toArray}) rfl s2.toks;have X:=P1.2.trans P2.2;have hs:(s2.heap.push {cls:=.type "slice",data:=.fields #[.int i t,.none,.none]}).objs.size=s2.heap.objs.size+1:=z5 ..;refine hQ _ _ _ _ _ k (S2.after P2.1 X) ?_ ((X1.trans X2).trans X.toF);rw[← hs];exact .lst (D3.add_at ..) ((vs.drop i).mono X.le)
end
theorem D7.keepAll(S:D7 B C1 s Z st){h':Heap}{tk:Nat}(keep:∀b o,s.heap.get? b=some o->h'.get? b=some o):D7 B C1 {s with heap:=h',toks:=tk} Z st/\E7 (aC C1 st) s Z {s with heap:=h',toks:=tk} Z (aC C1 st) :=
 ⟨⟨⟨S.base,fun a o e=>keep a o (S.frozen a o e),S.nodup,S.apart,fun p hp=>(S.own p hp).mono (.refl _) (fun o e=>keep _ o e) (fun O O O e=>e),S.gnodup,S.bare⟩,S.locZ,S.locL,M1.mono (.refl _) (fun o e=>keep _ o e) S.loc,S.kinds,S.fn⟩,
  ⟨.refl _,fun a o e O=>keep a o e,fun a h => .inl h,fun O O e => .inl e,rfl,fun O O e O=>e,fun O h => .inl h⟩⟩
theorem oK{a b:Int}(hh:A.handled=none)(h:R (.int (max a b)) st):FC C0 w A B C1 (.blt "max") [.int a,.int b] [] st R:=FC.b fun s Z S Q E hQ=>Vals.un <| Val.eInt fun O=>Vals.un <| Val.eInt fun O=>Vals.un0 <| by
 refine max_two_ints hh fun h' tk Y9=>?_;have P:=S.keepAll (h':=h') (tk:=tk) Y9;refine hQ _ _ _ Z st h P.1 ?_ P.2;split
 ·rw[show max a b=b from by omega];exact .int _ _
 ·rw[show max a b=a from by omega];exact .int _ _
theorem ta{a b:Int}(hh:A.handled=none)(h:R (.int (min a b)) st):FC C0 w A B C1 (.blt "min") [.int a,.int b] [] st R:=FC.b fun s Z S Q E hQ=>Vals.un <| Val.eInt fun O=>Vals.un <| Val.eInt fun O=>Vals.un0 <| by
 refine min_two_ints hh fun h' tk Y9=>?_;have P:=S.keepAll (h':=h') (tk:=tk) Y9;refine hQ _ _ _ Z st h P.1 ?_ P.2;split
 ·rw[show min a b=b from by omega];exact .int _ _
 ·rw[show min a b=a from by omega];exact .int _ _
def Am(J:Nat->St->Prop)(K:D4->St->Prop)(n:Nat)(f:D4)(F9:St):Prop :=
 match f with
 |.next |.cont=>∃m,m<n/\J m F9
 |.brk=>K .next F9
 |.ret v=>K (.ret v) F9
theorem Wn{G7:Expr}{J:Nat->St->Prop}{K:D4->St->Prop}
  (turn:∀n st,J n st->T C0 w A B C1 aK (isTrue G7 C1 (k7 G7 C1)) st fun b E5=>if b then T C0 w A B C1 E1 (execs body C1) E5 (Am J K n)
   else K .next E5)   (h:J n st):T C0 w A B C1 E1 (exec (.While G7 body [] pos) C1) st K:=fun s Z S Q E hQ=>by
 refine wpAny_While ?_;refine codeAny_whileLoop (fun n s'=>∃Z' C4,J n C4/\D7 B C1 s' Z' C4/\E7 (aC C1 st) s Z s' Z' (aC C1 C4)) ?_ n ⟨Z,st,h,S,.refl⟩;intro n s' Y3;refine bW Y3 fun Z' C4 hJ S' X'=>?_;clear Y3;refine turn n C4 hJ s' Z' S' _ _ fun b c s₁ Z1 E5 k₁ S1 V1 X1=>?_;unfold aK at V1;subst V1;cases c with
 |true =>
  rw[if_pos rfl] at k₁ ⊢;refine k₁ s₁ Z1 S1 _ _ fun f y s2 Z2 F9 k2 S2 V2 X2=>?_;have X:=(X'.trans X1).trans X2;induction V2 with
  |next=>refine ae k2 fun m hm hJ=>?_;clear k2;exact⟨m,hm,Z2,F9,hJ,S2,X⟩
  |cont=>refine ae k2 fun m hm hJ=>?_;clear k2;exact⟨m,hm,Z2,F9,hJ,S2,X⟩
  |brk=>exact hQ _ _ s2 Z2 F9 k2 S2 .next X
  |ret hv=>exact hQ _ _ s2 Z2 F9 k2 S2 (.ret hv) X
 |false =>
  rw[if_neg d3] at k₁ ⊢;exact wpAny_execs_nil (hQ _ _ s₁ Z1 E5 k₁ S1 .next (X'.trans X1))
noncomputable def fg(l:List (Str×AV)):List (Str×AV)->List (Str×AV) :=
 List.rec (motive:=fun O=>List (Str×AV)->List (Str×AV)) (fun O=>[]) (fun p O ih m=>(p.1,bif (m.headD p).2.isAny then .any else p.2)::ih m.tail) l
theorem Gk(x:Str)(l m:List (Str×AV)):(fg l m).lookup x=l.lookup x∨(fg l m).lookup x=some .any/\∃v,l.lookup x=some v:=by
 induction l generalizing m with
 |nil=>exact .inl rfl
 |cons p l ih =>
  show List.lookup x ((p.1,bif (m.headD p).2.isAny then .any else p.2)::fg l m.tail)=_∨_/\_;show List.lookup x ((p.1,bif (m.headD p).2.isAny then .any else p.2)::fg l m.tail)=List.lookup x ((p.1,p.2)::l)∨List.lookup x ((p.1,bif (m.headD p).2.isAny then .any else p.2)::fg l m.tail)=_/\∃v,List.lookup x ((p.1,p.2)::l)=some v;rw[ZN,ZN];cases x==p.1 with
  |false=>exact ih _
  |true=>cases(m.headD p).2.isAny with
   |false=>exact .inl rfl
   |true=>exact .inr ⟨rfl,_,rfl⟩
theorem Gj(l:List (Str×AV)):fg l l=l:=by
 induction l with
 |nil=>rfl
 |cons p l ih =>
  show (p.1,bif p.2.isAny then .any else p.2)::fg l l=p::l;rw[ih];obtain⟨x,v⟩:=p;cases v <;> rfl
def G6(st C4:St):Prop:=(⟨fg st.loc C4.loc,st.led⟩:St)=C4
theorem G6.self(st:St):G6 st st:=congrArg (fun l=>(⟨l,st.led⟩:St)) (Gj st.loc)
theorem G6.lc{C4:St}(h:G6 st C4):fg st.loc C4.loc=C4.loc:=(congrArg St.loc (show (⟨fg st.loc C4.loc,st.led⟩:St)=C4 from h) :)
theorem G6.ld{C4:St}(h:G6 st C4):st.led=C4.led:=(congrArg St.led (show (⟨fg st.loc C4.loc,st.led⟩:St)=C4 from h) :)
theorem G6.app{C4:St}(h:G6 st C4)(l:aa):G6 ⟨st.loc,st.led++l⟩ ⟨C4.loc,C4.led++l⟩:=congr (congrArg St.mk h.lc) (congrArg (· ++ l) h.ld)
theorem D7.fit{C4:St}(S:D7 B C1 s Z st)(h:G6 st C4):D7 B C1 s Z C4:=by
 obtain⟨loc,led⟩:=st;obtain⟨D8,led'⟩:=C4;cases(show led=led' from h.ld)
 have e:fg loc D8=D8:=h.lc;refine⟨S.toC7,S.locZ,S.locL,ae S.loc fun f hn hr=>bB f hn fun y=>?_,fun y v q=>?_,S.fn⟩
 ·show E9 Z (List.lookup y D8) (f y);rw[← e];exact(Gk y loc D8).elim (fun q=>q▸hr y) fun q=>q.1▸.any
 ·exact(Gk y loc D8).elim (fun h=>S.kinds y v (h.symm.trans ((congrArg (List.lookup y) e).trans q))) fun h=>h.2.elim fun u hu=>S.kinds y u hu
theorem G6.own{C4:St}(h:G6 st C4):aC C1 C4=aC C1 st:=by unfold aC;rw[show C4.led=st.led from h.ld.symm]
theorem T.fit{rel:D3->α->β->Prop}{t:Sem β}{C4:St}{K:α->St->Prop}(h:G6 st C4)(k:T C0 w A B C1 rel t C4 K):T C0 w A B C1 rel t st K :=
 fun s Z S Q E hQ=>k s Z (S.fit h) Q E fun v x s' Z' F0 k S' V X=>hQ v x s' Z' F0 k S' V (h.own▸X)
theorem F1.fit{rel:D3->α->β->Prop}{f:Value->Sem β}{led:aa}{K:α->St->Prop}(h:fg loc D8=D8)(k:F1 C0 w A B C1 rel f v ⟨D8,led⟩ K):F1 C0 w A B C1 rel f v ⟨loc,led⟩ K :=
 have h:G6 ⟨loc,led⟩ ⟨D8,led⟩:=congrArg (fun l=>(⟨l,led⟩:St)) h
 fun s Z x V S Q E hQ=>k s Z x V (S.fit h) Q E fun v x s' Z' F0 k S' V X=>hQ v x s' Z' F0 k S' V (h.own▸X)
theorem T.fitPost{rel:D3->α->β->Prop}{t:Sem β}{K K':α->St->Prop}(k:T C0 w A B C1 rel t st K)(h:∀v C4,K v C4->∃F0,G6 C4 F0/\K' v F0):T C0 w A B C1 rel t st K' :=
 fun s Z S Q E hQ=>k s Z S Q E fun v x s' Z' C4 k S' V X=>(h v C4 k).elim fun F0 q=>hQ v x s' Z' F0 q.2 (S'.fit q.1) V (q.1.own▸X)
def Nx(Y:(St->Prop)->Prop)(f:D4)(st:St):Prop:=f=.next/\∃C4,G6 st C4/\∀P,Y P->P C4
theorem Nx.mk{Y:(St->Prop)->Prop}{led:aa}{C4:St}(h:∀P,Y P->P C4)(e:(⟨fg loc C4.loc,led⟩:St)=C4):Nx Y .next ⟨loc,led⟩:=⟨rfl,C4,e,h⟩
theorem Nx.ld{Y:(St->Prop)->Prop}{C4:St}(h:∀P,Y P->P C4)(e:fg loc C4.loc=C4.loc):Nx Y .next ⟨loc,C4.led⟩:=⟨rfl,C4,congrArg (fun l=>(⟨l,C4.led⟩:St)) e,h⟩
theorem Nx.mkE{Y:(St->Prop)->Prop}{led:aa}{C4:St}(h:∀P,Y P->P C4)(el:led=C4.led)(e:fg loc C4.loc=C4.loc):Nx Y .next ⟨loc,led⟩:=el▸.ld h e
theorem T.join{t:Sem Flow}{K:D4->St->Prop}(Y:(St->Prop)->Prop)(h:T C0 w A B C1 E1 t st (Nx Y))(k:Y (K .next)):T C0 w A B C1 E1 t st K :=
 h.fitPost fun f C4 q=>q.1▸q.2.elim fun F0 q=>⟨F0,q.1,q.2 _ k⟩
def Lo(f:α->AV)(Y:List α->(St->Prop)->Prop)(l:List AV)(st:St):Prop:=∃gs C4,l=gs.map f/\G6 st C4/\∀P,Y gs P->P C4
theorem Lo.mk{f:α->AV}{Y:List α->(St->Prop)->Prop}{gs:List α}{led:aa}{C4:St}(h:∀P,Y gs P->P C4)(e:(⟨fg loc C4.loc,led⟩:St)=C4):Lo f Y (gs.map f) ⟨loc,led⟩:=⟨gs,C4,rfl,e,h⟩
theorem Lo.ld{f:α->AV}{Y:List α->(St->Prop)->Prop}{gs:List α}{C4:St}(h:∀P,Y gs P->P C4)(e:fg loc C4.loc=C4.loc):Lo f Y (gs.map f) ⟨loc,C4.led⟩:=⟨gs,C4,rfl,congrArg (fun l=>(⟨l,C4.led⟩:St)) e,h⟩
theorem Lo.lk{f:α->AV}{Y:List α->(St->Prop)->Prop}{gs:List α}{led:aa}(h:∀P,Y gs P->P ⟨D8,led⟩)(e:fg loc D8=D8):Lo f Y (gs.map f) ⟨loc,led⟩:=.ld (C4:=⟨D8,led⟩) h e
theorem sU{N:aa}(f:α->AV)(Y:List α->(St->Prop)->Prop){K:D4->St->Prop}{Tn:aa->α->List α->St->Prop}
  (ht:∀gl a as C4,Tn gl a as C4->F1 C0 w A B C1 aS (m0 C3 C1) (f a) ⟨C4.loc,C4.led++gl⟩ fun O J2=>T C0 w A B C1 E1 (execs body C1) J2 (T2 (Lo f Y) K (as.map f) gl)) (hA:D6 A k)
  (H6:T C0 w A B C1 Val (k7 iter C1) st fun v E5=>F1 C0 w A B C1 Val pyIter v E5 (þ C0 w B N k C3 (Lo f Y)))
  (step:∀gl a as,Y (a::as) (Tn gl a as)) (hN:∀gs C4,(∀P,Y gs P->P C4)->G5 N C4.led) (done:Y [] (K .next)) (hs:∀x,w9 iter C1 x=o4 x) :
  T C0 w A B C1 E1 (exec (.For C3 iter body [] pos) C1) st K :=
 T.fitPost (K:=fun f st=>∃F0,G6 st F0/\K f F0) (Ws hA H6 (fun x xs st gl q s Z v V S Q E hQ=>q.elim fun gs q=>q.elim fun C4 q=>by
   cases gs with
   |nil=>cases q.1
   |cons a as =>
    cases q.1
    have q2:=G6.app q.2.1 gl;exact ht _ _ _ _ (q.2.2 _ (step gl a as)) s Z v V (S.fit q2) Q E fun v x s' Z' F0 k S' V X=>hQ v x s' Z' F0 (k.mono fun f N5 k=>k.rec .next .cont (fun k => .brk ⟨_,G6.self _,k⟩) fun k => .ret ⟨_,G6.self _,k⟩) S' V (q2.own▸X))
  (fun xs st q=>q.elim fun gs q=>q.elim fun C4 q=>(show C4.led=st.led from q.2.1.ld.symm)▸hN gs C4 q.2.2) (fun st q=>q.elim fun gs q=>q.elim fun C4 q=>by
   cases gs with
   |nil=>exact⟨C4,q.2.1,q.2.2 _ done⟩
   |cons a as=>cases q.1) hs) fun v C4 q=>q
theorem oD(f:α->AV)(Y:List α->(St->Prop)->Prop){K:D4->St->Prop}(hA:D6 A k)
  (H6:T C0 w A B C1 Val (k7 iter C1) st fun v E5=>F1 C0 w A B C1 Val pyIter v E5 (þ C0 w B [] k C3 (Lo f Y)))
  (step:∀gl a as,Y (a::as) fun C4=>F1 C0 w A B C1 aS (m0 C3 C1) (f a) ⟨C4.loc,C4.led++gl⟩ fun O J2=>T C0 w A B C1 E1 (execs body C1) J2 (T2 (Lo f Y) K (as.map f) gl))
  (done:Y [] (K .next)) (hs:∀x,w9 iter C1 x=o4 x) :
  T C0 w A B C1 E1 (exec (.For C3 iter body [] pos) C1) st K:=sU f Y (fun O O O O h=>h) hA H6 step (fun O O O => .nil) done hs
def Lw(Y:Nat->(St->Prop)->Prop)(n:Nat)(st:St):Prop:=∃C4,G6 st C4/\∀P,Y n P->P C4
theorem Lw.mk{Y:Nat->(St->Prop)->Prop}{led:aa}{C4:St}(h:∀P,Y n P->P C4)(e:(⟨fg loc C4.loc,led⟩:St)=C4):Lw Y n ⟨loc,led⟩:=⟨C4,e,h⟩
theorem lp{G7:Expr}(Y:Nat->(St->Prop)->Prop){K:D4->St->Prop}
  (turn:∀n,Y n fun st=>T C0 w A B C1 aK (isTrue G7 C1 (k7 G7 C1)) st fun b E5=>if b then T C0 w A B C1 E1 (execs body C1) E5 (Am (Lw Y) K n) else K .next E5)
    (h:Lw Y n st):T C0 w A B C1 E1 (exec (.While G7 body [] pos) C1) st K :=
 Wn (J:=Lw Y) (fun n st q=>q.elim fun C4 q=>T.fit q.1 (q.2 _ (turn n))) h
section
variable{N:aa}{n m:Nat}{K:D4->St->List AV->Prop}
theorem TG.eq{t:Sem Flow}{E2:List AV}(e:C5=E2)(k:TG C0 w B N n m C1 t st E2 K):TG C0 w B N n m C1 t st C5 K:=e▸k
theorem TG.fit{t:Sem Flow}{C4:St}(h:G6 st C4)(k:TG C0 w B N n m C1 t C4 C5 K):TG C0 w B N n m C1 t st C5 K :=
 fun c fs Kc H gd lv hs hg hK A hA led' hN H0 G9 Z0 s Z S X =>
  have q:=h.app led';k c fs Kc H gd lv hs hg hK A hA led' hN H0 G9 Z0 s Z (S.fit q) (q.own▸X)
def R8(Y:(St->List AV->Prop)->Prop)(f:D4)(st:St)(C5:List AV):Prop:=f=.next/\∃C4,G6 st C4/\∀P,Y P->P C4 C5
theorem R8.mk{Y:(St->List AV->Prop)->Prop}{led:aa}{C4:St}(h:∀P,Y P->P C4 C5)(e:(⟨fg loc C4.loc,led⟩:St)=C4):R8 Y .next ⟨loc,led⟩ C5:=⟨rfl,C4,e,h⟩
theorem eD{x:Stmt}{rest:List Stmt}(Y:(St->List AV->Prop)->Prop)(h:TG C0 w B N n m C1 (exec x C1) st C5 (R8 Y))(k:Y fun st C5=>TG C0 w B N n m C1 (execs rest C1) st C5 K):TG C0 w B N n m C1 (execs (x::rest) C1) st C5 K:=cK <|
 fun c fs Kc H gd lv hs hg hK=>h c fs Kc H gd lv hs hg fun f x C4 E2 q=>hK f x C4 E2 (q.1▸q.2.elim fun F0 q=>TG.fit q.1 (q.2 _ k))
def Ś(f:α->AV)(Y:List α->(St->List AV->Prop)->Prop)(l:List AV)(st:St)(C5:List AV):Prop:=∃gs C4,l=gs.map f/\G6 st C4/\∀P,Y gs P->P C4 C5
theorem Ś.mk{f:α->AV}{Y:List α->(St->List AV->Prop)->Prop}{gs:List α}{led:aa}{C4:St}(h:∀P,Y gs P->P C4 C5)(e:(⟨fg loc C4.loc,led⟩:St)=C4):Ś f Y (gs.map f) ⟨loc,led⟩ C5:=⟨gs,C4,rfl,e,h⟩
theorem ig(f:α->AV){rest:List Stmt}(Y:List α->(St->List AV->Prop)->Prop)(hk:k<=m)
  (H6:∀A,D6 A m->∀led,G5 N led->T C0 w A B C1 Val (k7 iter C1) ⟨st.loc,st.led++led⟩ fun v E5=>F1 C0 w A B C1 Val pyIter v E5 (ς C0 w B N k C3 led (Ś f Y) C5))
  (step:∀gl a as,Y (a::as) (ρ C0 w B N n m C1 C3 (f a) body gl (V8 (Ś f Y) (Bp C0 w B N n m C1 rest K) (as.map f) gl)))
  (done:Y [] fun st C5=>TG C0 w B N n m C1 (execs rest C1) st C5 K) (hs:∀x,w9 iter C1 x=o4 x) :
  TG C0 w B N n m C1 (execs (.For C3 iter body [] pos::rest) C1) st C5 K :=
 cK (WB hk H6 (fun x xs st C5 gl q=>q.elim fun gs q=>q.elim fun C4 q=>by
   cases gs with
   |nil=>cases q.1
   |cons a as =>
    cases q.1
    have ⟨h,k⟩:=q.2.2 _ (step gl a as);refine .mk (fun A hA led hN=>show F1 C0 w A B C1 aS (m0 C3 C1) (f a) ⟨st.loc,(st.led++gl)++led⟩ _ from(show C4.led=st.led from q.2.1.ld.symm)▸F1.fit q.2.1.lc (h A hA led hN)) ((show C4.led=st.led from q.2.1.ld.symm)▸k))
  (fun st C5 q=>q.elim fun gs q=>q.elim fun C4 q=>by
   cases gs with
   |nil=>exact TG.fit q.2.1 (q.2.2 _ done)
   |cons a as=>cases q.1) hs)
end
def K_{γ:Type}(l:List AV):(List Value->γ)->(List Value->γ)->Prop :=
 List.rec (motive:=fun O=>(List Value->γ)->(List Value->γ)->Prop) (fun f g=>f []=g []) (fun O O ih f g=>∀v,ih (fun l=>f (v::l)) fun l=>g (v::l)) l
theorem K_.out{γ:Type}{l:List AV}(h:Vals Z l vs):∀(f g:List Value->γ),K_ l f g->f vs=g vs :=
 h.ind (P:=fun l vs=>∀f g:List Value->γ,K_ l f g->f vs=g vs) (fun f g k=>k) fun O O ih f g k=>ih _ _ (k _)
section
variable{K:Frag}{f c:b0}{fd:A6}(loc:List (Str×AV)){l0 led N:aa}{m:Nat}{R:AV->aa->Prop}
noncomputable abbrev sO(args:List AV):List Str:=((loc.take args.length).map Prod.fst).reverse
variable(hG:G1 (am K))(H5:A.depth<o1)
 (hb:K_ args (fun vs=>f1 K ⟨C0,w.params⟩ (bindArgs fd ⟨vs,[]⟩)) fun vs=>some ((sO loc args).zip vs))
 (hx:(loc.all fun p=>decide (fd.scope.names.lookup p.1=some .local))=true) (hl:((sO loc args).zip args).reverse++(loc.drop args.length).map (fun p=>(p.1,AV.any))=loc)
include hb in
theorem Binds.zip:Binds C0 w A (am K) fd args [] ((sO loc args).zip args):=Binds.pk fun Z xs h=>⟨_,K_.out h _ _ hb,E0.zip _ h⟩
include hx hl in
theorem EK:((((sO loc args).zip args).map (·.1)).all fun x=>decide (fd.scope.names.lookup x=some .local))=true:=by
 rw[c5] at hx ⊢;intro x h;refine(ZV.mp h).elim fun p q=>?_;exact q.2▸hx p (hl▸f8 _ (List.mem_reverse.mpr q.1))
include hx in
theorem EJ:(((loc.drop args.length).map Prod.fst).all fun x=>decide (fd.scope.names.lookup x=some .local))=true:=by
 rw[c5] at hx ⊢;intro x h;refine(ZV.mp h).elim fun p q=>?_;exact q.2▸hx p (List.mem_of_mem_drop q.1)
include hG H5 hb hx hl
theorem HK(ok:bF K f true fd body c)(h:∀L,TG C0 w (am K) N (m+3) m (bf fd L f c) (execs body (bf fd L f c)) ⟨loc,l0⟩ C5 fun O O E2=>E2=[]):TC C0 w A (am K) (.ref f) args [] (l0++led) (H8 C0 w (am K) N (m+3) C5 led) :=
 HL hG ok H5 (Binds.zip loc hb) (EK loc hx hl) fun L=>TG.spares _ (EJ loc (args:=args) hx) (by rw[m4];exact(show _=loc from hl).symm▸h L)
theorem WQ(ok:bF K f true fd body c)(h:∀L,TG C0 w (am K) N (m+3) m (bf fd L f c) (execs body (bf fd L f c)) ⟨loc,[]⟩ C5 fun O O E2=>E2=[]):TC C0 w A (am K) (.ref f) args [] led (H8 C0 w (am K) N (m+3) C5 led) :=
 HK (l0:=[]) loc hG H5 hb hx hl ok h
theorem dD(ok:bF K f false fd body c)(h:∀L,L∉keys led->T C0 w (A.deeper (bf fd L f c)) (am K) (bf fd L f c) E1 (execs body (bf fd L f c)) ⟨loc,led⟩ (lS R)):TC C0 w A (am K) (.ref f) args [] led R :=
 zH hG ok H5 (Binds.zip loc hb) (EK loc hx hl) fun L hL=>T.spares _ (EJ loc (args:=args) hx) (by rw[m4];exact(show _=loc from hl).symm▸h L hL)
end
theorem zF{func e Ĉ:Expr}{rest:List Expr}{p:Pos}
  (hc:k7 (.Call func (e::rest) [⟨some name,Ĉ,p⟩] pos) C1=(do callWith pos (← k7 func C1) [] (u5 pos (f0 (e::rest) C1)) (backToKw pos (keywordEach [⟨some name,Ĉ,p⟩] C1))))
  (he:f0 (e::rest) C1=(false,k7 e C1)::f0 rest C1)
  (h:T C0 w A B C1 Val (k7 func C1) st fun f E5=>fS C0 w B f/\T C0 w A B C1 Vals (spliced (u5 pos (f0 (e::rest) C1))) E5 fun vs F9=>T C0 w A B C1 Val (k7 Ĉ C1) F9 fun u J2=>FC C0 w A B C1 f vs [(name,u)] J2 K) :
  T C0 w A B C1 Val (k7 (.Call func (e::rest) [⟨some name,Ĉ,p⟩] pos) C1) st K:=fun s Z S Q E hQ=>by
 rw[hc];refine Zq (h s Z S _ _ fun f fx s₁ Z1 E5 k₁ S1 V1 X1=>?_);refine aA k₁ fun hk k₁=>?_;unfold callWith;refine Zq (ZF (PyProof.Rows.evalArgs_kw2 rfl (k₁ s₁ Z1 S1 _ _ fun vs x s2 Z2 F9 k2 S2 V2 X2=>PyProof.Rows.kwAll_cons (k2 s2 Z2 S2 _ _ fun u y s3 Z3 J2 k3 S3 V3 X3=>PyProof.Rows.kwAll_nil (Zq (a9 ?_)))) he));refine Zq (hk A s3 Z3 fx (V1.mono (X2.le.trans X3.le)) S3.base S3.frozen _ _ fun k=>?_);have I2:ZS (ZP C0 w) A (call fx ([]++x) [(name,y)]) (fun r s'=>ZS (ZP C0 w) A (do A9 [r] point;o4 r) Q E s') E s3 :=
  k3 s3 Z3 fx _ [(name,y)] (V1.mono (X2.le.trans X3.le)) (V2.mono X3.le) (.cons V3 .nil) S3 _ _ fun v y s' Z' C4 k S' V X=>Zq (ZF (wpAny_point (Zs (hQ v y s' Z' C4 k S' V (X1.trans (X2.trans (X3.trans X)))))))
 have Τ:∀l,ZS (ZP C0 w) A (operate l (call fx ([]++x) [(name,y)])>>=fun r=>(do A9 [r] point;o4 r)) Q E s3:=fun l=>Zq (fun Γ p S8=>by rw[Sem.wp_operate];exact I2 Γ p S8);have hm:∀m,ZS (ZP C0 w) A (callMarked m fx ([]++x) [(name,y)]>>=fun r=>(do A9 [r] point;o4 r)) Q E s3:=fun m=>Zq (by unfold callMarked;exact Calls.wpAny_keep I2);generalize (((u5 pos (f0 (e::rest) C1)).any fun x=>x.fst)||(backToKw pos (keywordEach [⟨some name,Ĉ,p⟩] C1)).any fun x=>x.fst.isNone)=b;cases k <;> cases b <;> first
  |exact Τ _
  |exact hm _
  |exact Zq I2
  |exact wpAny_ite (by split <;> first |exact Zq I2 |exact hm _)
section
variable{K:Frag}{f c:b0}{fd:A6}(loc:List (Str×AV)){led N:aa}{m:Nat}
theorem HM(hG:G1 (am K))(H5:A.depth<o1)(hb:Binds C0 w A.in1 (am K) fd args kw binds)(K5:((binds.map (·.1)).all fun x=>decide (fd.scope.names.lookup x=some .local))=true)
  (N3:(((loc.drop binds.length).map Prod.fst).all fun x=>decide (fd.scope.names.lookup x=some .local))=true) (hl:binds.reverse++(loc.drop binds.length).map (fun p=>(p.1,AV.any))=loc) (ok:bF K f true fd body c)
  (h:∀L,TG C0 w (am K) N (m+3) m (bf fd L f c) (execs body (bf fd L f c)) ⟨loc,[]⟩ C5 fun O O E2=>E2=[]):TC C0 w A (am K) (.ref f) args kw led (H8 C0 w (am K) N (m+3) C5 led) :=
 HL (l0:=[]) hG ok H5 hb K5 fun L=>TG.spares _ N3 (by rw[m4];exact(show _=loc from hl).symm▸h L)
end
theorem Od:(kfb_private% "ownerAndName") "dict.get" = ("dict", "get"):=by first |decide +kernel |kernel_rfl
theorem Oc:(kfb_private% "ownerAndName") "set.__contains__" = ("set", "__contains__"):=by first |decide +kernel |kernel_rfl
theorem Jo:(Manifest.toldItsClass.contains "dict.get")=false:=by decide +kernel
theorem Jn:(Manifest.toldItsClass.contains "set.__contains__")=false:=by decide +kernel
theorem Jk:typeOf (.builtin "set.__contains__")=o4 (.type "method_descriptor"):=by show builtinType _=_;rw[builtinType_eq_fast];kernel_rfl
theorem Lz{M:Model}{id T' nm:String}{P:PySem.Fin->Zx->Prop}(ho:(kfb_private% "ownerAndName") id=(T',nm))(ht:Manifest.toldItsClass.contains id=false)
  (hT:s.TypeIs (.ref a) T') (L6:y8 (.type T') (.type T')=o4 true) (h:P (.done (.ret (.ref s.heap.objs.size))) {s with heap:=s.heap.push {cls:=.type "builtin_function_or_method",data:=.fields #[.builtin id,.ref a]} }) :
  ZS M A (Builtin.«method_descriptor.__get__» ⟨[.builtin id,.ref a,.type T'],[]⟩) P E s:=by
 unfold Builtin.«method_descriptor.__get__»;refine Zq (f9 (a:=(.builtin id,some (.ref a),some (.type T'))) (by first |rfl |kernel_rfl) ?_);dsimp only;rw[ht];simp only[c7,if_false];show ZS M A ((kfb_private% "checkInstance") (.builtin id) (.ref a)>>=fun O=>newFields "builtin_function_or_method" [.builtin id,.ref a]>>=fun v=>ret v) P E s;refine Zq ?_;show ZS M A (((kfb_private% "nameAndClass") (.builtin id))>>=fun p=>_) _ E s;have hn:(kfb_private% "nameAndClass") (.builtin id)=o4 (Zw nm,y9 T'):=by
  show (match (kfb_private% "ownerAndName") id with |(owner,name)=>(o4 (Zw name,y9 owner):Sem (Str×Value)))=_;rw[ho]
 rw[hn];refine Zq (Zs ?_);dsimp only;refine Zq (m8 (T:=T') (b:=true) hT L6 ?_);simp only[Bool.not_true,c7,if_false];refine Zs ?_;exact Zq (f6 (Zs h))
theorem Qn:k8 (.type "method_descriptor") "__get__" = o4 (some (.builtin "method_descriptor.__get__")):=by rw[g4,b9];kernel_rfl
theorem Qm:k8 (.type "method_descriptor") "__set__" = o4 none:=by rw[g4,b9];kernel_rfl
theorem Qo:k8 (.type "method_descriptor") "__delete__" = o4 none:=by rw[g4,b9];kernel_rfl
theorem Kp:Slot "method_descriptor" "__get__" "method_descriptor.__get__" :=
 .of (owner := "method_descriptor") (n := "__get__") (by rw[g4,b9];kernel_rfl) (by decide +kernel) (by decide +kernel) (by decide +kernel)
  (by first |exact .inl (by decide +kernel) |exact .inr (by decide +kernel)) (by rw[f7];kernel_rfl)
theorem Ux:entryFor table "method_descriptor.__get__" = some Builtin.«method_descriptor.__get__» := s8 @_
theorem VM(a b c:Value):B2 "method_descriptor.__get__" ⟨[a,b,c],[]⟩:=by unfold B2;kernel_rfl
theorem Ly{id T':String}{u:Tok}{P:PySem.Fin->Zx->Prop}
  (ho:s.heap.get? a=some o) (hc:o.cls=.type T') (θ:o.dict=none) (K6:∀c,o.data ≠ .cls c)
  (å:k8 (.type T') name=o4 (some (.builtin id))) (R_:typeOf (.builtin id)=o4 (.type "method_descriptor"))
  (hnm:(["__module__", "__name__", "__qualname__", "__doc__", "__annotations__"]:List Str).contains name=false)
  (h:ZS (ZP C0 w) A (call (.builtin "method_descriptor.__get__") [.builtin id,.ref a,.type T']) (fun v s'=>P (.done (.ret v)) s') E s) :
  ZS (ZP C0 w) A (Builtin.«object.__getattribute__» ⟨[.ref a,.str name u],[]⟩) P E s:=by
 have hT:s.TypeIs (.ref a) T':=⟨_,ho,hc⟩;obtain⟨hp,g,d,tk,os⟩:=s;have f3:=Qn;have f4:=Qm;have f5:=Qo;unfold Builtin.«object.__getattribute__»;repeat (any_goals (first |assumption |wp_step))
 split
 ·rename_i q
  exact absurd q (K6 c)
 unfold instanceDict;refine Zq (wpAny_loadPart ho ?_);rw[hc,θ];refine Zq (Zs ?_);refine Zs ?_;refine Zs ?_;refine Zq ?_;unfold Builtin.ObjectAttr.copiedAttributeGuard;dsimp only;rw[hnm];refine Zs ?_;refine Zq (l6 (Zs ?_));exact Zq (ZF (e9 h (fun v s' h'=>Zs h') fun O O h'=>h'))
theorem UA:entryFor table "dict.__getattribute__" = some Builtin.«object.__getattribute__» := entryFor_alias (id' := "object.__getattribute__") @_ rfl (by decide +kernel) @_
theorem Uv:entryFor table "set.__getattribute__" = some Builtin.«object.__getattribute__» := entryFor_alias (id' := "object.__getattribute__") @_ rfl (by decide +kernel) @_
theorem Aj{id T' nm Ĳ:String}{R3:Bool}
  (ho:s.heap.get? a=some o) (hc:o.cls=.type T') (θ:o.dict=none) (K6:∀c,o.data ≠ .cls c)
  (Ï:Slot T' "__getattribute__" Ĳ) (r_:entryFor table Ĳ=some Builtin.«object.__getattribute__») (hgar:∀a b,B2 Ĳ ⟨[a,b],[]⟩)
  (å:k8 (.type T') name=o4 (some (.builtin id))) (R_:typeOf (.builtin id)=o4 (.type "method_descriptor"))
  (hnm:(["__module__", "__name__", "__qualname__", "__doc__", "__annotations__"]:List Str).contains name=false)
  (à:(kfb_private% "ownerAndName") id=(T',nm)) (ht:Manifest.toldItsClass.contains id=false) (L6:y8 (.type T') (.type T')=o4 true)
  (h:Q (.ref s.heap.objs.size) {s with heap:=s.heap.push {cls:=.type "builtin_function_or_method",data:=.fields #[.builtin id,.ref a]},toks:=s.toks+1}) :
  ZS (ZP C0 w) A (getAttr (.ref a) name R3) Q E s:=by
 have hT:∀t',({s with toks:=t' }:Zx).TypeIs (.ref a) T':=fun t'=>⟨o,ho,hc⟩;unfold getAttr getAttrBy;refine Zq (wpAny_mkText (ZF (Zq (wpAny_typeOf (hT _) (Zq (f9 Ï.lookup ?_))))));show ZS _ _ (getAttrByItsOwn (.ref a) (.str name s.toks) (.type T') (.builtin Ĳ) true R3) _ _ _;unfold getAttrByItsOwn hookBefore callGetattribute;refine Zq (f9 (show (if onTheHeap (.type T') then k8 (.type T') "__getattr__" else o4 none)=o4 none from rfl) ?_);refine Zq (s9 (ZF ?_));rw[show (R3&&onTheHeap (.builtin Ĳ))=false from Bool.and_false _];unfold boundAndCalled;dsimp only[c7,if_false];refine Zq (f9 (Ï.bind _) ?_);refine e9 (Q:=fun v s'=>v=.ref s.heap.objs.size/\s'={ s with heap:=s.heap.push {cls:=.type "builtin_function_or_method",data:=.fields #[.builtin id,.ref a]},toks:=s.toks+1}) (E:=fun O O=>False)
  (d6 Ï (hT _) r_ ?_ (hgar _ _)) (fun v s' hv=>?_) fun O O z=>z.elim
 ·refine Ly (s:={ s with toks:=s.toks+1}) ho hc θ K6 å R_ hnm ?_;refine d6 Kp R_ Ux ?_ (VM _ _ _);refine Lz à ht (hT _) L6 ?_;exact⟨_,rfl,_,rfl,rfl,rfl⟩
 ·refine aA hv fun O1 O2=>?_;clear hv;subst O1;subst O2;exact Zs h
theorem Ak{x:b0}{id T':String}{sig:_}{rest:List Value}{F:Builtin}{S:Spec}
  (hx:s.heap.get? x=some {cls:=.type "builtin_function_or_method",data:=.fields #[.builtin id,.ref a]})
  (ho:s.heap.get? a=some o) (hc:o.cls=.type T') (K6:∀c,o.data ≠ .cls c)
  (hsig:Manifest.signature? id=some sig) (I5:builtinKind id=some .method) (hmod:y8 (.type T') (.type "module")=o4 false) (hva:Manifest.varargsMethods.contains id=false)
  (ì:Bind.checkArgs id {sig with full:=s!"{Bind.lastOf T'}.{Bind.lastOf id}" } ⟨.ref a::rest,[]⟩=o4 ())
  (slot:Slot T' name id) (entry:entryFor table id=some F) (g:MeetsIn C0 w (F ⟨.ref a::rest,[]⟩) S) (h:S A (wants Q E) s) :
  ZS (ZP C0 w) A (call (.ref x) rest) Q E s:=by
 have hT:s.TypeIs (.ref a) T':=⟨_,ho,hc⟩;refine t8 (codeAny_of_tree ?_);show ZS _ A.in1 (callAny (.ref x) ⟨rest,[]⟩) _ _ s;dsimp only[callAny];refine Zq (wpAny_load hx ?_);dsimp only[show (y9 "builtin_function_or_method" == y9 "method" || y9 "builtin_function_or_method" == y9 "builtin_function_or_method" || y9 "builtin_function_or_method" == y9 "method-wrapper")=true by decide,if_true];refine KFB.if_so (by decide) ?_;refine Zq ?_;unfold checkBoundCall;rw[hsig];dsimp only;rw[I5];dsimp only;refine g8 (by decide) ?_;refine Zq (m8 (T:=T') (b:=false) hT hmod ?_);refine g8 (by rw[hva];rfl) ?_;refine Zq ?_;unfold isType;refine Zq (wpAny_loadPart ho ?_);have hn:(match o.data with |.cls _=>true |_=>false)=false:=by
  cases q:o.data with
  |cls c=>exact absurd q (K6 c)
  |_=>rfl
 refine Zs ?_;refine g8 hn ?_;refine Zq (wpAny_typeOf hT ?_);refine f9 ì ?_;refine Zq (Zs (Zs ?_));refine⟨plainId_quiet slot.plain _,y0 entry ?_⟩;rw[w8 slot.plain];exact g A (wants Q E) s h
theorem YZ{knd:B8 C0 w Int}{m:List (Int×AV)}{R3:Bool}(hm:(d,au knd m)∈st.led)
  (h:R (.bm "dict.get" (.ref d)) st):F1 C0 w A B C1 Val (fun x=>getAttr x LZ R3) (.ref d) st R:=F1.of fun s Z S Q E hQ=>Val.eRef <| by
 refine ae (S.own _ hm) fun o ho h_=>eh h_ fun es ep kvs hex hd O O O O=>?_;dsimp only at ho;refine Aj (T' := "dict") (id := "dict.get") ho hex.1 hex.2.1 (fun c e=>by rw[hd] at e;cases e) F.slot_dict_getattribute UA F.args_dict_getattribute_2 F.slot_dict_get.lookup F.type_dict_get (by decide +kernel) Od Jo (by rw[f7];kernel_rfl) ?_;have P:=S.toC7.pushZ (o:={ cls:=.type "builtin_function_or_method",data:=.fields #[.builtin "dict.get",.ref d]}) rfl (s.toks+1);exact hQ _ _ _ _ _ h (S.after P.1 P.2) (.bm (D3.add_at ..) (.ref d)) P.2.toF
theorem Yj{knd:B8 C0 w Int}{m:List (Int×AV)}{dflt:AV}{k:Int}(L4:(d==p8)=false)(hk:∀Z x,Val Z v x->knd.is k x=true)(hm:(d,au knd m)∈st.led)
  (h:R ((aP m k).getD dflt) st):FC C0 w A B C1 (.bm "dict.get" (.ref d)) [v,dflt] [] st R:=fun s Z fx xs ks hf hx p_ S Q E hQ=>by
 cases p_
 refine bW (yC hf) fun u1 u2 qv e hs=>?_;subst qv
 (have e_:=hs.inv;subst e_)
 refine Vals.un2 (P:=fun xs=>ZS (ZP C0 w) A (call (.ref u1) xs []) Q E s) (fun xk h2 xd h3=>?_) xs hx;refine ae (li S.toC7 hm) fun kvs hD Z9=>?_;refine jw (id hD) fun o es ep ho hex hd O=>?_;refine Ak (T' := "dict") (id := "dict.get") (S.frozen _ _ e) ho hex.1 (fun c e=>by rw[hd] at e;cases e) (sig:=(Manifest.signature? "dict.get").getD ⟨.positional, "", "",.self,[]⟩) @_ @_ (by rw[f7];kernel_rfl) (by decide +kernel) @_ F.slot_dict_get F.entry_dict_get (meets_dict_get_default knd d (hk Z xk h2) L4 xd) ⟨_,hD.mapOf,?_⟩;refine hQ _ _ _ Z st h (S.toks _) ?_ (.toks _);rcases Z9.find k with ⟨e1,e2⟩ |⟨u,y,e1,e2,e3⟩
 ·exact(Eq.symm (e1))▸(Eq.symm (e2))▸h3
 ·exact(Eq.symm (e1))▸(Eq.symm (e2))▸e3
theorem Za{R3:Bool}(hm:(a,cn)∈st.led)
  (h:R (.bm "set.__contains__" (.ref a)) st):F1 C0 w A B C1 Val (fun x=>getAttr x Mb R3) (.ref a) st R:=F1.of fun s Z S Q E hQ=>Val.eRef <| by
 obtain⟨o,ho,lb,rfl⟩:=S.own _ hm;dsimp only at ho;refine Aj (T' := "set") (id := "set.__contains__") ho rfl rfl (fun c e=>by cases e) F.slot_set_getattribute Uv F.args_set_getattribute_2 F.slot_set_contains.lookup Jk (by decide +kernel) Oc Jn (by rw[f7];kernel_rfl) ?_;have P:=S.toC7.pushZ (o:={ cls:=.type "builtin_function_or_method",data:=.fields #[.builtin "set.__contains__",.ref a]}) rfl (s.toks+1);exact hQ _ _ _ _ _ h (S.after P.1 P.2) (.bm (D3.add_at ..) (.ref a)) P.2.toF
theorem Pw{t:Tok}:MeetsIn C0 w (Builtin.«frozenset.__contains__» ⟨[.ref a,.str x t],[]⟩) (fun O R s=>s.heap.SetOf (a8 C0 w) a (fun O=>false) 0/\R (.ok (.ret (.bool false))) {s with toks:=s.toks+1}) :=
 .of_wp fun A R s ⟨hS,h⟩=>by
  unfold Builtin.«frozenset.__contains__» Builtin.Frozenset.oneOther;simp only[List.isEmpty_nil,bind_assoc];unfold Builtin.Frozenset.addrOf Builtin.Frozenset.withSetAsKey setContains;refine Zq (Zs ?_);try dsimp only
  refine Zq (Zs ?_);try dsimp only
  have M7:(a8 C0 w).is x (.str x t)=true:=by simp[a8,Value.isStrOf]
  refine Zq (wpAny_tryCatch ?_);refine ZF ?_;refine Zq ((a8 C0 w).pyHash M7 ?_);refine Zq (wpAny_setFind_of (s:={ s with toks:=s.toks+1}) M7 rfl hS fun r hr=>?_);refine Zs ?_;show ZS _ _ (ret (Value.bool r.isSome)) _ _ _;exact(Eq.symm (hr))▸Zs ⟨_,rfl,h⟩
theorem th(hm:(a,cn)∈st.led)
  (h:R (.bool false) st):FC C0 w A B C1 (.bm "set.__contains__" (.ref a)) [.str x] [] st R:=fun s Z fx xs ks hf hx p_ S Q E hQ=>by
 cases p_
 refine bW (yC hf) fun O O qv e hs=>?_;subst qv
 (have e_:=hs.inv;subst e_)
 cases hx with
 |cons h2 hx =>
  (have e_:=hx.inv;subst e_)
  (refine aw h2.inv fun t_ e_=>?_;subst e_)
  obtain⟨o,ho,lb,rfl⟩:=S.own _ hm;dsimp only at ho;refine Ak (T' := "set") (id := "set.__contains__") (S.frozen _ _ e) ho rfl (fun c e=>by cases e) (sig:=(Manifest.signature? "set.__contains__").getD ⟨.positional, "", "",.self,[]⟩) @_ @_ (by rw[f7];kernel_rfl) (by decide +kernel) @_ F.slot_set_contains entry_set_contains Pw ⟨?_,?_⟩
  ·exact Xx _ (#[]) 0 _ ho ⟨rfl,rfl,rfl⟩ rfl (fun e he=>by simp at he) (fun k=>by simp) (by decide) (by rfl) rfl
  ·exact hQ _ _ _ Z st h (S.toks _) (.bool false) (.toks _)
theorem Wt{e:Expr}{K:D4->St->Prop}(hi:interactive C1=false)(hs:swapsWith e none pos.line C1=o4 false)
  (h:T C0 w A B C1 Val (k7 e C1) st fun O C4=>K .next C4):T C0 w A B C1 E1 (exec (.Expr e pos) C1) st K:=fun s Z S Q E hQ =>
 wpAny_Expr_any (h s Z S _ _ fun v x s' Z' C4 k S' V X=>hQ _ _ s' Z' C4 k S' .next X) hi hs
theorem Wv{K:D4->St->Prop}(h:K .brk st):T C0 w A B C1 E1 (exec (.Break pos) C1) st K:=fun s Z S Q E hQ=>wpAny_Break (hQ _ _ s Z st h S .brk .refl)
theorem Hx{K:D4->St->Prop}(h:K .cont st):T C0 w A B C1 E1 (exec (.Continue pos) C1) st K:=fun s Z S Q E hQ=>wpAny_Continue (hQ _ _ s Z st h S .cont .refl)
theorem Ii{a b:Int}(hb:b≠0)(hs:b.natAbs<1073741824)(h:K (.int (a.fdiv b)) st):F2 C0 w A B C1 Val (binaryOp .FloorDiv) (.int a) (.int b) st K:=F2.of fun s Z S Q E hQ=>Val.eInt fun O=>Val.eInt fun O=>PyProof.Rows.floordiv_int hb (hQ _ _ _ Z st h (S.toks _) (.int _ _) (.toks _)) (.inl (PyProof.noPylong_small hs))
theorem Upd.app{o o':D9}:∀ {l l':aa},Upd a o o' (l++(a,o)::l') (l++(a,o')::l')
 | [],_ => .here
 |_::l,_ => .there (Upd.app (l:=l))
theorem Upd.append{o o':D9}{l l' r:aa}(u:Upd a o o' l l'):Upd a o o' (l++r) (l'++r):=by
 induction u with
 |here=>exact .here
 |there _ ih=>exact .there ih
theorem TU{K:Type}[DecidableEq K](m:List (K×AV))(k:K)(v:AV)(x:K):aP (ek m k v) x=if x=k then some v else aP m x:=by
 unfold ek;cases hb:(m.any fun kv=>decide (kv.1=k)) with
 |true =>
  rw[if_pos rfl];induction m with
  |nil=>simp at hb
  |cons p r ih =>
   unfold aP at *;rw[ZD,o9,o9];by_cases e:p.1=k
   ·simp only[e,if_true];by_cases q:x=k
    ·subst q;simp
    ·have q' : ¬ (k=x):=fun h=>q h.symm;simp only[q,q',decide_false,if_false];cases hr:(r.any fun kv=>decide (kv.1=k)) with
     |true =>
      have:=ih hr;simp only[q,if_false] at this;exact this
     |false =>
      rw[p9 (g:=id)]
      ·simp
      ·intro y hy
       have:=List.any_eq_false.mp hr y hy;simp only[decide_eq_true_eq] at this;rw[if_neg this];rfl
   ·simp only[e,if_false];by_cases q:p.1=x
    ·have : ¬ (x=k):=fun h=>e (q.trans h);simp[q,this]
    ·simp only[q,decide_false];exact ih (by simpa[e] using hb)
 |false =>
  rw[if_neg d3];unfold aP;rw[List.find?_append];by_cases q:x=k
  ·subst q
   have:List.find? (fun kv:K×AV=>decide (kv.1=x)) m=none:=List.find?_eq_none.mpr fun y hy=>by
    have:=List.any_eq_false.mp hb y hy;exact this
   rw[this];simp
  ·have q' : ¬ (k=x):=fun h=>q h.symm;cases hf:List.find? (fun kv:K×AV=>decide (kv.1=x)) m <;> simp[q,q']
theorem KV.out{K:Type}{k:K}{m:List (K×AV)}{P:List (K×Value)->Prop}(c:∀x r,Val Z v x->KV Z m r->P ((k,x)::r))(kvs:List (K×Value))(h:KV Z ((k,v)::m) kvs):P kvs:=by
 cases h with
 |cons h1 h2=>exact c _ _ h1 h2
theorem KV.recast{K:Type}{Z':D3}(le:D3.le Z Z')(hv:Val Z' (.lst xs) (.ref a)){k:K}{m1 m2:List (K×AV)}:∀ {kvs:List (K×Value)},KV Z (m1++(k,.ref a)::m2) kvs->KV Z' (m1++(k,.lst xs)::m2) kvs:=by
 induction m1 with
 |nil=>exact KV.out (fun x r h1 h2=>h1.inv▸.cons hv (h2.mono le)) _
 |cons p m1 ih=>exact KV.out (k:=p.1) (v:=p.2) (fun x r h1 h2 => .cons (h1.mono le) (ih h2)) _
theorem C7.freeze1{K:Type}[DecidableEq K]{knd:B8 C0 w K}{dj:b0}{k:K}{d1 d2:List (K×AV)}{L:aa}(S:C7 B s Z ((dj,au knd (d1++(k,.ref a)::d2))::(a,.list xs)::L)) :
  ∃Z',C7 B s Z' ((dj,au knd (d1++(k,.lst xs)::d2))::L)/\D3.le Z Z'/\E7 (aj ((dj,au knd (d1++(k,.ref a)::d2))::(a,.list xs)::L)) s Z s Z' (aj ((dj,au knd (d1++(k,.lst xs)::d2))::L)):=by
 have S1:=S.perm (o5 ..);refine jy S1.freeze fun Z1 S2 hv le X=>eF Z1 ⟨S2.base,S2.frozen,S2.nodup,fun p hp=>?_,fun p hp=>?_,S2.gnodup,S2.bare⟩ le (dN (o5 (dj,au knd (d1++(k,.ref a)::d2)) (a,.list xs) L)▸X)
 ·exact(Zy.mp hp).elim (fun e=>e▸S2.apart (dj,au knd (d1++(k,.ref a)::d2)) (Zr ..)) fun h=>S2.apart p (Zt _ h)
 ·refine(Zy.mp hp).elim (fun e=>e▸?_) fun h=>S2.own p (Zt _ h);exact(S.own _ (Zr ..)).imp fun o h=>⟨h.1,h.2.imp fun O h=>h.imp fun O h=>h.imp fun O h=>⟨h.1,h.2.1,h.2.2.1,h.2.2.2.1,h.2.2.2.2.1,h.2.2.2.2.2.recast le hv⟩⟩
theorem C7.freezes{K:Type}[DecidableEq K]{knd:B8 C0 w K}{dj:b0}{led:aa}(X8:List (K×b0×List AV)):∀(done:List (K×AV)) (Z:D3),
  C7 B s Z ((dj,au knd (done++X8.map fun e=>(e.1,.ref e.2.1)))::((X8.map fun e=>(e.2.1,D9.list e.2.2))++led)) ->
  ∃Z',C7 B s Z' ((dj,au knd (done++X8.map fun e=>(e.1,.lst e.2.2)))::led)/\D3.le Z Z' /\
   E7 (aj ((dj,au knd (done++X8.map fun e=>(e.1,.ref e.2.1)))::((X8.map fun e=>(e.2.1,D9.list e.2.2))++led))) s Z s Z' (aj ((dj,au knd (done++X8.map fun e=>(e.1,.lst e.2.2)))::led)):=by
 induction X8 with
 |nil=>exact fun done Z S=>⟨Z,S,.refl _,.refl⟩
 |cons e X8 ih =>
  intro done Z S;refine aU (C7.freeze1 (d1:=done) (k:=e.1) (a:=e.2.1) (xs:=e.2.2) S) fun Z1 S1 le X=>?_;refine aU (ih (done++[(e.1,.lst e.2.2)]) Z1 (by rw[ZW];exact S1)) fun Z' S' le' X'=>?_;rw[ZW] at S';exact eF Z' S' (le.trans le') (X.trans X')
theorem T.freezes{K:Type}[DecidableEq K]{knd:B8 C0 w K}{rel:D3->α->β->Prop}{t:Sem β}{dj:b0}{led:aa}{R:α->St->Prop}(es:List (K×b0×List AV))
  (h:T C0 w A B C1 rel t ⟨loc,(dj,au knd (es.map fun e=>(e.1,.lst e.2.2)))::led⟩ R) :
  T C0 w A B C1 rel t ⟨loc,(dj,au knd (es.map fun e=>(e.1,.ref e.2.1)))::((es.map fun e=>(e.2.1,D9.list e.2.2))++led)⟩ R:=fun s Z S Q E hQ=>by
 refine aU (C7.freezes es [] Z S.toC7) fun Z' S' le X=>?_;exact h s Z' (S.after S' X) Q E fun v x s' J9 C4 k J1 V' X'=>hQ v x s' J9 C4 k J1 V' ((X.toF (st:=⟨loc,_⟩)).trans X')
noncomputable def cB(b:List Str)(k:Str):List Nat:=(List.range b.length).filter fun j=>b[j]?==some k
noncomputable def kh(b:List Str)(k:Str):Bool:=decide (200<=b.length)&&decide (b.length / 100+1<(cB b k).length)
noncomputable def bq(b:List Str)(k:Str):List Nat:=if kh b k then [] else cB b k
noncomputable def dC:List (Str×List Nat)->Str->Nat->List (Str×List Nat)
 | [],k,i=>[(k,[i])]
 |(x,js)::r,k,i=>if x=k then (x,js++[i])::r else (x,js)::dC r k i
theorem sS{k:Str}{js:List Nat}{r:List (Str×List Nat)}:dC ((x,js)::r) k i=if x=k then (x,js++[i])::r else (x,js)::dC r k i:=rfl
noncomputable def dY:List (Str×List Nat)->Nat->List Str->List (Str×List Nat)
 |t,_,[]=>t
 |t,i,x::xs=>dY (dC t x i) (i+1) xs
noncomputable def fE(t:List (Str×List Nat))(k:Str):Option (List Nat):=(t.find? fun e=>e.1=k).map (·.2)
theorem Qp(k:Str)(i:Nat)(x:Str):∀t,fE (dC t k i) x=if x=k then some ((fE t k).getD []++[i]) else fE t x:=by
 intro t_;induction t_ with
 |nil =>
  show fE [(k,[i])] x=_;unfold fE;by_cases e:x=k
  ·subst e;simp
  ·have : ¬ k=x:=fun h=>e h.symm;simp[e,this]
 |cons e_ r ih =>
  obtain⟨y,js⟩:=e_;rw[sS];by_cases q:y=k
  ·rw[if_pos q];subst q;unfold fE;by_cases e:x=y
   ·subst e;simp
   ·have : ¬ y=x:=fun h=>e h.symm;simp[e,this]
  ·rw[if_neg q];unfold fE at *;by_cases e:y=x
   ·have : ¬ x=k:=fun h=>q (e.trans h);simp[e,this]
   ·rw[List.find?_cons_of_neg (by simpa using e),ih];by_cases z:x=k
    ·rw[if_pos z,if_pos z,List.find?_cons_of_neg (by simpa using q)]
    ·rw[if_neg z,if_neg z,List.find?_cons_of_neg (by simpa using e)]
theorem RU(b:List Str)(x k:Str):cB (b++[x]) k=if x=k then cB b k++[b.length] else cB b k:=by
 unfold cB;rw[ZA,r8,List.range_succ,List.filter_append];have h1:(List.range b.length).filter (fun j=>(b++[x])[j]?==some k)=(List.range b.length).filter (fun j=>b[j]?==some k):=List.filter_congr fun j hj=>by
  rw[List.getElem?_append_left (List.mem_range.mp hj)]
 rw[h1];by_cases e:x=k
 ·subst e;simp
 ·simp[e]
theorem RV(k:Str):cB [] k=[]:=rfl
def I7(t:List (Str×List Nat))(b:List Str):Prop:=∀k,fE t k=if cB b k=[] then none else some (cB b k)
theorem I7.nil:I7 [] []:=fun k=>by rw[RV];rfl
theorem I7.add{t:List (Str×List Nat)}{b:List Str}(h:I7 t b)(x:Str):I7 (dC t x b.length) (b++[x]):=fun k=>by
 rw[Qp,RU];by_cases e:k=x
 ·subst e;rw[if_pos rfl,if_pos rfl,h k,if_neg (List.append_ne_nil_of_right_ne_nil _ (List.cons_ne_nil _ _))];by_cases q:cB b k=[]
  ·rw[if_pos q,q];rfl
  ·rw[if_neg q];rfl
 ·have : ¬ x=k:=fun q=>e q.symm;rw[if_neg e,if_neg this];exact h k
theorem I7.chain:∀(xs:List Str) {t:List (Str×List Nat)} {b:List Str},I7 t b->I7 (dY t b.length xs) (b++xs)
 | [],t,b,h=>by rw[g7];exact h
 |x::xs,t,b,h=>by
  have:=I7.chain xs (h.add x);rw[ZA,ZW] at this;exact this
theorem Hq(k:Str)(i:Nat):∀t,(dC t k i).length<=t.length+1
 | []=>ZZ _
 |(y,js)::r=>by
  rw[sS];split
  ·simp
  ·have:=Hq k i r;simp only[Zz];omega
theorem GR:∀(xs:List Str) (t:List (Str×List Nat)) (i:Nat),(dY t i xs).length<=t.length+xs.length
 | [],_,_=>ZZ _
 |x::xs,t,i=>by
  have h1:=GR xs (dC t x i) (i+1);have h2:=Hq x i t;rw[Zz];show (dY (dC t x i) (i+1) xs).length<=_;omega
noncomputable abbrev ab:=Nat×Nat×Nat
noncomputable def dl(D:Int->Nat)(i:Nat)(s:(Int->Nat)×ab)(j:Nat):(Int->Nat)×ab :=
 (fun x=>if x=(j:Int) then D ((j:Int)-1)+1 else s.1 x,if s.2.2.2<D ((j:Int)-1)+1 then (i-D ((j:Int)-1),j-D ((j:Int)-1),D ((j:Int)-1)+1) else s.2)
noncomputable def within(C8 C9:Nat)(js:List Nat):List Nat:=js.filter fun j=>decide (C8<=j)&&decide (j<C9)
noncomputable def fA(js:List Nat)(C8 C9 i:Nat)(s:(Int->Nat)×ab):(Int->Nat)×ab:=(within C8 C9 js).foldl (dl s.1 i) (fun O=>0,s.2)
noncomputable def en(idx:Nat->List Nat)(C8 C9:Nat)(is:List Nat)(s:(Int->Nat)×ab):(Int->Nat)×ab:=is.foldl (fun s i=>fA (idx i) C8 C9 i s) s
noncomputable def bO(e:Nat->Nat->Bool)(alo C8:Nat):Nat->Nat->Nat->ab
 |i+1,j+1,k=>if decide (alo<i+1)&&(decide (C8<j+1)&&e i j) then bO e alo C8 i j (k+1) else (i+1,j+1,k)
 |i,j,k=>(i,j,k)
noncomputable def cI(e:Nat->Nat->Bool)(D1 C9 i j:Nat):Nat->Nat->Nat
 |0,k=>k
 |f+1,k=>if decide (i+k<D1)&&(decide (j+k<C9)&&e (i+k) (j+k)) then cI e D1 C9 i j f (k+1) else k
noncomputable def bZ(e:Nat->Nat->Bool)(idx:Nat->List Nat)(alo D1 C8 C9:Nat):ab :=
 let s:=(en idx C8 C9 (g9 alo (D1-alo)) (fun O=>0,(alo,C8,0))).2
 let u:=bO e alo C8 s.1 s.2.1 s.2.2
 (u.1,u.2.1,cI e D1 C9 u.1 u.2.1 (D1-(u.1+u.2.2)) u.2.2)
theorem Kw:Slot "dict" Mh "dict.setdefault" := by
 rw[show (Mh:Str)=Zw "setdefault" from by decide +kernel];exact F.slot_dict_setdefault
theorem Kz:Slot "dict" LZ "dict.get" := by
 rw[show (LZ:Str)=Zw "get" from by decide +kernel];exact F.slot_dict_get
theorem Ky:Slot "dict" Mc "dict.items" := by
 rw[show (Mc:Str)=Zw "items" from by decide +kernel];exact F.slot_dict_items
theorem jH:Slot "list" Mg "list.append" := by
 rw[show (Mg:Str)=Zw "append" from by decide +kernel];exact F.slot_list_append
theorem Kx:Slot "list" Ml "list.pop" := by
 rw[show (Ml:Str)=Zw "pop" from by decide +kernel];exact F.slot_list_pop
theorem Kv:Slot "list" ND "list.sort" := by
 rw[show (ND:Str)=Zw "sort" from by decide +kernel];exact F.slot_list_sort
theorem Bj:Slot "list" MA "list.extend" := by
 rw[show (MA:Str)=Zw "extend" from by decide +kernel];exact F.slot_list_extend
theorem Upd.skip{o o':D9}{l l':aa}(u:Upd a o o' l l'):∀ {r:aa},Upd a o o' (r++l) (r++l')
 | []=>u
 |_::r => .there (Upd.skip u (r:=r))
theorem lE{K:Type}[DecidableEq K]{knd:B8 C0 w K}{m:List (K×AV)}{led:aa}(hm:(d,au knd m)∈led):eb B (.ref d) led "dict" := fun s Z u V S=>by
 (have e_:=V.inv;subst e_)
 refine ae (S.own _ hm) fun o ho h_=>eh h_ fun es ep kvs hex O O O O O=>?_;exact⟨⟨_,ho,hex.1⟩,fun b e=>by cases e;exact bB _ ho hex.2.1⟩
noncomputable abbrev bH:=List (Str×b0×List AV)
noncomputable def cX(js:List Nat):List AV:=js.map fun(j:Nat)=>AV.int (j:Int)
noncomputable def dX(t:List (Str×List Nat)):List (Str×List AV):=t.map fun e=>(e.1,cX e.2)
noncomputable def cP(es:bH):List (Str×List AV):=es.map fun e=>(e.1,e.2.2)
noncomputable def dZ:List (Str×List AV)->Str->AV->List (Str×List AV)
 | [],k,i=>[(k,[i])]
 |(x,js)::r,k,i=>if x=k then (x,js++[i])::r else (x,js)::dZ r k i
theorem sT{k:Str}{js:List AV}{i:AV}{r:List (Str×List AV)}:dZ ((x,js)::r) k i=if x=k then (x,js++[i])::r else (x,js)::dZ r k i:=rfl
theorem Gu(k:Str)(i:Nat):∀t,dX (dC t k i)=dZ (dX t) k (.int i)
 | []=>rfl
 |(x,js)::r=>by
  rw[sS];show dX (if x=k then _ else _)=dZ ((x,cX js)::dX r) k (.int i);rw[sT];by_cases e:x=k
  ·rw[if_pos e,if_pos e];simp[dX,cX]
  ·rw[if_neg e,if_neg e,← Gu k i r];rfl
theorem Hu{k:Str}{js:List AV}:∀ {H9 M2:bH},(∀e∈H9,e.1≠k)->dZ (cP (H9++(k,a,js)::M2)) k v=cP (H9++(k,a,js++[v])::M2)
 | [],M2,_=>by
  show dZ ((k,js)::cP M2) k v=_;rw[sT];rw[if_pos rfl];rfl
 |e::H9,M2,h=>by
  show dZ ((e.1,e.2.2)::cP (H9++(k,a,js)::M2)) k v=_;rw[sT];rw[if_neg (h e (Zr ..)),Hu fun e' h'=>h e' (Zt _ h')];rfl
theorem Ht{k:Str}:∀ {es:bH},(∀e∈es,e.1≠k)->dZ (cP es) k v=cP (es++[(k,a,[v])])
 | [],_=>rfl
 |e::es,h=>by
  show dZ ((e.1,e.2.2)::cP es) k v=_;rw[sT];rw[if_neg (h e (Zr ..)),Ht fun e' h'=>h e' (Zt _ h')];rfl
noncomputable def dd(es:bH):List (Str×AV):=es.map fun e=>(e.1,.ref e.2.1)
noncomputable def ev(es:bH):aa:=es.map fun e=>(e.2.1,D9.list e.2.2)
theorem TV{k:Str}:∀ {es:bH},aP (dd es) k=some v->∃H9 a js M2,es=H9++(k,a,js)::M2/\v=.ref a/\∀e∈H9,e.1≠k:=by
 intro t_;induction t_ with
 |nil =>
  intro h;cases h
 |cons e_ es ih =>
  obtain⟨x,a,js⟩:=e_;intro h;unfold aP dd at h;rw[ZD,o9] at h;by_cases e:x=k
  ·simp only[e,decide_true,B3,l8] at h;exact il [] a js es (by rw[e];rfl) h.symm (fun O h=>by cases h)
  ·simp only[e,decide_false] at h;refine dq (ih (show aP (dd es) k=some v from h)) fun H9 a' js' M2 O5 O6 h'=>?_;subst O5;subst O6;exact⟨(x,a,js)::H9,a',js',M2,rfl,rfl,fun e' he=>by
    rcases Zy.mp he with rfl |he
    ·exact e
    ·exact h' e' he⟩
theorem TW{k:Str}{es:bH}(h:aP (dd es) k=none):∀e∈es,e.1≠k:=fun e he q=>by
 unfold aP dd at h;rw[Option.map_eq_none_iff,List.find?_eq_none] at h;exact h (e.1,.ref e.2.1) (ZO he) (by simpa using q)
theorem Hp(k:Str)(i:Nat):∀ {t:List (Str×List Nat)},(∀e∈t,e.2.length<=n)->∀e∈dC t k i,e.2.length<=n+1
 | [],_,e,he=>by
  rw[ZK.mp he];exact Nat.succ_le_succ (ZM _)
 |(x,js)::r,h,e,he=>by
  rw[sS] at he;split at he
  ·rcases Zy.mp he with rfl |he
   ·have:=h (x,js) (Zr ..);simp only[ZA,r8] at this ⊢;omega
   ·exact Nat.le_succ_of_le (h e (Zt _ he))
  ·rcases Zy.mp he with rfl |he
   ·exact Nat.le_succ_of_le (h (x,js) (Zr ..))
   ·exact Hp k i (fun e' h'=>h e' (Zt _ h')) e he
theorem GQ:∀(xs:List Str) (t:List (Str×List Nat)) (i n:Nat),(∀e∈t,e.2.length<=n)->∀e∈dY t i xs,e.2.length<=n+xs.length
 | [],_,_,_,h,e,he=>h e he
 |x::xs,t,i,n,h,e,he=>by
  have:=GQ xs (dC t x i) (i+1) (n+1) (Hp x i h) e he;rw[Zz];omega
theorem GP(y:Str):∀(xs:List Str) (t:List (Str×List Nat)) (i:Nat),dY t i (xs++[y])=dC (dY t i xs) y (i+xs.length)
 | [],_,_=>rfl
 |x::xs,t,i=>(GP y xs (dC t x i) (i+1)).trans (congrArg (dC _ y) (by rw[Zz,Nat.add_assoc,Nat.add_comm 1]))
noncomputable def bw(es:bH):List (Str×AV):=es.map fun e=>(e.1,.lst e.2.2)
theorem Gh{es:bH}{t:List (Str×List Nat)}(h:cP es=dX t)(k:Str):aP (bw es) k=(fE t k).map fun js => .lst (cX js):=by
 have e:bw es=(dX t).map fun e=>(e.1,AV.lst e.2):=by rw[← h];simp[bw,cP]
 rw[e];clear h e;induction t with
 |nil=>rfl
 |cons p r ih =>
  obtain⟨x,js⟩:=p;unfold aP fE dX at *;rw[ZD,ZD,o9,o9];by_cases q:x=k
  ·simp[q]
  ·simp only[q,decide_false];exact ih
theorem TZ{es:bH}{b:List Str}(h:cP es=dX (dY [] 0 b))(hb:b.length<200)(k:Str):(aP (bw es) k).getD (.lst [])=.lst (cX (bq b k)):=by
 have hT:I7 (dY [] 0 b) b:=by simpa using I7.chain b I7.nil
 have hp:kh b k=false:=by unfold kh;simp[Nat.not_le.mpr hb]
 rw[Gh h,hT k];unfold bq;rw[hp];by_cases q:cB b k=[]
 ·rw[if_pos q,q];rfl
 ·rw[if_neg q];rfl
def FT(C0:ZJ)(w:ZQ)(A:ZI)(B:D3)(C1:Env)(elts:List Expr)(vs:List AV)(st:St)(K:Unit->St->Prop):Prop:=FA C0 w A B C1 (elts.map fun e=>m0 e C1) vs st K
theorem XD{K:Unit->St->Prop}(h:K () st):FT C0 w A B C1 [] [] st K:=zS h
theorem XE{t:Expr}{ts:List Expr}{vs:List AV}{K:Unit->St->Prop}(h:F1 C0 w A B C1 aS (m0 t C1) v st fun O C4=>FT C0 w A B C1 ts vs C4 K):FT C0 w A B C1 (t::ts) (v::vs) st K:=Ig h
theorem dK{x1:Nat}{vs:List AV}{K:Unit->St->Prop}(hh:A.handled=none)(he:(n6 elts C1).map (·.2)=elts.map fun e=>m0 e C1)(hn:elts.length=vs.length)(M4:(n6 elts C1).findIdx? (·.1)=none)
  (h:FT C0 w A B C1 elts vs st K):F1 C0 w A B C1 aS (m0 (.Tuple elts x1 pos) C1) (.tup vs) st K :=
 Zc hh (by rw[← hn,← Zu (f:=(·.2)) (as:=n6 elts C1),he,Zu]) M4 (by exact(Eq.symm (he))▸h)
section
variable{led led':aa}
theorem zE{K:Type}[DecidableEq K]{knd:B8 C0 w K}(h:∀d,d∉keys led->B d=none->R (.ref d) ⟨loc,(d,au knd [])::led⟩):T C0 w A B C1 Val (k7 (.Dict [] [] pos) C1) ⟨loc,led⟩ R:=fun s Z S Q E hQ=>by
 have P:=S.toC7.push (o:={ cls:=.type "dict",data:=.dict #[]}) (ao:=au knd []) rfl s.toks (ib (Heap.DictOf.new s.heap) .nil);have hB:B s.heap.objs.size=none:=by
  cases e:B s.heap.objs.size with
  |none=>rfl
  |some o=>have:=S.base _ _ e;rw[S.toC7.zfresh] at this;cases this
 have hq:=hQ _ _ _ _ _ (h _ S.toC7.lfresh hB) (S.after P.1 P.2) (.ref _) P.2.toF;rw[eval_Dict_empty];exact Zq (a9 (Zq (wpAny_alloc (Zs hq))))
theorem cR(hs:spliced (u5 pos (f0 [] C1))=spliced [])(h:∀a,a∉keys led->R (.ref a) ⟨loc,(a,.list [])::led⟩):T C0 w A B C1 Val (k7 (.List [] pos) C1) ⟨loc,led⟩ R :=
 jq (sW ⟨by decide,h⟩)
theorem dn(U:Upd a (.list xs) (.list (xs++[v])) led led')(hsz:xs.length<=c9)(h:K .none ⟨loc,led'⟩) :
  FC C0 w A B C1 (.blt "list.append") [.ref a,v] [] ⟨loc,led⟩ K:=zR hsz U h
theorem XL(h:∀a,a∉keys led->R (.ref a) ⟨loc,(a,cn)::led⟩):FC C0 w A B C1 (.typ "set") [] [] ⟨loc,led⟩ R:=XM h
theorem XI{K:Type}[DecidableEq K]{knd:B8 C0 w K}{m:List (K×AV)}{u:AV}{k:K}(U:Upd d (au knd m) (au knd (m++[(k,u)])) led led')(L4:(d==p8)=false)(hk:∀Z x,Val Z v x->knd.is k x=true)(hsz:m.length<=c9)
  (h1:∀x,aP m k=some x->R x ⟨loc,led⟩) (h2:aP m k=none->R u ⟨loc,led'⟩) :
  FC C0 w A B C1 (.blt "dict.setdefault") [.ref d,v,u] [] ⟨loc,led⟩ R:=XJ L4 hk hsz U h1 h2
end
theorem ef{K:Frag}{m m':List (Str×AV)}{led led':aa}{R:Unit->St->Prop}(ok:U1 K C)(ht:takerIn K C name=some none)
  (U:Upd d (bh m) (bh m') led led') (hm:cL m name v=m') (hsz:m'.length<=1000) (h:R () ⟨loc,led'⟩):F2 C0 w A (am K) C1 aS (fun x y=>setAttr x name y) (.inst C d) v ⟨loc,led⟩ R:=Ik ok ht hm hsz U h
section
variable{led led':aa}
def Q1(l l':aa):Prop:=∃r,l.Perm (r++l')
theorem Q1.refl(l:aa):Q1 l l:=⟨[],.refl _⟩
theorem Q1.drop{p:b0×D9}{l:aa}:Q1 (p::l) l:=⟨[p],.refl _⟩
theorem Q1.perm{l l':aa}(h:l.Perm l'):Q1 l l':=⟨[],h⟩
theorem D7.weak{l l':aa}(S:D7 B C1 s Z ⟨loc,l⟩)(h:Q1 l l'):D7 B C1 s Z ⟨loc,l'⟩:=by
 obtain⟨r,p⟩:=h;exact(S.perm p).drop
theorem E7.weakF{o:i_}{s':Zx}{Z':D3}{l l':aa}(X:E7 o s Z s' Z' (aC C1 ⟨loc,l⟩))(h:Q1 l l'):E7 o s Z s' Z' (aC C1 ⟨loc,l'⟩):=by
 obtain⟨r,p⟩:=h;rw[er (C1:=C1) (loc:=loc) (D8:=loc) p] at X;exact E7.dropF X
theorem FC.weak{f:AV}{K0:AV->St->Prop}(h:FC C0 w A B C1 f args kw st K0)(hw:∀v D8 l,K0 v ⟨D8,l⟩->∃l',Q1 l l'/\K v ⟨D8,l'⟩):FC C0 w A B C1 f args kw st K :=
 fun s Z fx xs ks hf hx hk S Q E hQ=>h s Z fx xs ks hf hx hk S Q E fun v x s' Z' C4 k S' V X=>by
  obtain⟨l',hl,k'⟩:=hw v C4.loc C4.led k;exact hQ v x s' Z' _ k' (D7.weak (loc:=C4.loc) (l:=C4.led) S' hl) V (E7.weakF (loc:=C4.loc) (l:=C4.led) X hl)
theorem T.weakPost{rel:D3->α->β->Prop}{t:Sem β}{K K0:α->St->Prop}(h:T C0 w A B C1 rel t st K0)(hw:∀v D8 l,K0 v ⟨D8,l⟩->∃l',Q1 l l'/\K v ⟨D8,l'⟩):T C0 w A B C1 rel t st K :=
 fun s Z S Q E hQ=>h s Z S Q E fun v x s' Z' C4 k S' V X=>by
  obtain⟨l',hl,k'⟩:=hw v C4.loc C4.led k;exact hQ v x s' Z' _ k' (D7.weak (loc:=C4.loc) (l:=C4.led) S' hl) V (E7.weakF (loc:=C4.loc) (l:=C4.led) X hl)
theorem XH{dj:b0}{es:bH}{rest:aa}(L4:(dj==p8)=false)(hsz:es.length<=c9)
  (h:∀H9 a' js M2,(∀v,dZ (cP es) y v=cP (H9++(y,a',js++[v])::M2))->R (.ref a') ⟨loc,(dj,au (a8 C0 w) (dd (H9++(y,a',js)::M2)))::(ev H9++(a',.list js)::(ev M2++rest))⟩) :
  FC C0 w A B C1 (.blt "dict.setdefault") [.ref dj,.str y,.ref a] [] ⟨loc,(a,.list [])::(dj,au (a8 C0 w) (dd es))::(ev es++rest)⟩ R:=by
 refine(XI (knd:=a8 C0 w) (k:=y) (m:=dd es) (led':=(a,.list [])::(dj,au (a8 C0 w) (dd es++[(y,.ref a)]))::(ev es++rest)) (R:=fun v C4=>∃l',Q1 C4.led l'/\R v ⟨C4.loc,l'⟩) (.there .here) L4 (sd y) (by unfold dd;rw[Zu];exact hsz) (fun v hv=>?_) fun hv=>?_).weak fun v D8 l k=>k
 ·obtain⟨H9,a',js,M2,rfl,rfl,I3⟩:=TV hv;refine⟨_,.drop,?_⟩
  have:=h H9 a' js M2 fun v=>Hu I3;simpa[ev] using this
 ·have I3:=TW hv;refine⟨(dj,au (a8 C0 w) (dd (es++[(y,a,[])])))::(ev es++(a,.list [])::(ev []++rest)),.perm ?_,h es a [] [] fun v=>Ht I3⟩;have e:dd (es++[(y,a,[])])=dd es++[(y,.ref a)]:=by simp[dd]
  rw[e];refine(o5 ..).trans (.cons _ ?_);show List.Perm ((a,D9.list [])::(ev es++rest)) (ev es++(a,D9.list [])::rest);exact n0.symm
end
theorem C7.weak{l l':aa}(S:C7 B s Z l)(h:Q1 l l'):C7 B s Z l':=by
 obtain⟨r,p⟩:=h;exact(S.perm p).drop
theorem E7.weakL{o:i_}{s':Zx}{Z':D3}{l l':aa}(X:E7 o s Z s' Z' (aj l))(h:Q1 l l'):E7 o s Z s' Z' (aj l'):=by
 obtain⟨r,p⟩:=h;rw[dN p] at X;refine X.less (fun a h=>?_) fun a h=>?_
 ·show a∈keys (r++l');rw[keys,ZT];exact ZY _ h
 ·show a∈gkeys (r++l');unfold gkeys;rw[u9];exact ZY _ h
theorem TC.weak{f:AV}{led:aa}{K:AV->aa->Prop}(h:TC C0 w A B f args kw led fun v l=>∃l',Q1 l l'/\K v l'):TC C0 w A B f args kw led K :=
 fun s Z fx xs ks S hf hx hk R hR=>h s Z fx xs ks S hf hx hk R fun v x s' Z' led' k S' V X=>by
  obtain⟨l',hl,k'⟩:=k;exact hR v x s' Z' l' k' (S'.weak hl) V (X.weakL hl)
theorem TC.mono{f:AV}{led:aa}{K K':AV->aa->Prop}(h:TC C0 w A B f args kw led K)(hk:∀v l,K v l->K' v l):TC C0 w A B f args kw led K' :=
 fun s Z fx xs ks S hf hx p_ R hR=>h s Z fx xs ks S hf hx p_ R fun v x s' Z' led' k S' V X=>hR v x s' Z' led' (hk _ _ k) S' V X
theorem gD{f:AV}{led:aa}{K0:AV->aa->Prop}(h:TC C0 w A B f args kw led K0)(hk:∀v led',K0 v led'->K v ⟨loc,led'⟩):FC C0 w A B C1 f args kw ⟨loc,led⟩ K :=
 zL (h.mono hk)
theorem Rg{K:Frag}{f:b0}{k:Keeper}(e:f1 K ⟨C0,w.params⟩ (keeperOf (.ref f))=some k):fS C0 w (am K) (.ref f):=fun A s Z fx V le fr Q E hQ=>by
 (have e_:=V.inv;subst e_)
 exact y5 (M:=ZP C0 w) (dg le fr) e A Q E s (fun b o e=>e) (hQ k)
theorem bS{K:Frag}{f:b0}(e:(f1 K ⟨C0,w.params⟩ (keeperOf (.ref f))).isSome=true):fS C0 w (am K) (.ref f):=by
 obtain⟨k,e⟩:=Option.isSome_iff_exists.mp e;exact Rg e
theorem Yn{K:Type}[DecidableEq K]{knd:B8 C0 w K}{m:List (K×AV)}{u:AV}{k:K}{led led':aa}{R:Unit->St->Prop}(U:Upd d (au knd m) (au knd (ek m k u)) led led')
  (hk:∀Z x,Val Z v x->knd.is k x=true) (hsz:m.length<=c9) (h:R () ⟨loc,led'⟩):F3 C0 w A B C1 setItem (.ref d) v u ⟨loc,led⟩ R:=Yo hk hsz rfl U h
theorem TC.perm{f:AV}{l l':aa}{K:AV->aa->Prop}(p:l.Perm l')(h:TC C0 w A B f args kw l' K):TC C0 w A B f args kw l K :=
 fun s Z fx xs ks S hf hx hk R hR=>h s Z fx xs ks (S.perm p) hf hx hk R fun v x s' Z' led' k S' V X=>hR v x s' Z' led' k S' V (by exact(Eq.symm (dN p))▸X)
theorem XN{f:AV}{led I1:aa}{K0:AV->Prop}(p:led.Perm I1)(h:TC C0 w A B f args kw I1 fun v l=>K0 v/\l=I1)(hk:∀v,K0 v->K v ⟨loc,led⟩):FC C0 w A B C1 f args kw ⟨loc,led⟩ K :=
 FC.weak (K0:=fun v C4=>K0 v/\C4=⟨loc,I1⟩) (zL ((TC.perm p h).mono fun v l h'=>⟨h'.1,by rw[h'.2]⟩)) fun v D8 l h'=>by
  obtain⟨h1,h2⟩:=h';cases h2
  exact⟨led,.perm p.symm,hk v h1⟩
theorem Wx{t u r:Expr}{R:D4->St->Prop}(hs:swapsWithSole [t,u,r] value pos.line C1=o4 false)(hw:swappedStores [t,u,r] value C1=o4 none)(he:n6 [t,u,r] C1=[(false,m0 t C1),(false,m0 u C1),(false,m0 r C1)])
  (h:T C0 w A B C1 Val (k7 value C1) st fun v E5=>F1 C0 w A B C1 aS (m0 t C1) v E5 fun O F9=>F1 C0 w A B C1 aS (m0 u C1) v F9 fun O J2=>F1 C0 w A B C1 aS (m0 r C1) v J2 fun O N5=>R .next N5):T C0 w A B C1 E1 (exec (.Assign [t,u,r] value pos) C1) st R :=
 zw hs hw (by
  exact(Eq.symm (he))▸h.mono fun v C4 k=>zZ (fun s Z x V S Q E hQ=>k s Z x V S Q E fun v' x' s' Z' C4 k'=>hQ v' x' s' Z' C4 (zZ k')))
section
variable{K:Frag}
theorem cN{t:Sem α}{a:α}{Q:α->Zx->Prop}(X:K.In s.heap)(e:f1 K ⟨C0,w.params⟩ t=some a)(h:Q a s):ZS (ZP C0 w) A t Q E s :=
 y5 (M:=ZP C0 w) X e A Q E s (fun b o e=>e) h
structure υ (C0:ZJ) (w:ZQ) (K:Frag) (C:b0):Prop where
 isT:f1 K ⟨C0,w.params⟩ (isType (.ref C))=some true
 sub:f1 K ⟨C0,w.params⟩ (y8 (.ref C) (.type "tuple"))=some true
 here:f1 K ⟨C0,w.params⟩ (Bind.madeHere "tuple.__new__" (.ref C))=some ()
 ini:f1 K ⟨C0,w.params⟩ (k8 (.ref C) "__init__")=some (some (.builtin "object.__init__"))
 del:f1 K ⟨C0,w.params⟩ (classHasDel C)=some false
theorem Lu{t:b0}{items:Array Value}{P:PySem.Fin->Zx->Prop}(ok:υ C0 w K C)(X:K.In s.heap)(ho:s.heap.get? t=some o)(hc:o.cls=.type "tuple")(hd:o.data=.seq items n)(hsz:items.size<=c9)
  (h:∀h':Heap,(∀b o',s.heap.get? b=some o'->h'.get? b=some o')->P (.done (.ret (.ref (h'.objs.size+1)))) {s with heap:=(h'.push {cls:=.type "dict",data:=.dict #[]}).push {cls:=.ref C,dict:=some h'.objs.size,data:=.seq items} }) :
  ZS (ZP C0 w) A (Builtin.«tuple.__new__» ⟨[.ref C,.ref t],[]⟩) P E s:=by
 unfold Builtin.«tuple.__new__»;refine Zq (cN X ok.isT ?_);refine g8 rfl ?_;refine Zq (cN X ok.sub ?_);refine g8 rfl ?_;refine Zq (cN X ok.here ?_);refine Zq (cN X ok.ini ?_);refine KFB.if_so (by decide +kernel) ?_;refine Zq (f9 (a:=()) rfl ?_);refine Zq (f9 (a:=()) @_ ?_);refine g8 rfl ?_;refine Zq (wpAny_collect_seq t (.inr rfl) ho hc hd (fun h' hk=>?_) hsz);refine Zq (Zs ?_);refine Zq (wpAny_alloc ?_);refine Zq ?_;unfold newObj;dsimp only;refine cS (by simpa using Nat.not_lt.mpr hsz) ?_;unfold newObjAsIs;refine Zq (wpAny_alloc ?_);dsimp only;have X':K.In ((h'.push {cls:=.type "dict",data:=.dict #[]}).push {cls:=.ref C,dict:=some h'.objs.size,data:=.seq items}):=fun a o e=>ZC _ (ZC _ (hk a o (X a o e)));have e1:(h'.push {cls:=.type "dict",data:=.dict #[]}).objs.size=h'.objs.size+1:=z5 ..;have fin:=h h' hk;rw[← e1] at fin;refine Zq (cN (K:=K) (by simpa using X') ok.del ?_);refine g8 rfl ?_;refine Zs ?_;refine Zs ?_;simpa using fin
end
section
variable{K:Frag}
theorem SV{T' id:String}{pl:Sem Bool}{Q:Value×List Value->Zx->Prop}(X:K.In s.heap)(J8:Manifest.isStub T'=false)(R_:typeOf (.type T')=o4 (.type "type"))
  (hg:findIn K (.type "type") "__getattribute__" = some (some (.builtin "type.__getattribute__"))) (L6:subIn K (.type "type") (.type "type")=some true)
  (e:findCls K (.type T') (.type "type") name=some (.val (.builtin id))) (hh:handedOut (.builtin id)=o4 (.builtin id)) (h:Q (.builtin id,[]) {s with toks:=s.toks+1}):ZS (ZP C0 w) A (getMethod (.type T') name pl) Q E s:=by
 have đ:opaqueClassAbove (.type T')=o4 none:=by unfold opaqueClassAbove;dsimp only;rw[J8];rfl
 have L0:Looks (ZP C0 w) s.heap (typeOf (.type T')) (.type "type"):=Looks.of_pure R_;unfold getMethod specialOf;refine Zq (Zq (L0.here ((looks_findIn X hg).here ?_)));dsimp only;rw[if_pos canon_tga];refine Zq (e9 (Q:=fun v=>Q (v,[])) (E:=E) ?_ (fun O O z=>Zs z) fun O O z=>z);have LO:Looks (ZP C0 w) s.heap (opaqueClassAbove (.type T')) none:=Looks.of_pure đ;refine cls_open X LO L0 hg (looks_hook X (r:=none) (by rfl)) L6 e ?_;refine Zs ?_;show ZS _ _ (handedOut (.builtin id)) _ _ _;rw[hh];exact Zs h
theorem HH{o:Expr}{O0:Pos}{args:List Expr}{T' id:String}
  (M9:attributeBase o name C1 (k7 o C1)=k7 o C1)
  (u_:((u5 pos (f0 args C1)).all (fun x => !x.1)&&(backToKw pos (keywordEach [] C1)).all (fun x=>x.1.isSome)
   && decide (args.length+([]:List Keyword).length+(if ([]:List Keyword).isEmpty then 0 else 1)<30))=true)
  (M6:(O0.endLine==pos.line)=true) (J8:Manifest.isStub T'=false) (R_:typeOf (.type T')=o4 (.type "type"))
  (hg:findIn K (.type "type") "__getattribute__" = some (some (.builtin "type.__getattribute__"))) (L6:subIn K (.type "type") (.type "type")=some true)
  (e:findCls K (.type T') (.type "type") name=some (.val (.builtin id))) (hh:handedOut (.builtin id)=o4 (.builtin id))
  (h:T C0 w A (am K) C1 Val (k7 o C1) st fun v E5=>v=.typ T'/\CA C0 w A (am K) C1 pos (.blt id) [] args E5 R) :
  T C0 w A (am K) C1 Val (k7 (.Call (.Attribute o name O0) args [] pos) C1) st R:=fun s Z S Q E hQ=>by
 rw[arm_eval_Call,M9];refine Zq (h s Z S _ _ fun v x s₁ Z1 E5 k₁ S1 V1 X1=>Zq (a9 ?_));obtain⟨rfl,hc⟩:=k₁
 (have e_:=V1.inv;subst e_)
 have ε:methodCallForm (args.length+([]:List Keyword).length) (u5 pos (f0 args C1)) (backToKw pos (keywordEach [] C1))=true:=u_;have Þ:methodCallPos true o C1 O0 pos=o4 pos:=by unfold methodCallPos;simp[M6]
 unfold methodCall;rw[ε];refine Zq (ZF (SV (K:=K) (dg S1.base S1.frozen) J8 R_ hg L6 e hh ?_));refine Zq (f9 Þ ?_);exact hc _ Z1 (.builtin id) [] (.blt id) .nil (S1.toks _) _ _ fun v y s' Z' C4 k S' V X=>hQ v y s' Z' C4 k S' V ((X1.trans (.toks _)).trans X)
theorem HZ(ok:υ C0 w K C)(hsz:xs.length<=c9)(ì:∀x,f1 K ⟨C0,w.params⟩ (checkBuiltinCall "tuple.__new__" ⟨[.ref C,x],[]⟩)=some ())(h:R (.mat C xs) st) :
  FC C0 w A (am K) C1 (.blt "tuple.__new__") [.ref C,.tup xs] [] st R:=FC.b fun s Z S Q E hQ=>Vals.un <| Val.eRef <| Vals.un <| fun O h2=>Vals.un0 <| by
 refine bv (kP h2) fun a items n qv e hv=>?_;subst qv;refine t8 (p6 (b:=Builtin.«tuple.__new__») (by decide +kernel) (s8 @_) (cN (dg S.base S.frozen) (ì _) ?_));refine Lu (items:=items.toArray) ok (dg S.base S.frozen) (S.frozen _ _ e) rfl rfl (by simpa[hv.length] using hsz) fun h' hk=>?_;have P0:=S.keepAll (h':=h') (tk:=s.toks) hk;have P1:=P0.1.toC7.push0 (o:={ cls:=.type "dict",data:=.dict #[]}) s.toks;have P2:=P1.1.pushZ (o:={ cls:=.ref C,dict:=some h'.objs.size,data:=.seq items.toArray}) rfl s.toks;have X:=P1.2.trans P2.2;have hs:(h'.push {cls:=.type "dict",data:=.dict #[]}).objs.size=h'.objs.size+1:=z5 ..;refine hQ _ _ _ _ _ h (P0.1.after P2.1 X) ?_ (P0.2.trans X.toF);exact(hs)▸.mat (D3.add_at ..) (hv.mono X.le)
end
structure F' (C0:ZJ) (w:ZQ) (K:Frag) (C fN:b0):Prop where
 obj:∃o cd,K.lookup C=some o/\o.data=.cls cd
 call:f1 K ⟨C0,w.params⟩ (specialOf (.ref C) "__call__")=some (some (.builtin "type.__call__"))
 typ:f1 K ⟨C0,w.params⟩ (isInstance (.ref C) (.type "type"))=some true
 mro:∃l,f1 K ⟨C0,w.params⟩ (mroOf (.ref C))=some l/\l.isEmpty=false
 made:f1 K ⟨C0,w.params⟩ (Bind.madeBy (.ref C))=some none
 reads:readsIn K C (.type "type")=true
 new:∃p rest,findCls K (.ref C) (.type "type") "__new__" = some (.get (.builtin "staticmethod.__get__") (.ref p) .none (.ref C))/\recIn K p "staticmethod" = some (.ref fN::rest)
 sub:f1 K ⟨C0,w.params⟩ (y8 (.ref C) (.ref C))=some true
 subo:f1 K ⟨C0,w.params⟩ (y8 (.ref C) (.type "object"))=some true
 ini:f1 K ⟨C0,w.params⟩ (k8 (.ref C) "__init__")=some (some (.builtin "object.__init__"))
section
variable{K:Frag}
theorem VL(a b c d:Value):B2 "object.__init__" ⟨[a,b,c,d],[]⟩:=by unfold B2;kernel_rfl
theorem WP{fN:b0}{x y z:AV}{led:aa}{R:AV->aa->Prop}(hA:D6 A (k+1))(ok:F' C0 w K C fN)
  (h:∀A',D6 A' k->TC C0 w A' (am K) (.ref fN) [.ref C,x,y,z] [] led fun v led'=>v=.mat C xs/\R (.mat C xs) led') :
  TC C0 w A (am K) (.ref C) [x,y,z] [] led R:=fun s Z fx vs ks S s_ hx p_ Q hQ=>by
 have e:=s_.inv;subst e;refine E0.un0 (P:=fun ks=>codeAny (ZP C0 w) A (.call (.ref C) ⟨vs,ks⟩) Q s) ?_ ks p_;refine Vals.un3 (P:=fun vs=>Vals Z [x,y,z] vs->codeAny (ZP C0 w) A (.call (.ref C) ⟨vs,[]⟩) Q s) (fun x1 O x2 O x3 O hx0=>?_) vs hx hx;have X:=dg S.base S.frozen;refine bI ok.obj fun o cd ho hd=>?_;refine codeAny_of_tree ?_;show ZS _ _ (callAny (.ref C) _) _ _ _;unfold callAny;refine Zq (wpAny_load (X _ _ ho) ?_);rw[hd];show ZS _ _ (callAny.viaDunder (.ref C) _) _ _ _;unfold callAny.viaDunder;refine Zq (cN X ok.call ?_);dsimp only;rw[tc_bind];refine Zq (Zs (Zq (Zs ?_)));refine Zs (a:=Fin.again (.call (.builtin "type.__call__") ⟨.ref C::[x1,x2,x3],[]⟩)) (And.intro rfl ?_);refine codeAny_call_builtin_at (Code.quiet_builtin _ (by decide +kernel)) entry_typeCall (check_slot tc_kind tc_split (y5 X ok.typ) (tc_args _ _ _) ?_);unfold Builtin.«type.__call__»;refine g8 rfl ?_;refine ae ok.mro fun l hl1 o_=>?_;refine Zq (cN X hl1 ?_);refine g8 o_ ?_;refine Zq (cN X ok.made ?_);dsimp only;refine bI ok.new fun p rest hn1 ŋ=>?_;refine Zq (cls_bind X ok.reads hn1 (t8 (sm_get (s:={ s with toks:=s.toks+1}) X ŋ (handed_on rfl ?_))));refine Zq (ZF (t8 ?_));have S1:C7 (am K) {s with toks:=s.toks+1} Z led:=⟨S.base,S.frozen,S.nodup,S.apart,fun p hp=>(S.own p hp).mono (.refl _) (fun O e=>e) fun O O O e=>e,S.gnodup,S.bare⟩;refine h (A.under (.builtin "type.__call__" ⟨.ref C::[x1,x2,x3],[]⟩)) ⟨hA.h,?_,?_⟩ _ Z (.ref fN) _ [] S1 (.ref fN) (.cons (.ref C) hx0) .nil _ fun v x' s' Z' led' k S' V X'=>?_
 ·have e:(Code.builtin "type.__call__" ⟨.ref C::[x1,x2,x3],[]⟩).weight=1:=@_
  have:=hA.d;show A.depth+(Code.builtin "type.__call__" ⟨.ref C::[x1,x2,x3],[]⟩).weight+k<=_;rw[e];omega
 ·have e:(Code.builtin "type.__call__" ⟨.ref C::[x1,x2,x3],[]⟩).cUnits=1:=@_
  have:=hA.u;show A.units+(Code.builtin "type.__call__" ⟨.ref C::[x1,x2,x3],[]⟩).cUnits+k<=_;rw[e];omega
 ·refine aA k ?_;clear k;intro O1 k;subst O1;have V0:=V;refine dq (sm V) fun a d items n qv e hv=>?_;subst qv;have X2:=dg S'.base S'.frozen;have ha:=S'.frozen _ _ e;have tl:Looks (ZP C0 w) s'.heap (typeOf (.ref a)) (.ref C):=(Looks.ld ha).andThen .now;refine Zq (Zq (tl.here (cN X2 ok.sub ?_)));refine g8 rfl ?_;refine Zq (ZF ?_);unfold callSpecial? specialOf;refine Zq (Zq (tl.here (cN X2 ok.ini ?_)));dsimp only;refine ZF ?_;refine Zq (f9 (F.slot_object_init.bind _) ?_);refine Zq (t8 (p6 F.slot_object_init.plain F.entry_object_init (check_slot (i := "object.__init__") (owner := "object") (n := "__init__") (by decide +kernel) (by decide +kernel) (tl.andThen (y5 X2 ok.subo)) (VL _ _ _ _) ?_)));unfold Builtin.«object.__init__»;refine KFB.if_so rfl ?_;refine Zq (tl.here ?_);refine Zq (cN X2 ok.ini ?_);dsimp only;refine Zq (cN X2 ok.made ?_);refine g8 (by decide +kernel) ?_;refine g8 (by decide +kernel) ?_;refine Zs ?_;refine Zs ?_;dsimp only;refine g8 rfl ?_;refine Zs ?_;have X3:E7 (aj led) s Z s' Z' (aj led'):=⟨X'.le,X'.kept,X'.grow,X'.zgrow,X'.os,X'.gkept,X'.ggrow⟩;exact hQ _ _ s' Z' led' k S' V0 X3
end
structure E_ (C0:ZJ) (w:ZQ) (K:Frag) (C:b0):Prop where
 it:f1 K ⟨C0,w.params⟩ (k8 (.ref C) "__iter__")=some (some (.builtin "tuple.__iter__"))
 sub:f1 K ⟨C0,w.params⟩ (y8 (.ref C) (.type "tuple"))=some true
section
variable{K:Frag}
theorem Jr{t:b0}{ot:Obj}{items:Array Value}{x:Value}{Q:Option Value->Zx->Prop}(hit:s.heap.IsTupleIter it t i)
  (ø:s.heap.get? t=some ot) (Ģ:ot.data=.seq items n) (hx:items[i]?=some x)
  (hQ:∀h',h'.IsTupleIter it t (i+1)->a7 it s.heap h'->Q (some x) {s with heap:=h' }) :
  ZS (ZP C0 w) A (s6 (.ref it)) Q E s:=by
 refine aU (id hit) fun o ho hc hd=>?_;unfold s6;refine Zq (s9 (f2 (name:=Zw "__next__") hit.typeIs p7
  (d6 p7 hit.typeIs F.entry_tuple_iterator_next ?_ (F.args_tuple_iterator_next_1 _))))
 show ZS _ _ (field (.ref it) 0>>=_) _ _ s;refine Zq (w5 ho hd (x:=.ref t) rfl ?_);refine g8 rfl ?_;refine Zq (w5 ho hd (x:=.int i 0) rfl ?_);refine Zq (n9 ø Ģ ?_);simp only[c8,hx];refine Zq (wpAny_setField ho hd (by simp) (Zs ⟨x,rfl,Zs (hQ _ ?_ (c0 ..))⟩));exact⟨_,c6 _ ho (u6 (A4 hd _)),(Obj.cls_mapFields ..).trans hc,by
  rw[A4 hd];simp[k5]⟩
theorem Js{t:b0}{ot:Obj}{items:Array Value}{Q:Option Value->Zx->Prop}(hh:A.handled=none)(hit:s.heap.IsTupleIter it t i)
  (ø:s.heap.get? t=some ot) (Ģ:ot.data=.seq items n) (hx:items[i]?=none)
  (hQ:∀h',Heap.ExtBut it s.heap h'->Q none {s with heap:=h' }):ZS (ZP C0 w) A (s6 (.ref it)) Q E s:=by
 refine aU (id hit) fun o ho hc hd=>?_;unfold s6;refine Zq (s9 (f2 (name:=Zw "__next__") hit.typeIs p7
  (d6 p7 hit.typeIs F.entry_tuple_iterator_next ?_ (F.args_tuple_iterator_next_1 _))))
 show ZS _ _ (field (.ref it) 0>>=_) _ _ s;refine Zq (w5 ho hd (x:=.ref t) rfl ?_);refine g8 rfl ?_;refine Zq (w5 ho hd (x:=.int i 0) rfl ?_);refine Zq (n9 ø Ģ ?_);simp only[c8,hx];refine Zq (l6 (Zq (wpAny_setField ho hd (by simp) ?_)));show ZS _ _ (newExc (.type "StopIteration") []>>=_) _ _ _;refine Zq ?_;dsimp only[newExc,newTuple];refine Zq (f6 ?_ (by size_fits));refine Zq (m:=t0 _ _) (f9 (a:=j6) (by first |rfl |(dsimp only[t0];rfl)) ?_);refine f6 ?_ (by size_fits);dsimp only[raiseNew];refine Zq (wpAny_handled ?_);rw[show A.in1.handled=none from hh];refine Zq (Zs (wpAny_throw ?_));refine Zq (m8 (T := "StopIteration") (b:=true) ⟨_,ZB _ rfl,rfl⟩ isSubtype_stop ?_);exact Zs (hQ _ (((c0 ..).extBut.push _).push _))
theorem Jt{t:b0}{ot:Obj}{items:Array Value}{m:Nat}(I3:t≠it)(Ģ:ot.data=.seq items m):∀(n i:Nat) (s:Zx) (Q:List Value->Zx->Prop),s.heap.IsTupleIter it t i->s.heap.get? t=some ot->i+n<=items.size ->
  (∀h',h'.IsTupleIter it t (i+n)->a7 it s.heap h'->Q ((items.toList.drop i).take n) {s with heap:=h' })->ZS (ZP C0 w) A (draw (.ref it) n) Q E s:=by
 intro t_;induction t_ with
 |zero =>
  intro i s Q hit _ _ hQ;exact Zs (by simpa using hQ s.heap hit (Heap.SameBut.refl ..))
 |succ n ih =>
  intro i s Q hit ø hle hQ;have G8:i<items.size:=by omega
  show ZS _ _ (s6 (.ref it)>>=_) Q E s;refine Zq (Jr hit ø Ģ (x:=items[i]) (by simp[G8]) fun h1 q_ W4=>?_);refine Zq (ZF (ih (i+1) _ _ q_ ((W4.2 t I3).trans ø) ⋯ fun h2 ç É=>Zs ?_));have hd:items.toList.drop i=items[i]::items.toList.drop (i+1):=by simp[m6,G8]
  have:=hQ h2 (by rw[show i+(n+1)=i+1+n by omega];exact ç) (W4.trans É);rw[hd,List.take_succ_cons] at this;exact this
theorem PM{items:Array Value}(ok:E_ C0 w K C)(X:K.In s.heap)(ha:s.heap.get? a=some {cls:=.ref C,dict:=some d,data:=.seq items n})
  (hQ:Q (.ref s.heap.objs.size) {s with heap:=s.heap.push {cls:=.type "tuple_iterator",data:=.fields #[.ref a,.int 0 0]} }) :
  ZS (ZP C0 w) A (pyIter (.ref a)) Q E s:=by
 have tl:Looks (ZP C0 w) s.heap (typeOf (.ref a)) (.ref C):=(Looks.ld ha).andThen .now;have hc:ZS (ZP C0 w) A (call (.builtin "tuple.__iter__") [.ref a]) (fun v s'=>v=.ref s.heap.objs.size/\s'={ s with heap:=s.heap.push {cls:=.type "tuple_iterator",data:=.fields #[.ref a,.int 0 0]} }) (fun O O=>False) s:=by
  refine t8 (p6 F.slot_tuple_iter.plain F.entry_tuple_iter (check_slot (i := "tuple.__iter__") (owner := "tuple") (n := "__iter__") (by decide +kernel) (by decide +kernel) (tl.andThen (y5 X ok.sub)) (F.args_tuple_iter_1 _) ?_));show ZS _ _ (do ret (← newFields "tuple_iterator" [.ref a,k5 0])) _ _ s;exact Zq (f6 (Zs ⟨rfl,rfl⟩))
 unfold pyIter specialOf;refine Zq (Zq (tl.here (cN X ok.it ?_)));dsimp only;refine Zq ?_;dsimp only[callSpecialIfBoundUnlessNone?,bindSpecialIfBound?];refine ZF (Zq ?_);unfold specialOf;refine Zq (Zq (tl.here (cN X ok.it ?_)));dsimp only[F.slot_tuple_iter.bind];refine Zq (wpAny_askSetting (wpAny_ite ?_));have Ŗ:∀hp:Heap,hp=s.heap.push {cls:=.type "tuple_iterator",data:=.fields #[.ref a,.int 0 0]}->({s with heap:=hp}:Zx).TypeIs (.ref s.heap.objs.size) "tuple_iterator" := fun hp e=>by subst e;exact bB _ (ZB _ rfl) rfl
 split
 ·refine Zq (Zs (Zs ?_));refine g8 rfl (Zq (e9 hc (fun v s' h'=>?_) fun O O h'=>h'.elim));refine aA h' fun O1 O2=>?_;clear h';subst O1;subst O2;exact Zs (Zq (A7 (Ŗ _ rfl) F.slot_tuple_iterator_next.lookup (Zs hQ)))
 ·refine wpAny_tryCatch (Zq (Zs (Zs ?_)));refine g8 rfl (Zq (e9 hc (fun v s' h'=>?_) fun O O h'=>h'.elim));refine aA h' fun O1 O2=>?_;clear h';subst O1;subst O2;exact Zs (Zq (A7 (Ŗ _ rfl) F.slot_tuple_iterator_next.lookup (Zs hQ)))
theorem PK{items:Array Value}{Q:List Value->Zx->Prop}(hh:A.handled=none)(ok:E_ C0 w K C)(X:K.In s.heap)(ha:s.heap.get? a=some {cls:=.ref C,dict:=some d,data:=.seq items n})
  (hQ:∀h',Heap.ExtBut s.heap.objs.size s.heap h'->Q items.toList {s with heap:=h' }):ZS (ZP C0 w) A (unpackItems (.ref a) items.size none) Q E s:=by
 have tl:Looks (ZP C0 w) s.heap (typeOf (.ref a)) (.ref C):=(Looks.ld ha).andThen .now;have G8:a≠s.heap.objs.size:=j9 (e8 ha);unfold unpackItems;refine Zq ?_;unfold notIterableAtAll specialOf;refine Zq (Zq (tl.here (cN X ok.it ?_)));refine KFB.if_so rfl ?_;refine Zs ?_;refine g8 rfl ?_;refine Zq (ZF (PM ok X ha ?_));refine Zq (ZF (Jt (ot:={ cls:=.ref C,dict:=some d,data:=.seq items n}) G8 rfl items.size 0 _ _ ⟨_,ZB _ rfl,rfl,rfl⟩ (ZC _ ha) ⋯ fun h1 q_ W4=>?_));have J':List.take items.size (List.drop 0 items.toList)=items.toList:=by rw[List.drop_zero];exact List.take_of_length_le (by simp)
 rw[J'];refine cS (by simp) ?_;refine Zq (ZF (Js hh q_ ((W4.2 a G8).trans (ZC _ ha)) rfl (by simp) fun h2 he2=>?_));refine g8 rfl ?_;exact Zs (hQ h2 fun b o hb e=>he2 b o hb (W4.extBut b o hb (ZC _ e)))
end
section
variable{K:Frag}
theorem zX{x1:Nat}{vs:List AV}{R:Unit->St->Prop}(hh:A.handled=none)(ok:E_ C0 w K C)(he:(n6 elts C1).map (·.2)=elts.map fun e=>m0 e C1)(hn:elts.length=vs.length)(M4:(n6 elts C1).findIdx? (·.1)=none)
  (h:FT C0 w A (am K) C1 elts vs st R):F1 C0 w A (am K) C1 aS (m0 (.Tuple elts x1 pos) C1) (.mat C vs) st R:=fun s Z u V S Q E hQ=>by
 refine dq (sm V) fun a d items n qv e hv=>?_;subst qv;have hln:(n6 elts C1).length=items.toArray.size:=by
  rw[← Zu (f:=(·.2)) (as:=n6 elts C1),he,Zu,hn,← hv.length];simp
 rw[arm_assign_Tuple];unfold unpack;rw[hln,M4,he];refine Zq (a9 (Zq (ZF (PK hh ok (dg S.base S.frozen) (S.frozen _ _ e) fun h' hx=>?_))));refine aA (S.ext1 hx) fun S' X'=>?_;exact h _ Z _ (by simpa using hv) S' Q E fun v x L5 J9 F0 k' J1 V' W7=>hQ v x L5 J9 F0 k' J1 V' (X'.trans W7)
end
noncomputable def ay(a b:List Str)(i j:Nat):Bool:=a[i]?==b[j]?
noncomputable def aO(a b:List Str)(i:Nat):List Nat:=(a[i]?).elim [] (bq b)
def T3(m:List (Int×AV))(D:Int->Nat):Prop:=∀x,(aP m x).getD (.int 0)=.int (D x)
theorem T3.nil:T3 [] (fun O=>0):=fun O=>rfl
theorem T3.store{m:List (Int×AV)}{D:Int->Nat}(h:T3 m D)(j:Int)(k:Nat):T3 (ek m j (.int k)) (fun x=>if x=j then k else D x):=fun x=>by
 rw[TU];dsimp only;by_cases e:x=j
 ·rw[if_pos e,if_pos e];rfl
 ·rw[if_neg e,if_neg e];exact h x
structure H7 (alo C8 C9 i:Nat) (s:(Int->Nat)×ab):Prop where
 d1:∀x,s.1 x<=i-alo
 d2:∀x,0<s.1 x->(C8:Int)<=x/\(s.1 x:Int)<=x+1-C8
 b1:alo<=s.2.1
 b2:s.2.1+s.2.2.2<=i
 b3:C8<=s.2.2.1
 b4:s.2.2.1+s.2.2.2<=C9
theorem H7.start(h:C8<=C9):H7 alo C8 C9 alo (fun O=>0,(alo,C8,0)):=⟨fun O=>ZM _,fun O h=>absurd h (r6 _),ZZ _,ZZ _,ZZ _,h⟩
theorem H7.row{s:(Int->Nat)×ab}(h:H7 alo C8 C9 i s):H7 alo C8 C9 (i+1) (fun O=>0,s.2):=⟨fun O=>ZM _,fun O h=>absurd h (r6 _),h.b1,Nat.le_succ_of_le h.b2,h.b3,h.b4⟩
theorem H7.len{s:(Int->Nat)×ab}(h:H7 alo C8 C9 i s)(hi:alo<=i)(h1:C8<=j):s.1 ((j:Int)-1)<=i-alo/\s.1 ((j:Int)-1)<=j-C8:=by
 refine⟨h.d1 _,?_⟩;by_cases q:0<s.1 ((j:Int)-1)
 ·have:=(h.d2 _ q).2;rw[Int.sub_add_cancel] at this;exact Nat.le_sub_of_add_le (Int.ofNat_le.mp (Int.add_le_of_le_sub_right this))
 ·exact Nat.eq_zero_of_not_pos q▸ZM _
theorem H7.step{s s2:(Int->Nat)×ab}(h:H7 alo C8 C9 i s)(h2:H7 alo C8 C9 (i+1) s2)(hi:alo<=i)(hj:C8<=j)(X_:j<C9):H7 alo C8 C9 (i+1) (dl s.1 i s2 j):=by
 refine aA (h.len hi hj) fun e1 e2=>?_;unfold dl;generalize s.1 ((j:Int)-1)=D at e1 e2;have d1:∀x,(if x=(j:Int) then D+1 else s2.1 x)<=i+1-alo:=fun x=>if e:x=j then if_pos e▸Nat.succ_sub hi▸Nat.succ_le_succ e1 else if_neg e▸h2.d1 x
 have d2:∀x,0<(if x=(j:Int) then D+1 else s2.1 x)->(C8:Int)<=x/\((if x=(j:Int) then D+1 else s2.1 x:Nat):Int)<=x+1-C8:=fun x hx=>by
  by_cases e:x=j
  ·rw[if_pos e,e];exact⟨Int.ofNat_le.mpr hj,Int.le_sub_right_of_add_le (Int.ofNat_le.mpr (Nat.succ_add .. ▸ Nat.succ_le_succ (Nat.add_le_of_le_sub hj e2)))⟩
  ·rw[if_neg e] at hx ⊢;exact h2.d2 x hx
 have l1:=Nat.sub_add_cancel (d7 e1 (Nat.sub_le ..));have l2:=Nat.sub_add_cancel (d7 e2 (Nat.sub_le ..));by_cases c:s2.2.2.2<D+1
 ·rw[if_pos c];exact⟨d1,d2,Nat.le_sub_of_add_le (Nat.add_le_of_le_sub' hi e1),Nat.succ_le_succ (Nat.le_of_eq l1),Nat.le_sub_of_add_le (Nat.add_le_of_le_sub' hj e2),d7 (Nat.succ_le_succ (Nat.le_of_eq l2)) X_⟩
 ·rw[if_neg c];exact⟨d1,d2,h2.b1,h2.b2,h2.b3,h2.b4⟩
theorem RT(b:List Str)(k:Str):(cB b k).Pairwise (· < ·):=(List.pairwise_lt_range).filter _
theorem RX{b:List Str}{k:Str}(h:j∈cB b k):j<b.length:=List.mem_range.mp (o8.mp h).1
theorem Fl(b:List Str)(k:Str):(bq b k).Pairwise (· < ·):=by
 unfold bq;split
 ·exact .nil
 ·exact RT b k
theorem RL{b:List Str}{k:Str}(h:j∈bq b k):j<b.length:=by
 unfold bq at h;split at h
 ·cases h
 ·exact RX h
theorem RM(b:List Str)(k:Str):(bq b k).length<=b.length:=by
 unfold bq;split
 ·exact ZM _
 ·unfold cB;exact d7 (List.length_filter_le ..) (by rw[List.length_range];exact ZZ _)
theorem IN{js:List Nat}(h:j<C8):within C8 C9 (j::js)=within C8 C9 js:=by
 unfold within;rw[List.filter_cons_of_neg (by rw[decide_eq_false (Nat.not_le.mpr h)];exact d3)]
theorem IP{js:List Nat}(h:C8<=j)(h':j<C9):within C8 C9 (j::js)=j::within C8 C9 js:=by
 unfold within;rw[List.filter_cons_of_pos (by rw[decide_eq_true h,decide_eq_true h'];rfl)]
theorem IM{js:List Nat}(hs:(j::js).Pairwise (· < ·))(h':C9<=j):within C8 C9 (j::js)=[]:=by
 unfold within;rw[List.filter_eq_nil_iff];intro x hx
 have:j<=x:=by
  rcases Zy.mp hx with rfl |hx
  ·exact ZZ _
  ·exact n7 ((u8.mp hs).1 x hx)
 rw[decide_eq_false (Nat.not_lt.mpr (d7 h' this)),Bool.and_false];exact d3
theorem BF(a b:Nat):eP (a:Int) (b:Int)=(g9 a (b-a)).map fun(i:Nat)=>AV.int (i:Int):=by
 unfold eP;rw[List.range'_eq_map_range,m4];rw[show ((b:Int)-(a:Int)).toNat=b-a from Int.toNat_sub b a];refine p9 fun i O=>?_;simp
theorem Um(h : ¬ alo<i):bO e alo C8 i j k=(i,j,k):=by
 cases i with
 |zero=>rfl
 |succ i=>cases j with
  |zero=>rfl
  |succ j=>exact if_neg (by rw[decide_eq_false h];exact d3)
theorem Ul(h : ¬ C8<j):bO e alo C8 i j k=(i,j,k):=by
 cases i with
 |zero=>rfl
 |succ i=>cases j with
  |zero=>rfl
  |succ j=>exact if_neg (by rw[decide_eq_false h,Bool.false_and,Bool.and_false];exact d3)
theorem Uk(h:e i j=false):bO e alo C8 (i+1) (j+1) k=(i+1,j+1,k) :=
 if_neg (by rw[h,Bool.and_false,Bool.and_false];exact d3)
theorem Un(h1:alo<i+1)(h2:C8<j+1)(h:e i j=true):bO e alo C8 (i+1) (j+1) k=bO e alo C8 i j (k+1) :=
 if_pos (by rw[h,decide_eq_true h1,decide_eq_true h2];rfl)
theorem Ue{D1 f:Nat}(h : ¬ (i+k<D1/\j+k<C9/\e (i+k) (j+k)=true)):cI e D1 C9 i j f k=k:=by
 cases f with
 |zero=>rfl
 |succ f =>
  exact if_neg fun q=>h ((i9 ..).mp q |>.imp of_decide_eq_true fun q=>((i9 ..).mp q).imp_left of_decide_eq_true)
theorem Ug{D1 f:Nat}(h1:i+k<D1)(h2:j+k<C9)(h:e (i+k) (j+k)=true):cI e D1 C9 i j (f+1) k=cI e D1 C9 i j f (k+1) :=
 if_pos (by rw[h,decide_eq_true h1,decide_eq_true h2];rfl)
theorem sw{a b:List Str}(hx:a[i]?=some x)(hy:b[j]?=some y):ay a b i j=(x==y):=by
 unfold ay;rw[hx,hy];cases q:x==y with
 |true=>rw[beq_iff_eq.mp q];simp
 |false=>have:=beq_eq_false_iff_ne.mp q;simpa using this
noncomputable abbrev af:ZJ:=PySem.Challenge.pw_dm0049_07
noncomputable def AI:List b0:=[271]
noncomputable def KB(P:Zv):Frag:=(KO P).filter fun p => !AI.contains p.1
noncomputable abbrev ak(w:ZQ):D3:=am (KB w.params)
theorem bA(w:ZQ):G1 (ak w):=⟨fun s h=>⟨fun O=>none,by
 have e:=h 2 _ (show ak w 2=some (boot_o_2 w.params) from @_);exact⟨_,#[],0,e,@_,fun O h=>by simp at h,fun O=>rfl⟩,rfl⟩⟩
set_option backward.match.sparseCases false in
noncomputable def ap(o:Obj):A6:=match o.data with |.func f=>f |_=>default
set_option backward.match.sparseCases false in
noncomputable def oj(o:Obj):Array Value:=match o.data with |.fields f=>f |_ => #[]
set_option backward.match.sparseCases false in
noncomputable def Jp:Value->Tok
 |.str _ t=>t
 |_=>0
theorem cC{K:Frag}{f c:b0}{gen:Bool}(o oc:Obj)(h:(K.lookup f,o.data,(ap o).body,(ap o).code,(ap o).closure,(ap o).globals,(ap o).builtins,K.lookup c,oc.data,(oj oc)[1]?,(ap o).scope.isCoroutine,(ap o).scope.isGenerator,(ap o).scope.kind,(ap o).scope.names.all fun x=>decide (x.2 ≠ .cell))=(some o,.func (ap o),.stmts body,.ref c,[],l9,s7,some oc,.fields (oj oc),some (.str (ap o).qualname (Jp ((oj oc).getD 1 .none))),false,gen,.function,true)):bF K f gen (ap o) body c:=by
 simp only[Prod.mk.injEq] at h;obtain⟨h1,h2,h3,h4,h5,h6,h7,h8,h9,ha,hb,hc,hd,he⟩:=h;exact⟨⟨o,h1,h2⟩,h3,h4,h5,h6,h7,⟨oc,_,_,h8,h9,ha⟩,⟨hb,hc,hd⟩,he⟩
theorem Tl(P:Zv):bF (KB P) 82 false (ap (gS P)) (bo (az 3 4)) 81 :=
 cC (gS P) (mq P) @_
theorem Tk(P:Zv):bF (KB P) 89 false (ap (gR P)) (bo (az 3 5)) 88 :=
 cC (gR P) (mo P) @_
theorem TJ(P:Zv):bF (KB P) 160 false (ap (jc P)) (bo (az 5 1)) 159 :=
 cC (jc P) (qP P) @_
theorem TI(P:Zv):bF (KB P) 167 false (ap (iZ P)) (bo (az 5 2)) 166 :=
 cC (iZ P) (qO P) @_
theorem TH(P:Zv):bF (KB P) 174 false (ap (iY P)) (bo (az 5 3)) 173 :=
 cC (iY P) (qN P) @_
theorem TF(P:Zv):bF (KB P) 181 false (ap (iX P)) (bo (az 5 4)) 180 :=
 cC (iX P) (qM P) @_
theorem TE(P:Zv):bF (KB P) 188 false (ap (iW P)) (bo (az 5 5)) 187 :=
 cC (iW P) (qL P) @_
theorem TD(P:Zv):bF (KB P) 196 false (ap (gT P)) (bo (az 5 6)) 195 :=
 cC (gT P) (qK P) @_
theorem TB(P:Zv):bF (KB P) 203 false (ap (iV P)) (bo (az 5 7)) 202 :=
 cC (iV P) (qJ P) @_
theorem TA(P:Zv):bF (KB P) 210 false (ap (iU P)) (bo (az 5 8)) 209 :=
 cC (iU P) (qI P) @_
theorem Tz(P:Zv):bF (KB P) 218 true (ap (ky P)) (bo (az 5 9)) 217 :=
 cC (ky P) (qH P) @_
theorem Ty(P:Zv):bF (KB P) 253 false (ap (kx P)) (bo (aE 6)) 252 :=
 cC (kx P) (vT P) @_
theorem Tw(P:Zv):bF (KB P) 261 true (ap (iT P)) (bo (aE 7)) 260 :=
 cC (iT P) (vS P) @_
theorem Tv(P:Zv):bF (KB P) 268 false (ap (ku P)) (bo (aE 8)) 267 :=
 cC (ku P) (vR P) @_
theorem Tt(P:Zv):bF (KB P) 276 true (ap (iS P)) (bo (aE 9)) 275 :=
 cC (iS P) (qF P) @_
theorem Ts(P:Zv):bF (KB P) 283 false (ap (fD P)) (bo (aE 10)) 282 :=
 cC (fD P) (vQ P) @_
theorem Tr(P:Zv):bF (KB P) 290 true (ap (nj P)) (bo (aE 11)) 289 :=
 cC (nj P) (vP P) @_
theorem Tq(P:Zv):bF (KB P) 297 false (ap (kt P)) (bo (aE 13)) 296 :=
 cC (kt P) (vO P) @_
theorem Tp(P:Zv):bF (KB P) 304 false (ap (kr P)) (bo (aE 14)) 303 :=
 cC (kr P) (vN P) @_
theorem To(P:Zv):bF (KB P) 311 false (ap (kq P)) (bo (aE 15)) 310 :=
 cC (kq P) (vM P) @_
theorem Tm(P:Zv):bF (KB P) 316 false (ap (fC P)) (bo (aE 16)) 315 :=
 cC (fC P) (vL P) @_
set_option backward.match.sparseCases false in
noncomputable def eB(o:Obj):Array DictEntry:=match o.data with |.dict es _=>es |_ => #[]
noncomputable def Gq(o:Obj):Nat:=match o.data with |.dict _ ep=>ep |_=>0
noncomputable def We(es:Array DictEntry):Bool:=es.toList.all fun e=>match e.key with |.str _ _=>true |_=>false
theorem AW{es:Array DictEntry}(h:We es=true):StrKeys es:=fun e he=>by
 have:=c5.mp h e (by simpa using he);cases q:e.key with
 |str n t=>exact⟨n,t,rfl⟩
 |_=>rw[q] at this;cases this
theorem gM(w:ZQ):ak w l9=some (dR w.params):=@_
theorem yM(P:Zv):(dR P).data=.dict (eB (dR P)) (Gq (dR P)):=@_
theorem yL(P:Zv):StrKeys (eB (dR P)):=AW @_
theorem gU(w:ZQ):ak w s7=some (boot_o_0 w.params):=@_
theorem FW(P:Zv):(boot_o_0 P).data=.dict (eB (boot_o_0 P)) (Gq (boot_o_0 P)):=@_
theorem FV(P:Zv):StrKeys (eB (boot_o_0 P)):=AW @_
theorem fj(h:nsFind (eB (dR w.params)) x=some (.ref a)):bn (ak w) x (.ref a):=SD (gM w) (yM _) (yL _) h fun Z => .ref _
theorem kZ{n:String}(h:nsFind (eB (dR w.params)) x=none)(h2:nsFind (eB (boot_o_0 w.params)) x=some (.builtin n)):bn (ak w) x (.blt n):=FG (gM w) (yM _) (yL _) h (gU w) (FW _) (FV _) h2 fun Z => .blt _
theorem gj{n:String}(h:nsFind (eB (dR w.params)) x=none)(h2:nsFind (eB (boot_o_0 w.params)) x=some (.type n)):bn (ak w) x (.typ n):=FG (gM w) (yM _) (yL _) h (gU w) (FW _) (FV _) h2 fun Z => .typ _
theorem FO(w:ZQ):bn (ak w) fB (.ref 242):=fj @_
theorem FQ(w:ZQ):bn (ak w) eS (.ref 135):=fj @_
theorem SO(w:ZQ):bn (ak w) iO (.ref 253):=fj @_
theorem FH(w:ZQ):bn (ak w) iN (.ref 261):=fj @_
theorem SP(w:ZQ):bn (ak w) iL (.ref 268):=fj @_
theorem SS(w:ZQ):bn (ak w) iK (.ref 276):=fj @_
theorem FN(w:ZQ):bn (ak w) iM (.ref 283):=fj @_
theorem SM(w:ZQ):bn (ak w) MS (.blt "isinstance"):=kZ @_ @_
theorem gY(w:ZQ):bn (ak w) Mp (.blt "len"):=kZ @_ @_
theorem SH(w:ZQ):bn (ak w) Nw (.blt "min"):=kZ @_ @_
theorem FL(w:ZQ):bn (ak w) Ny (.blt "max"):=kZ @_ @_
theorem ST(w:ZQ):bn (ak w) MU (.blt "any"):=kZ @_ @_
theorem SU(w:ZQ):bn (ak w) ME (.blt "abs"):=kZ @_ @_
theorem SE(w:ZQ):bn (ak w) MR (.typ "str"):=gj @_ @_
theorem sp(w:ZQ):bn (ak w) Mj (.typ "list"):=gj @_ @_
theorem FK(w:ZQ):bn (ak w) Ma (.typ "range"):=gj @_ @_
theorem SQ(w:ZQ):bn (ak w) Mi (.typ "enumerate"):=gj @_ @_
theorem SG(w:ZQ):bn (ak w) Mf (.typ "set"):=gj @_ @_
theorem SR(w:ZQ):bn (ak w) Nc (.typ "dict"):=gj @_ @_
theorem SI(w:ZQ):bn (ak w) Mk (.typ "map"):=gj @_ @_
theorem FI(w:ZQ):bn (ak w) Nm (.typ "tuple"):=gj @_ @_
theorem FJ(w:ZQ):bn (ak w) iJ (.ref 290):=fj @_
theorem SJ(w:ZQ):bn (ak w) iI (.ref 297):=fj @_
theorem SK(w:ZQ):bn (ak w) iH (.ref 304):=fj @_
theorem FM(w:ZQ):bn (ak w) iG (.ref 311):=fj @_
theorem SN(w:ZQ):bn (ak w) MO (.typ "int"):=gj @_ @_
inductive Ŝ (B:D3) (o:AV) (led:aa):Prop where
 |mk {T':String} {id:String} (h:k8 (.type T') "__getitem__" = o4 (some (.builtin id))) (t:eb B o led T')
theorem HF{slice:Expr}
  (hs:∀o i,subscripted slice false o i=operate [o,i] (getItem o i))
  (h:T C0 w A B C1 Val (k7 value C1) st fun v1 E5=>T C0 w A B C1 Val (k7 slice C1) E5 fun v2 F9=>Ŝ B v1 F9.led/\F2 C0 w A B C1 Val getItem v1 v2 F9 K) :
  T C0 w A B C1 Val (k7 (.Subscript value slice pos) C1) st K:=fun s Z S Q E hQ =>
 PyProof.Rows.Subscript_ (h s Z S _ _ fun v1 G2 s₁ Z1 E5 k₁ S1 V1 X1=>k₁ s₁ Z1 S1 _ _ fun v2 x2 s2 Z2 F9 k2 S2 V2 X2=>by
  refine aA k2 fun ix k2=>Ŝ.rec (fun{T' id} hl ht=>?_) ix;have hT:=(ht s2 Z2 G2 (V1.mono X2.le) S2.toC7).1;unfold PyProof.Rows.subscriptTail;refine Zq ?_;rw[getitemInPython_of_ne hT.not_modules];refine Zq (A7 hT hl ?_);have fin:ZS (ZP C0 w) A (subscripted slice false G2 x2) (fun r s3=>ZS (ZP C0 w) A (letTemporaryGo value G2 r>>=fun O=>o4 r) Q E s3) E s2:=by
   rw[hs];exact wpAny_operating (k2 s2 Z2 G2 x2 (V1.mono X2.le) V2 S2 _ _ fun v x s' Z' C4 k S' V X=>Zq (wpAny_letTemporaryGo (Zs (hQ v x s' Z' C4 k S' V ((X1.trans X2).trans X)))))
  first
   |exact Zs (Zq fin)
   |exact Zq (Zs (Zq fin))
   |exact Zq fin)
theorem WE{x:Expr}{i:Int}(h:T C0 w A B C1 Val (k7 x C1) st fun v C4=>v=.int i/\K (.int (-i)) C4):T C0 w A B C1 Val (k7 (.UnaryOp .USub x pos) C1) st K:=fun s Z S Q E hQ=>by
 rw[show k7 (.UnaryOp .USub x pos) C1=(k7 x C1>>=fun v=>standAt pos>>=fun O=>A9 [v] (unaryOp .USub v)) from rfl];refine Zq (h s Z S _ _ fun v y s' Z' C4 k S' V X=>?_);refine aA k ?_;clear k;intro O1 k;subst O1;cases V
 exact Zq (a9 (ZF (PyProof.Rows.neg_int (hQ _ _ _ Z' C4 k (S'.toks _) (.int _ _) (X.trans (.toks _))))))
theorem WD{p:Pos}{i:Int}(h:K (.int (-i)) st):T C0 w A B C1 Val (k7 (.UnaryOp .USub (.Constant (.int i) k p) pos) C1) st K :=
 WE (HC ⟨rfl,h⟩)
theorem Jg{led:aa}:eb B (.tup xs) led "tuple" := fun s Z u V S=>by
 refine bv (kP V) fun O O O qv e h=>?_;subst qv;exact⟨⟨_,S.frozen _ _ e,rfl⟩,fun b q=>by cases q;exact bB _ (S.frozen _ _ e) rfl⟩
theorem WV{x:Expr}{rest:List Expr}{K:Bool->St->Prop}
  (h:T C0 w A B C1 aK (isTrue x C1 (k7 x C1)) st fun b C4=>if b then K true C4 else T C0 w A B C1 aK (allTrue .Or rest C1) C4 K):T C0 w A B C1 aK (allTrue .Or (x::rest) C1) st K:=fun s Z S Q E hQ =>
 wpAny_allTrue_Or_cons (h s Z S _ _ fun b c s' Z' C4 k S' V X=>by
  unfold aK at V;subst V;cases c with
  |true=>exact hQ true true s' Z' C4 k S' rfl X
  |false=>exact k s' Z' S' Q E fun b' c' L5 J9 F0 k' J1 V' X'=>hQ b' c' L5 J9 F0 k' J1 V' (X.trans X'))
noncomputable def cq(a b:Str):Bool:=PySem.W.Fast.lEq a.cps.toList b.cps.toList
theorem sx{a b:Str}:cq a b=true↔a=b:=by
 unfold cq;rw[PySem.W.Fast.lEq_iff];constructor
 ·intro h;cases a;cases b
  simp only[Str.mk.injEq];exact Array.toList_inj.mp h
 ·rintro rfl;rfl
theorem sy(a b:Str):(a==b)=cq a b:=by
 rw[y1,beq_iff_eq,sx]
noncomputable def lk(x:Str)(l:List (Str×AV)):Option AV:=@List.rec _ (fun O=>Option AV) none (fun p O ih=>@Bool.rec (fun O=>Option AV) ih (some p.2) (cq x p.1)) l
noncomputable def sk(x:Str)(v:AV)(l:List (Str×AV)):List (Str×AV):=@List.rec _ (fun O=>List (Str×AV)) [(x,v)] (fun p r ih=>@Bool.rec (fun O=>List (Str×AV)) (p::ih) ((p.1,v)::r) (cq x p.1)) l
theorem jg(x:Str):∀l,lk x l=l.lookup x
 | []=>rfl
 |(y,u)::l=>by
  show @Bool.rec (fun O=>Option AV) (lk x l) (some u) (cq x y)=_;rw[ZN,sy,jg x l];cases cq x y <;> rfl
theorem uq(x:Str)(v:AV):∀l,sk x v l=cL l x v
 | []=>rfl
 |(y,u)::l=>by
  show @Bool.rec (fun O=>List (Str×AV)) ((y,u)::sk x v l) ((y,v)::l) (cq x y)=_;rw[uw,sy,uq x v l];cases cq x y <;> rfl
set_option genInjectivity false in set_option genSizeOf false in
inductive Q5 where
 |e (x:Expr) (K:AV->St->Prop)
 |es (pos:Pos) (xs:List Expr) (K:List AV->St->Prop)
 |t (x:Expr) (K:Bool->St->Prop)
 |ts (op:BoolOp) (xs:List Expr) (K:Bool->St->Prop)
 |s (x:Stmt) (K:D4->St->Prop)
 |ss (xs:List Stmt) (K:D4->St->Prop)
inductive C6 (P:Prop):Prop where
 |mk (h:P):C6 P
theorem C6.out(h:C6 P):P:=by
 induction h with
 |mk h=>exact h
set_option genInjectivity false in set_option genSizeOf false in
structure K2 where
 name:Str
 kind:Nat
 id:String
noncomputable def kO:Nat->String
 |0 => "str"
 |1 => "list"
 |_ => "dict"
set_option genInjectivity false in set_option genSizeOf false in
structure Ctx where
 p:ZJ
 w:ZQ
 A:ZI
 B:D3
 e:Env
 G:List (Str×AV)
 F:List b0
 M:List K2
section
variable(Γ:Ctx)
def dE(x:Expr)(K:AV->St->Prop)(st:St):Prop:=C6 (T Γ.p Γ.w Γ.A Γ.B Γ.e Val (k7 x Γ.e) st K)
def An(pos:Pos)(xs:List Expr)(K:List AV->St->Prop)(st:St):Prop:=C6 (T Γ.p Γ.w Γ.A Γ.B Γ.e Vals (spliced (u5 pos (f0 xs Γ.e))) st K)
def jE(x:Expr)(K:Bool->St->Prop)(st:St):Prop:=C6 (T Γ.p Γ.w Γ.A Γ.B Γ.e aK (isTrue x Γ.e (k7 x Γ.e)) st K)
def IZ(op:BoolOp)(xs:List Expr)(K:Bool->St->Prop)(st:St):Prop:=C6 (T Γ.p Γ.w Γ.A Γ.B Γ.e aK (allTrue op xs Γ.e) st K)
def eJ(x:Stmt)(K:D4->St->Prop)(st:St):Prop:=C6 (T Γ.p Γ.w Γ.A Γ.B Γ.e E1 (exec x Γ.e) st K)
def Ja(xs:List Stmt)(K:D4->St->Prop)(st:St):Prop:=C6 (T Γ.p Γ.w Γ.A Γ.B Γ.e E1 (execs xs Γ.e) st K)
def b2(f:Value->Value->Sem Value)(v u:AV)(K:AV->St->Prop)(st:St):Prop:=C6 (F2 Γ.p Γ.w Γ.A Γ.B Γ.e Val f v u st K)
def pD:Q5->St->Prop
 |.e x K,st=>dE Γ x K st
 |.es pos xs K,st=>An Γ pos xs K st
 |.t x K,st=>jE Γ x K st
 |.ts op xs K,st=>IZ Γ op xs K st
 |.s x K,st=>eJ Γ x K st
 |.ss xs K,st=>Ja Γ xs K st
def pz(b:Bool)(P Q:Prop):Prop:=@Bool.rec (fun O=>Prop) Q P b
def pk(b:Bool)(P Q:Prop):Prop:=@Bool.rec (fun O=>Prop) Q P b
def oN(o:Option α)(P:Prop)(f:α->Prop):Prop:=@Option.rec α (fun O=>Prop) P f o
set_option backward.match.sparseCases false in
noncomputable def Dk:AV->Bool
 |.any=>false
 |_=>true
def Ap(x:Str)(pos:Pos)(K:AV->St->Prop)(st:St):Prop :=
 oN (lk x st.loc) (oN (lk x Γ.G) (dE Γ (.Name x pos) K st) fun v=>K v st) fun v=>pz (Dk v && !cq x B9) (K v st) (dE Γ (.Name x pos) K st)
set_option backward.match.sparseCases false in
def fh(v u:AV)(fb:Prop)(f:Int->Int->Prop):Prop :=
 match v with
 |.int a=>(match u with
  |.int b=>f a b
  |_=>fb)
 |_=>fb
set_option backward.match.sparseCases false in
def ud(v u:AV)(fb:Prop)(f:Str->Str->Prop):Prop :=
 match v with
 |.str a=>(match u with
  |.str b=>f a b
  |_=>fb)
 |_=>fb
set_option backward.match.sparseCases false in
noncomputable def yv(u:AV):Bool :=
 match u with
 |.none=>true
 |_=>false
set_option backward.match.sparseCases false in
def As(op:Operator)(v u:AV)(K:AV->St->Prop)(st:St):Prop :=
 match op with
 |.Add=>fh v u (b2 Γ (binaryOp .Add) v u K st) fun a b=>K (.int (a+b)) st
 |.Sub=>fh v u (b2 Γ (binaryOp .Sub) v u K st) fun a b=>K (.int (a-b)) st
 |op=>b2 Γ (binaryOp op) v u K st
def Aq(op:Operator)(v u:AV)(K:AV->St->Prop)(st:St):Prop :=
 match op with
 |.Add=>fh v u (b2 Γ (inplaceOp .Add) v u K st) fun a b=>K (.int (a+b)) st
 |.Sub=>fh v u (b2 Γ (inplaceOp .Sub) v u K st) fun a b=>K (.int (a-b)) st
 |op=>b2 Γ (inplaceOp op) v u K st
set_option backward.match.sparseCases false in
def tS(op:CmpOp)(v u:AV)(K:AV->St->Prop)(st:St):Prop :=
 match op with
 |.Eq=>fh v u (ud v u (b2 Γ (u0 .Eq) v u K st) fun a b=>K (.bool (a==b)) st) fun a b=>K (.bool (a==b)) st
 |.NotEq=>fh v u (ud v u (b2 Γ (u0 .NotEq) v u K st) fun a b=>K (.bool (a != b)) st) fun a b=>K (.bool (a != b)) st
 |.Lt=>fh v u (b2 Γ (u0 .Lt) v u K st) fun a b=>K (.bool (decide (a<b))) st
 |.Gt=>fh v u (b2 Γ (u0 .Gt) v u K st) fun a b=>K (.bool (decide (b<a))) st
 |.LtE=>fh v u (b2 Γ (u0 .LtE) v u K st) fun a b=>K (.bool (decide (a<=b))) st
 |.GtE=>fh v u (b2 Γ (u0 .GtE) v u K st) fun a b=>K (.bool (decide (b<=a))) st
 |.Is=>pz (yv u&&v.isNone.isSome) (K (.bool (v.isNone.getD false)) st) (b2 Γ (u0 .Is) v u K st)
 |.IsNot=>pz (yv u&&v.isNone.isSome) (K (.bool (!v.isNone.getD false)) st) (b2 Γ (u0 .IsNot) v u K st)
 |op=>b2 Γ (u0 op) v u K st
set_option backward.match.sparseCases false in
def ph(v:AV)(K:Bool->St->Prop)(st:St):Prop :=
 match v with
 |.bool b=>K b st
 |.int i=>K (i != 0) st
 |.none=>K false st
 |v=>C6 (F1 Γ.p Γ.w Γ.A Γ.B Γ.e aK truthy v st K)
set_option backward.match.sparseCases false in
noncomputable def Rq(o:AV):Bool :=
 match o with
 |.lst _ |.tup _ |.str _=>true
 |_=>false
def Ao(o k:AV)(K:AV->St->Prop)(st:St):Prop :=
 pz (Rq o) (b2 Γ getItem o k K st) (Ŝ Γ.B o st.led/\b2 Γ getItem o k K st)
set_option backward.match.sparseCases false in
noncomputable def EY:AV->Bool
 |.typ _ |.blt _ |.bm _ _=>true
 |.ref f=>Γ.F.any fun g=>Nat.beq f g
 |_=>false
noncomputable def sh(e:Expr):Bool :=
 match e with
 |.Starred .. => true
 |_=>false
noncomputable def kF(e:Expr):Bool := !sh e
set_option backward.match.sparseCases false in
noncomputable def xP:Expr->Bool
 |.Call .. => false
 |_=>true
set_option backward.match.sparseCases false in
noncomputable def CR:Expr->Bool
 |.Name .. |.Constant .. |.BinOp .. |.UnaryOp .. |.Subscript .. => true
 |_=>false
set_option backward.match.sparseCases false in
noncomputable def rM:Expr->Bool
 |.ListComp .. |.SetComp .. |.DictComp .. => false
 |_=>true
def Jc(c:Const)(K:AV->St->Prop)(st:St)(fb:Prop):Prop :=
 match c with
 |.int i=>K (.int i) st
 |.str x=>K (.str x) st
 |.none=>K .none st
 |.bool b=>K (.bool b) st
 |_=>fb
set_option genInjectivity false in set_option genSizeOf false in
inductive Vw where
 |name (x:Str) (p:Pos) |attr (e:Expr) (n:Str) (p:Pos) |tup (xs:List Expr) (n:Nat) (p:Pos) |num (i:Int) (k:Nat) (p:Pos) |no
set_option backward.match.sparseCases false in
noncomputable def vw(e:Expr):Vw :=
 match e with
 |.Name x p => .name x p
 |.Attribute e n p => .attr e n p
 |.Tuple xs n p => .tup xs n p
 |.Constant (.int i) k p => .num i k p
 |_ => .no
noncomputable def Vw.pick{α:Sort _}(v:Vw)(d:α)(f:Str->Pos->α)(g:Expr->Str->Pos->α)(h:List Expr->Nat->Pos->α)(k:Int->Nat->Pos->α):α:=@Vw.rec (fun O=>α) f g h k d v
theorem pi(e:Expr):(vw e).pick True (fun x p=>e=.Name x p) (fun o n p=>e=.Attribute o n p) (fun xs n p=>e=.Tuple xs n p) (fun i k p=>e=.Constant (.int i) k p):=by
 cases e with
 |Name=>rfl
 |Attribute=>rfl
 |Tuple=>rfl
 |Constant c k p=>cases c <;> first |rfl |trivial
 |_=>trivial
noncomputable def xT(x:Expr):Option Int:=(vw x).pick none (fun O O=>none) (fun O O O=>none) (fun O O O=>none) fun i O O=>some i
noncomputable def Rv(o:UnaryOp):Bool :=
 match o with
 |.USub=>true
 |_=>false
noncomputable def Rz(o:UnaryOp):Bool :=
 match o with
 |.Not=>true
 |_=>false
noncomputable def one(l:List α):Option α :=
 match l with
 | []=>none
 |x::r=>(match r with
  | []=>some x
  |_::_=>none)
noncomputable def cg(x:Expr):Option Str:=(vw x).pick none (fun n O=>some n) (fun O O O=>none) (fun O O O=>none) fun O O O=>none
noncomputable def xY(x:Expr):Option (Expr×Str×Pos):=(vw x).pick none (fun O O=>none) (fun o n p=>some (o,n,p)) (fun O O O=>none) fun O O O=>none
noncomputable def mk(x:Str)(l:List K2):Option K2:=@List.rec _ (fun O=>Option K2) none (fun p O ih=>@Bool.rec (fun O=>Option K2) ih (some p) (cq x p.name)) l
set_option backward.match.sparseCases false in
noncomputable def Fb(v:AV)(k:Nat):Bool :=
 match v with
 |.str _=>Nat.beq k 0
 |.lst _=>Nat.beq k 1
 |_=>false
def Ar(ih:Q5->St->Prop)(f:Expr)(args:List Expr)(pos:Pos)(K:AV->St->Prop)(st:St)(fb:Prop):Prop :=
 oN (xY f) (pz (cg f).isSome (ih (.e f fun fv s₁=>pz (EY Γ fv&&args.all kF) (ih (.es pos args fun vs s2=>C6 (FC Γ.p Γ.w Γ.A Γ.B Γ.e fv vs [] s2 K)) s₁) (C6 (CA Γ.p Γ.w Γ.A Γ.B Γ.e pos fv [] args s₁ K))) st) fb) fun m=>oN (mk m.2.1 Γ.M) fb fun t =>
  pz (Nat.ble args.length 25&&(args.all kF&&(Nat.beq m.2.2.endLine pos.line&&xP m.1))) (ih (.e m.1 fun v s₁=>pz (Fb v t.kind) (ih (.es pos args fun vs s2=>C6 (FC Γ.p Γ.w Γ.A Γ.B Γ.e (.blt t.id) (v::vs) [] s2 K)) s₁) (eb Γ.B v s₁.led (kO t.kind)/\ih (.es pos args fun vs s2=>C6 (FC Γ.p Γ.w Γ.A Γ.B Γ.e (.blt t.id) (v::vs) [] s2 K)) s₁)) st) fb
set_option backward.match.sparseCases false in
def Bb(ih:Q5->St->Prop)(x:Expr)(K:AV->St->Prop)(st:St):Prop :=
 match x with
 |.Constant c k p=>Jc c K st (dE Γ (.Constant c k p) K st)
 |.Name x pos=>Ap Γ x pos K st
 |.Tuple xs n pos=>ih (.es pos xs fun vs C4=>pz (Nat.ble vs.length 50) (K (.tup vs) C4) False) st
 |.BinOp l op r _=>ih (.e l fun v s₁=>ih (.e r fun u s2=>As Γ op v u K s2) s₁) st
 |.Compare l J6 rs pos=>oN (one J6) (dE Γ (.Compare l J6 rs pos) K st) fun op=>oN (one rs) (dE Γ (.Compare l J6 rs pos) K st) fun r =>
   pz (behindInMarks op r) (dE Γ (.Compare l J6 rs pos) K st) (ih (.e l fun v s₁=>ih (.e r fun u s2=>tS Γ op v u K s2) s₁) st)
 |.IfExp t a b _=>ih (.t t fun c s₁=>pk c (ih (.e a K) s₁) (ih (.e b K) s₁)) st
 |.UnaryOp o x pos=>pz (Rv o) (oN (xT x) (dE Γ (.UnaryOp o x pos) K st) fun i=>K (.int (-i)) st) (dE Γ (.UnaryOp o x pos) K st)
 |.Subscript v i pos=>pz (CR i) (ih (.e v fun o s₁=>ih (.e i fun k s2=>Ao Γ o k K s2) s₁) st) (dE Γ (.Subscript v i pos) K st)
 |.Call f args Y0 pos=>pz Y0.isEmpty (Ar Γ ih f args pos K st (dE Γ (.Call f args Y0 pos) K st)) (dE Γ (.Call f args Y0 pos) K st)
 |.Attribute o n pos=>pz (xP o) (ih (.e o fun v s₁=>C6 (F1 Γ.p Γ.w Γ.A Γ.B Γ.e Val (fun x=>getAttr x n true) v s₁ K)) st) (dE Γ (.Attribute o n pos) K st)
 |x=>dE Γ x K st
def Kj(ih:Q5->St->Prop)(pos:Pos)(xs:List Expr)(K:List AV->St->Prop)(st:St):Prop :=
 match xs with
 | []=>K [] st
 |x::xs=>pz (kF x) (ih (.e x fun v s₁=>ih (.es pos xs fun vs s2=>K (v::vs) s2) s₁) st) (An Γ pos (x::xs) K st)
set_option backward.match.sparseCases false in
def Ke(ih:Q5->St->Prop)(x:Expr)(K:Bool->St->Prop)(st:St):Prop :=
 match x with
 |.UnaryOp o x pos=>pz (Rz o) (ih (.t x fun b s₁=>K (!b) s₁) st) (jE Γ (.UnaryOp o x pos) K st)
 |.BoolOp op xs _=>ih (.ts op xs K) st
 |.Compare l J6 rs pos=>oN (one J6) (jE Γ (.Compare l J6 rs pos) K st) fun op=>oN (one rs) (jE Γ (.Compare l J6 rs pos) K st) fun r =>
   pz (behindInMarks op r) (jE Γ (.Compare l J6 rs pos) K st) (ih (.e l fun v s₁=>ih (.e r fun u s2=>tS Γ op v u (fun c s3=>ph Γ c K s3) s2) s₁) st)
 |.Name x pos=>ih (.e (.Name x pos) fun v s₁=>ph Γ v K s₁) st
 |.Call f args Y0 pos=>ih (.e (.Call f args Y0 pos) fun v s₁=>ph Γ v K s₁) st
 |x=>jE Γ x K st
noncomputable def Fc(o:BoolOp):Bool :=
 match o with
 |.And=>true
 |.Or=>false
def Kg(ih:Q5->St->Prop)(op:BoolOp)(xs:List Expr)(K:Bool->St->Prop)(st:St):Prop :=
 match xs with
 | []=>K (Fc op) st
 |x::xs=>ih (.t x fun b s₁=>pz (Fc op) (pk b (ih (.ts op xs K) s₁) (K false s₁)) (pk b (K true s₁) (ih (.ts op xs K) s₁))) st
noncomputable def RA(f:D4):Bool :=
 match f with
 |.next=>true
 |_=>false
def Kh(ih:Q5->St->Prop)(xs:List Stmt)(K:D4->St->Prop)(st:St):Prop :=
 match xs with
 | []=>K .next st
 |x::xs=>ih (.s x fun f s₁=>pz (RA f) (ih (.ss xs K) s₁) (K f s₁)) st
noncomputable def ki(vs:List Expr):Bool := !(vs.any sh)&&(!(vs.all (foldedForSure 8)) && !(vs.all (constantsAlone 8)))
def lj(l:List α)(fb:Prop)(f:α->List α->Prop):Prop:=@List.rec α (fun O=>Prop) fb (fun a r O=>f a r) l
def xR(l:List α)(fb P:Prop):Prop:=@List.rec α (fun O=>Prop) P (fun O O O=>fb) l
def tV(l:List α)(fb:Prop)(f:α->α->Prop):Prop:=lj l fb fun a r=>lj r fb fun b r=>xR r fb (f a b)
def tY(l:List α)(fb:Prop)(f:α->α->α->Prop):Prop:=lj l fb fun a r=>lj r fb fun b r=>lj r fb fun c r=>xR r fb (f a b c)
theorem oA{l:List α}{fb:Prop}{f:α->List α->Prop}(h:lj l fb f)(h1:fb->P)(h2:∀a r,l=a::r->f a r->P):P:=by
 cases l with
 |nil=>exact h1 h
 |cons a r=>exact h2 a r rfl h
theorem El{l:List α}{fb Q:Prop}(h:xR l fb P)(h1:fb->Q)(h2:l=[]->P->Q):Q:=by
 cases l with
 |nil=>exact h2 rfl h
 |cons a r=>exact h1 h
theorem Aw{l:List α}{fb:Prop}{f:α->α->Prop}(h:tV l fb f)(h1:fb->P)(h2:∀a b,l=[a,b]->f a b->P):P :=
 oA h h1 fun a O e h=>oA h h1 fun b O e2 h=>El h h1 fun e3 h=>h2 a b (by rw[e,e2,e3]) h
theorem AH{l:List α}{fb:Prop}{f:α->α->α->Prop}(h:tY l fb f)(h1:fb->P)(h2:∀a b c,l=[a,b,c]->f a b c->P):P :=
 oA h h1 fun a O e h=>oA h h1 fun b O e2 h=>oA h h1 fun c O e4 h=>El h h1 fun e3 h=>h2 a b c (by rw[e,e2,e4,e3]) h
def AM(ih:Q5->St->Prop)(t1 t2:Expr)(pos:Pos)(vs:List Expr)(K:D4->St->Prop)(st:St)(fb:Prop):Prop :=
 oN (cg t1) fb fun x=>oN (cg t2) fb fun y=>pz (Nat.beq vs.length 2&&(ki vs&&(Nat.beq t1.pos.line t2.pos.line&&(!cq x y&&((lk x st.loc).isSome&&(lk y st.loc).isSome)))))
  (ih (.es pos vs fun us s₁=>tV us False fun u v=>pz ((lk x s₁.loc).isSome&&(lk y s₁.loc).isSome) (K .next ⟨sk x u (sk y v s₁.loc),s₁.led⟩) False) st) fb
def AL(ih:Q5->St->Prop)(t1 t2 t3:Expr)(pos:Pos)(vs:List Expr)(K:D4->St->Prop)(st:St)(fb:Prop):Prop :=
 oN (cg t1) fb fun x=>oN (cg t2) fb fun y=>oN (cg t3) fb fun z=>pz (Nat.beq vs.length 3&&(ki vs&&(Nat.beq t1.pos.line t2.pos.line&&(Nat.beq t1.pos.line t3.pos.line&&(!cq x y&&(!cq x z&&(!cq y z&&((lk x st.loc).isSome&&((lk y st.loc).isSome&&(lk z st.loc).isSome)))))))))
  (ih (.es pos vs fun us s₁=>tY us False fun u v r=>pz ((lk x s₁.loc).isSome&&((lk y s₁.loc).isSome&&(lk z s₁.loc).isSome)) (K .next ⟨sk x u (sk y v (sk z r s₁.loc)),s₁.led⟩) False) st) fb
noncomputable def pj(x:Expr):Option (List Expr×Nat×Pos):=(vw x).pick none (fun O O=>none) (fun O O O=>none) (fun xs n p=>some (xs,n,p)) fun O O O=>none
noncomputable def Bl(xs:List Str):List AV->List (Str×AV)->List (Str×AV):=@List.rec _ (fun O=>List AV->List (Str×AV)->List (Str×AV)) (fun O l=>l) (fun x O ih vs l=>@List.rec _ (fun O=>List (Str×AV)) l (fun v r O=>ih r (sk x v l)) vs) xs
def VH(ih:Q5->St->Prop)(ts:List Expr)(pos:Pos)(vs:List Expr)(K:D4->St->Prop)(st:St)(fb:Prop):Prop :=
 pz (Nat.ble 4 ts.length&&Nat.beq (ts.filterMap cg).length ts.length)
  (ih (.es pos vs fun us s₁=>pz (Nat.ble us.length 50&&(Nat.beq us.length ts.length&&(ts.filterMap cg).all fun x=>(lk x s₁.loc).isSome)) (K .next ⟨Bl (ts.filterMap cg) us s₁.loc,s₁.led⟩) False) st) fb
def AK(ih:Q5->St->Prop)(ts:List Expr)(pos:Pos)(vs:List Expr)(K:D4->St->Prop)(st:St)(fb:Prop):Prop :=
 tV ts (tY ts (VH ih ts pos vs K st fb) fun t1 t2 t3=>AL ih t1 t2 t3 pos vs K st fb) fun t1 t2=>AM ih t1 t2 pos vs K st fb
set_option backward.match.sparseCases false in
def Ba(ih:Q5->St->Prop)(x:Stmt)(K:D4->St->Prop)(st:St):Prop :=
 match x with
 |.If t a b _=>ih (.t t fun c s₁=>pk c (ih (.ss a K) s₁) (ih (.ss b K) s₁)) st
 |.Return e _=>oN e (K (.ret .none) st) fun e=>ih (.e e fun v s₁=>K (.ret v) s₁) st
 |.Pass _=>K .next st
 |.Break _=>K .brk st
 |.Continue _=>K .cont st
 |.Expr e pos=>pz (rM e) (ih (.e e fun O s₁=>K .next s₁) st) (eJ Γ (.Expr e pos) K st)
 |.Assign ts e pos=>oN (one ts) (eJ Γ (.Assign ts e pos) K st) fun t=>oN (cg t) (oN (pj t) (eJ Γ (.Assign ts e pos) K st) fun a=>oN (pj e) (eJ Γ (.Assign ts e pos) K st) fun b=>AK ih a.1 b.2.2 b.1 K st (eJ Γ (.Assign ts e pos) K st)) fun x =>
   pz (rM e&&(lk x st.loc).isSome) (ih (.e e fun v s₁=>pz (lk x s₁.loc).isSome (K .next ⟨sk x v s₁.loc,s₁.led⟩) False) st) (eJ Γ (.Assign ts e pos) K st)
 |.AugAssign t op e pos=>oN (cg t) (eJ Γ (.AugAssign t op e pos) K st) fun x=>oN (lk x st.loc) (eJ Γ (.AugAssign t op e pos) K st) fun v=>pz (Dk v)
   (ih (.e e fun u s₁=>Aq Γ op v u (fun r s2=>pz (lk x s2.loc).isSome (K .next ⟨sk x r s2.loc,s2.led⟩) False) s₁) st) (eJ Γ (.AugAssign t op e pos) K st)
 |x=>eJ Γ x K st
def step(ih:Q5->St->Prop)(c:Q5)(st:St):Prop :=
 match c with
 |.e x K=>Bb Γ ih x K st
 |.es pos xs K=>Kj Γ ih pos xs K st
 |.t x K=>Ke Γ ih x K st
 |.ts op xs K=>Kg ih op xs K st
 |.s x K=>Ba Γ ih x K st
 |.ss xs K=>Kh ih xs K st
def wp:Nat->Q5->St->Prop
 |0=>pD Γ
 |n+1=>step Γ (wp n)
end
section
variable{Γ:Ctx}
theorem bQ{b:Bool}{Q R:Prop}(h:pk b P Q)(h1:b=true->P->R)(h2:b=false->Q->R):R:=by
 cases b with
 |true=>exact h1 rfl h
 |false=>exact h2 rfl h
theorem bK{b:Bool}{Q:Prop}(h1:b=true->P)(h2:b=false->Q):pk b P Q:=by
 cases b with
 |true=>exact h1 rfl
 |false=>exact h2 rfl
theorem cG{o:Option α}{R:Prop}{f:α->Prop}(h:oN o P f)(h1:P->R)(h2:∀x,o=some x->f x->R):R:=by
 cases o with
 |none=>exact h1 h
 |some x=>exact h2 x rfl h
structure P7 (Γ:Ctx):Prop where
 glob:∀p∈Γ.G,bn Γ.B p.1 p.2/\Γ.e.kindOf p.1=some .globalImplicit/\cq p.1 B9=false
 gl:Γ.e.globals=l9
 bu:Γ.e.builtins=s7
 kept:∀f∈Γ.F,fS Γ.p Γ.w Γ.B (.ref f)
 act:interactive Γ.e=false
 blk:Γ.e.blockKind=.function
 hh:Γ.A.handled=none
 meth:∀m∈Γ.M,PlainAttrs (kO m.kind)/\Slot (kO m.kind) m.name m.id/\typeOf (.builtin m.id)=o4 (.type "method_descriptor")
theorem P7.g{F:List b0}{M:List K2}(h:P7 ⟨C0,w,A,B,C1,G,F,M⟩)(h1:bn B x v)(h2:C1.kindOf x=some .globalImplicit)(h3:cq x B9=false):P7 ⟨C0,w,A,B,C1,(x,v)::G,F,M⟩ :=
 { h with glob:=fun p hp=>(Zy.mp hp).elim (fun e=>by subst e;exact⟨h1,h2,h3⟩) (h.glob p)}
theorem P7.f{F:List b0}{M:List K2}(h:P7 ⟨C0,w,A,B,C1,G,F,M⟩){f:b0}(h1:fS C0 w B (.ref f)):P7 ⟨C0,w,A,B,C1,G,f::F,M⟩ :=
 { h with kept:=fun p hp=>(Zy.mp hp).elim (fun e=>by subst e;exact h1) (h.kept p)}
theorem P7.m{F:List b0}{M:List K2}(h:P7 ⟨C0,w,A,B,C1,G,F,M⟩)(m:K2)(h1:PlainAttrs (kO m.kind))(h2:Slot (kO m.kind) m.name m.id)(h3:typeOf (.builtin m.id)=o4 (.type "method_descriptor")):P7 ⟨C0,w,A,B,C1,G,F,m::M⟩ :=
 { h with meth:=fun p hp=>(Zy.mp hp).elim (fun e=>by subst e;exact⟨h1,h2,h3⟩) (h.meth p)}
theorem jm(h1:C1.globals=l9)(h2:C1.builtins=s7)(h3:interactive C1=false)(h4:C1.blockKind=.function)(h5:A.handled=none):P7 ⟨C0,w,A,B,C1,[],[],[]⟩ :=
 { glob:=fun O h=>(nomatch h),gl:=h1,bu:=h2,kept:=fun O h=>(nomatch h),act:=h3,blk:=h4,hh:=h5,meth:=fun O h=>(nomatch h)}
theorem EM:∀ {l:List (Str×AV)},lk x l=some v->(x,v)∈l
 | [],h=>by cases h
 |(y,u)::l,h=>by
  have h':@Bool.rec (fun O=>Option AV) (lk x l) (some u) (cq x y)=some v:=h;cases hq:cq x y with
  |true =>
   rw[hq] at h';obtain rfl:=sx.mp hq;obtain rfl:u=v:=r7 h';exact Zr ..
  |false =>
   rw[hq] at h';exact Zt _ (EM h')
theorem xX{m:K2}:∀ {l:List K2},mk x l=some m->m∈l/\m.name=x
 | [],h=>by cases h
 |y::l,h=>by
  have h':@Bool.rec (fun O=>Option K2) (mk x l) (some y) (cq x y.name)=some m:=h;cases hq:cq x y.name with
  |true =>
   rw[hq] at h';obtain rfl:y=m:=r7 h';exact⟨Zr ..,(sx.mp hq).symm⟩
  |false =>
   rw[hq] at h';exact⟨Zt _ (xX h').1,(xX h').2⟩
theorem Pi(g:P7 Γ)(h:Ap Γ x pos K st):T Γ.p Γ.w Γ.A Γ.B Γ.e Val (k7 (.Name x pos) Γ.e) st K :=
 cG h (fun h=>cG h C6.out fun v e h=>by
  refine di (g.glob _ (EM e)) fun h1 h2 h3=>?_;exact HE h1 h2 g.gl g.bu (by rw[sy];exact h3) h) fun v e h=>bQ h (fun hb hk=>by
  rw[i9,Bool.not_eq_true'] at hb;refine WF (by rw[← jg];exact e) hk (by rw[sy];exact hb.2) ?_;cases v <;> first |rfl |exact(d3 hb.1).elim) fun O=>C6.out
theorem fK{u:AV}{fb:Prop}{f:Int->Int->Prop}{R:Prop}(h:fh v u fb f)(h1:fb->R)(h2:∀a b,v=.int a->u=.int b->f a b->R):R:=by
 cases v with
 |int a=>cases u with
  |int b=>exact h2 a b rfl rfl h
  |_=>exact h1 h
 |_=>exact h1 h
theorem Bd{u:AV}{fb:Prop}{f:Str->Str->Prop}{R:Prop}(h:ud v u fb f)(h1:fb->R)(h2:∀a b,v=.str a->u=.str b->f a b->R):R:=by
 cases v with
 |str a=>cases u with
  |str b=>exact h2 a b rfl rfl h
  |_=>exact h1 h
 |_=>exact h1 h
theorem Vz{op:Operator}{u:AV}(h:As Γ op v u K st):F2 Γ.p Γ.w Γ.A Γ.B Γ.e Val (binaryOp op) v u st K:=by
 cases op with
 |Add=>exact fK h C6.out fun a b e1 e2 k=>by exact(Eq.symm (e1))▸(Eq.symm (e2))▸YQ k
 |Sub=>exact fK h C6.out fun a b e1 e2 k=>by exact(Eq.symm (e1))▸(Eq.symm (e2))▸Yp k
 |_=>exact C6.out h
theorem RN{op:Operator}{u:AV}(h:Aq Γ op v u K st):F2 Γ.p Γ.w Γ.A Γ.B Γ.e Val (inplaceOp op) v u st K:=by
 cases op with
 |Add=>exact fK h C6.out fun a b e1 e2 k=>by exact(Eq.symm (e1))▸(Eq.symm (e2))▸YG k
 |Sub=>exact fK h C6.out fun a b e1 e2 k=>by exact(Eq.symm (e1))▸(Eq.symm (e2))▸YA k
 |_=>exact C6.out h
theorem Ek{u:AV}(h:yv u=true):u=.none:=by
 cases u <;> first |rfl |exact(d3 h).elim
theorem GF{op:CmpOp}{u:AV}(h:tS Γ op v u K st):F2 Γ.p Γ.w Γ.A Γ.B Γ.e Val (u0 op) v u st K:=by
 cases op with
 |Eq=>exact fK h (fun h=>Bd h C6.out fun a b e1 e2 k=>by exact(Eq.symm (e1))▸(Eq.symm (e2))▸YK k) fun a b e1 e2 k=>by exact(Eq.symm (e1))▸(Eq.symm (e2))▸YN k
 |NotEq=>exact fK h (fun h=>Bd h C6.out fun a b e1 e2 k=>by exact(Eq.symm (e1))▸(Eq.symm (e2))▸Yq k) fun a b e1 e2 k=>by exact(Eq.symm (e1))▸(Eq.symm (e2))▸Ys k
 |Lt=>exact fK h C6.out fun a b e1 e2 k=>by exact(Eq.symm (e1))▸(Eq.symm (e2))▸Yx k
 |Gt=>exact fK h C6.out fun a b e1 e2 k=>by exact(Eq.symm (e1))▸(Eq.symm (e2))▸YH k
 |LtE=>exact fK h C6.out fun a b e1 e2 k=>by exact(Eq.symm (e1))▸(Eq.symm (e2))▸Yy k
 |GtE=>exact fK h C6.out fun a b e1 e2 k=>by exact(Eq.symm (e1))▸(Eq.symm (e2))▸YI k
 |Is =>
  refine bQ h (fun hb k=>?_) fun O=>C6.out;rw[i9] at hb;refine aw (Option.isSome_iff_exists.mp hb.2) fun q hq=>?_;rw[Ek hb.1];rw[hq] at k;exact YC hq k
 |IsNot =>
  refine bQ h (fun hb k=>?_) fun O=>C6.out;rw[i9] at hb;refine aw (Option.isSome_iff_exists.mp hb.2) fun q hq=>?_;rw[Ek hb.1];rw[hq] at k;exact YB hq k
 |_=>exact C6.out h
theorem tW{K:Bool->St->Prop}(h:ph Γ v K st):F1 Γ.p Γ.w Γ.A Γ.B Γ.e aK truthy v st K:=by
 cases v with
 |bool b=>exact tm h
 |int i=>exact YS h
 |none=>exact YR h
 |_=>exact C6.out h
theorem JN{o k:AV}(h:Ao Γ o k K st) :
  Ŝ Γ.B o st.led/\F2 Γ.p Γ.w Γ.A Γ.B Γ.e Val getItem o k st K:=by
 refine bQ h (fun hb h=>?_) fun O h=>⟨h.1,h.2.out⟩;cases o with
 |lst _=>exact⟨.mk list_getitem_lookup tT,h.out⟩
 |tup _=>exact⟨.mk F.slot_tuple_getitem.lookup Jg,h.out⟩
 |str _=>exact⟨.mk F.slot_str_getitem.lookup lD,h.out⟩
 |_=>exact(d3 hb).elim
theorem AZ{x:Expr}{xs:List Expr}(h:kF x=true):f0 (x::xs) Γ.e=(false,k7 x Γ.e)::f0 xs Γ.e:=by
 cases x <;> first |rfl |exact(d3 h).elim
theorem Hb{o:Expr}{n:Str}(h:xP o=true):attributeBase o n Γ.e (k7 o Γ.e)=k7 o Γ.e:=by
 cases o <;> first |rfl |exact(d3 h).elim
theorem lJ(pos:Pos):∀ {xs:List Expr},xs.all kF=true->((u5 pos (f0 xs Γ.e)).all fun x => !x.1)=true
 | [],_=>rfl
 |x::xs,h=>by
  rw[List.all_cons,i9] at h;rw[AZ h.1];show (!false&&((u5 pos (f0 xs Γ.e)).all fun x => !x.1))=true;rw[lJ pos h.2];rfl
theorem Rh(g:P7 Γ){f:AV}(h:EY Γ f=true):fS Γ.p Γ.w Γ.B f:=by
 cases f with
 |typ n=>exact Re
 |blt n=>exact jh
 |bm i s=>exact Ri
 |ref a =>
  refine ae (List.any_eq_true.mp h) fun b hb e=>?_;obtain rfl:=Nat.eq_of_beq_eq_true e;exact g.kept _ hb
 |_=>exact(d3 h).elim
theorem zc{e:Expr}{t:Option Expr}(h:rM e=true):swapsWith e t n Γ.e=o4 false:=by
 cases e <;> first |rfl |exact(d3 h).elim
theorem NN{e:Expr}(h:CR e=true):∀o i,subscripted e false o i=operate [o,i] (getItem o i):=by
 cases e <;> first |(intro _ _;rfl) |exact(d3 h).elim
theorem T.up{rel:D3->α->β->Prop}{t:Sem β}{K K':α->St->Prop}(h:T C0 w A B C1 rel t st K)(k:∀v s,K v s->K' v s):T C0 w A B C1 rel t st K':=h.mono k
theorem bp{K:St->Prop}(hb:(lk x st.loc).isSome=true)(h:K ⟨sk x v st.loc,st.led⟩):F1 C0 w A B C1 aS (A8 C1 x) v st fun O s=>K s:=fun s Z u V S Q E hQ=>by
 refine aw (Option.isSome_iff_exists.mp hb) fun q hq=>?_;exact Ij (S.kinds x q (by rw[← jg];exact hq)) (uq ..).symm h s Z u V S Q E hQ
theorem F2.up2{f:Value->Value->Sem Value}{u:AV}{K':AV->St->Prop}(h:F2 C0 w A B C1 Val f v u st K)(k:∀v s,K v s->K' v s):F2 C0 w A B C1 Val f v u st K' :=
 fun s Z G2 x2 V1 V2 S Q E hQ=>h s Z G2 x2 V1 V2 S Q E fun v x s' Z' C4 hk=>hQ v x s' Z' C4 (k v C4 hk)
theorem ko{l:List α}{x:α}(h:one l=some x):l=[x]:=by
 cases l with
 |nil=>cases h
 |cons y r=>cases r with
  |nil=>cases h;rfl
  |cons z r=>cases h
theorem fX{x:Expr}{n:Str}(h:cg x=some n):∃p,x=.Name n p:=by
 have q:=pi x;revert h;unfold cg;cases e:vw x <;> intro h <;> first |(rw[e] at q;cases h;exact⟨_,q⟩) |cases h
theorem OX{x:Expr}{i:Int}(h:xT x=some i):∃k p,x=.Constant (.int i) k p:=by
 have q:=pi x;revert h;unfold xT;cases e:vw x <;> intro h <;> first |(rw[e] at q;cases h;exact sY _ _ q) |cases h
theorem Pm{x:Expr}{m:Expr×Str×Pos}(h:xY x=some m):x=.Attribute m.1 m.2.1 m.2.2:=by
 have q:=pi x;revert h;unfold xY;cases e:vw x <;> intro h <;> first |(rw[e] at q;cases h;exact q) |cases h
theorem Ry{led:aa}(h:Fb v k=true):eb Γ.B v led (kO k):=by
 cases v with
 |str x=>obtain rfl:=Nat.eq_of_beq_eq_true h;exact lD
 |lst x=>obtain rfl:=Nat.eq_of_beq_eq_true h;exact tT
 |_=>exact(d3 h).elim
theorem Ub(pos:Pos){args:List Expr}(h1:args.all kF=true)(h2:args.length<=25):((u5 pos (f0 args Γ.e)).all (fun x => !x.1)&&(backToKw pos (keywordEach [] Γ.e)).all (fun x=>x.1.isSome)
   && decide (args.length+([]:List Keyword).length+(if ([]:List Keyword).isEmpty then 0 else 1)<30))=true:=by
 rw[lJ pos h1];exact decide_eq_true (Nat.lt_of_le_of_lt h2 (by decide))
theorem Vm(g:P7 Γ){ih:Q5->St->Prop}(hE:∀ {x:Expr} {K:AV->St->Prop} {st:St},ih (.e x K) st->T Γ.p Γ.w Γ.A Γ.B Γ.e Val (k7 x Γ.e) st K)
  (hA:∀ {pos:Pos} {x:List Expr} {K:List AV->St->Prop} {st:St},ih (.es pos x K) st->T Γ.p Γ.w Γ.A Γ.B Γ.e Vals (spliced (u5 pos (f0 x Γ.e))) st K)
  {f:Expr} {args:List Expr}    {fb:Prop} (hf:fb->T Γ.p Γ.w Γ.A Γ.B Γ.e Val (k7 (.Call f args [] pos) Γ.e) st K) (h:Ar Γ ih f args pos K st fb) :
  T Γ.p Γ.w Γ.A Γ.B Γ.e Val (k7 (.Call f args [] pos) Γ.e) st K :=
 cG h (fun h=>bQ h (fun hb h=>by
  refine aw (Option.isSome_iff_exists.mp hb) fun n hn=>?_;refine aw (fX hn) fun p O2=>?_;subst O2;exact zG rfl ((hE h).up fun v s k=>bQ k (fun hb k=>by
   rw[i9] at hb;exact ds (lJ _ hb.2) (Rh g hb.1) ((hA k).up fun O O k=>k.out)) fun O=>C6.out)) fun O=>hf) fun m e1 h=>cG h hf fun t e2 h=>bQ h (fun hb h=>by
  rw[i9,i9,i9] at hb;refine aA (xX e2) fun h1 h2=>?_;refine di (g.meth t h1) fun q1 q2 q3=>?_;rw[Pm e1];rw[h2] at q2;refine zD (Hb hb.2.2.2) (Ub pos hb.2.1 (j5 hb.1)) (beq_iff_eq.mpr (Nat.eq_of_beq_eq_true hb.2.2.1)) q1 q2 q3 ((hE h).up fun v s k=>bQ k (fun hs k=>⟨Ry hs,?_⟩) fun O k=>⟨k.1,?_⟩)
  ·exact ds (lJ _ hb.2.1) jh ((hA k).up fun O O k=>k.out)
  ·exact ds (lJ _ hb.2.1) jh ((hA k.2).up fun O O k=>k.out)) fun O=>hf
theorem Ki(g:P7 Γ){ih:Q5->St->Prop}(hE:∀ {x:Expr} {K:AV->St->Prop} {st:St},ih (.e x K) st->T Γ.p Γ.w Γ.A Γ.B Γ.e Val (k7 x Γ.e) st K)
  (hA:∀ {pos:Pos} {x:List Expr} {K:List AV->St->Prop} {st:St},ih (.es pos x K) st->T Γ.p Γ.w Γ.A Γ.B Γ.e Vals (spliced (u5 pos (f0 x Γ.e))) st K)
  (hT:∀ {x:Expr} {K:Bool->St->Prop} {st:St},ih (.t x K) st->T Γ.p Γ.w Γ.A Γ.B Γ.e aK (isTrue x Γ.e (k7 x Γ.e)) st K) {x:Expr}   (h:Bb Γ ih x K st):T Γ.p Γ.w Γ.A Γ.B Γ.e Val (k7 x Γ.e) st K:=by
 cases x with
 |Constant c k p=>cases c with
  |int i=>exact HC h
  |str i=>exact HB h
  |none=>exact WC h
  |bool i=>exact WH h
  |_=>exact C6.out h
 |Name x pos=>exact Pi g h
 |Tuple xs n pos=>exact sV ((hA h).up fun vs s k=>bQ k (fun hb k=>⟨d7 (j5 hb) (by decide),k⟩) fun O k=>False.elim k)
 |BinOp l op r pos=>exact HJ ((hE h).up fun v s k=>(hE k).up fun u s k=>Vz k)
 |Compare l J6 rs pos =>
  exact cG h C6.out fun op e1 h=>cG h C6.out fun r e2 h=>by
   obtain rfl:=ko e1;obtain rfl:=ko e2;exact bQ h (fun O=>C6.out) fun hb h=>WM ((hE h).up fun v s k=>(hE k).up fun u s k=>GF k) hb
 |IfExp t a b pos=>exact WK ((hT h).up fun c s k=>by cases c with |true=>exact hE k |false=>exact hE k)
 |UnaryOp o x pos=>cases o with
  |USub =>
   exact cG h C6.out fun i e h=>by
    refine gF (OX e) fun k p O3=>?_;subst O3;exact WD h
  |_=>exact C6.out h
 |Subscript v i pos=>exact bQ h (fun hb h=>HF (NN hb) ((hE h).up fun v s k=>(hE k).up fun u s k=>JN k)) fun O=>C6.out
 |Attribute o n pos=>exact bQ h (fun hb h=>WN (Hb hb) ((hE h).up fun O O k=>k.out)) fun O=>C6.out
 |Call f args Y0 pos =>
  refine bQ h (fun hb h=>?_) fun O=>C6.out;obtain rfl:=List.isEmpty_iff.mp hb;exact Vm g hE hA C6.out h
 |_=>exact C6.out h
theorem Ax{x:Expr}{a:List Expr×Nat×Pos}(h:pj x=some a):x=.Tuple a.1 a.2.1 a.2.2:=by
 have q:=pi x;revert h;unfold pj;cases e:vw x <;> intro h <;> first |(rw[e] at q;cases h;exact q) |cases h
theorem rP(h:(!cq x y)=true):x≠y:=fun e=>by
 rw[sx.mpr e] at h;cases h
theorem ug{t e:Expr}(h:rM e=true):swapsWithSole [t] e n Γ.e=o4 false:=zc h
theorem At{vs:List Expr}(h:ki vs=true):vs.any sh=false/\vs.all (foldedForSure 8)=false/\vs.all (constantsAlone 8)=false:=by
 unfold ki at h;rw[i9,i9] at h;exact⟨Bool.not_eq_true' _ |>.mp h.1,Bool.not_eq_true' _ |>.mp h.2.1,Bool.not_eq_true' _ |>.mp h.2.2⟩
noncomputable def rQ(C1:Env)(line:Nat):Expr->Option Str
 |.Name id pos=>if C1.kindOf id==some .local&&pos.line==line then some id else none
 |_=>none
theorem nM{p:Pos}{a:Nat}(hx:Γ.e.kindOf x=some .local)(e:p.line=a):rQ Γ.e a (.Name x p)=some x :=
 if_pos (by rw[hx,e,beq_self_eq_true,beq_self_eq_true];rfl)
theorem xQ{b:Bool}(h:b=false) : ¬ b=true:=fun e=>d3 (h.symm.trans e)
theorem AJ{ts vs:List Expr}{names:List Str}{n1 n2:Nat}{p1 p2:Pos}(h0 : ¬ (!(ts.length==2||ts.length==3)||vs.length != ts.length||Γ.e.blockKind != .function)=true)(h1:vs.any sh=false)
  (h2:vs.all (foldedForSure 8)=false) (h3:vs.all (constantsAlone 8)=false) (e:ts.filterMap (rQ Γ.e ((ts.head?.map (·.pos.line)).getD 0))=names)
  (hn : ¬ (names.length != ts.length||names.eraseDups.length != names.length)=true):swappedStores [.Tuple ts n1 p1] (.Tuple vs n2 p2) Γ.e=o4 (some names):=by
 subst e;exact(if_neg h0).trans ((if_neg (xQ h1)).trans ((if_neg hn).trans ((if_neg (xQ h2)).trans (if_neg (xQ h3)))))
theorem UE(h:x≠y):[x,y].eraseDups.length=2:=by
 have e:(y==x)=false:=beq_eq_false_iff_ne.mpr h.symm;rw[List.eraseDups_cons,List.filter_cons,e];rfl
theorem UD{z:Str}(h:x≠y)(h2:x≠z)(h3:y≠z):[x,y,z].eraseDups.length=3:=by
 have e:(y==x)=false:=beq_eq_false_iff_ne.mpr h.symm;have e2:(z==x)=false:=beq_eq_false_iff_ne.mpr h2.symm;have e3:(z==y)=false:=beq_eq_false_iff_ne.mpr h3.symm;rw[List.eraseDups_cons,List.filter_cons,e,List.filter_cons,e2];show (x::[y,z].eraseDups).length=3;rw[List.eraseDups_cons,List.filter_cons,e3];rfl
theorem JF{px py p1 p2:Pos}{n1 n2:Nat}{vs:List Expr}(hb:Γ.e.blockKind=.function)(hx:Γ.e.kindOf x=some .local)(hy:Γ.e.kindOf y=some .local)(hl:px.line=py.line)(I3:x≠y)(E3:vs.length=2)
  (hp:ki vs=true):swappedStores [.Tuple [.Name x px,.Name y py] n1 p1] (.Tuple vs n2 p2) Γ.e=o4 (some [x,y]):=by
 obtain⟨h1,h2,h3⟩:=At hp;have e:[Expr.Name x px,.Name y py].filterMap (rQ Γ.e px.line)=[x,y]:=by
  rw[List.filterMap_cons_some (nM hx rfl),List.filterMap_cons_some (nM hy hl.symm)];rfl
 exact AJ (ts:=[.Name x px,.Name y py]) (by exact(Eq.symm (E3))▸(Eq.symm (hb))▸d3) h1 h2 h3 e (by exact(Eq.symm (UE I3))▸d3)
theorem JE{z:Str}{px py pz p1 p2:Pos}{n1 n2:Nat}{vs:List Expr}(hb:Γ.e.blockKind=.function)(hx:Γ.e.kindOf x=some .local)(hy:Γ.e.kindOf y=some .local)(hz:Γ.e.kindOf z=some .local)(hl:px.line=py.line)(o_:px.line=pz.line)(I3:x≠y)(hne2:x≠z)(hne3:y≠z)(E3:vs.length=3)
  (hp:ki vs=true):swappedStores [.Tuple [.Name x px,.Name y py,.Name z pz] n1 p1] (.Tuple vs n2 p2) Γ.e=o4 (some [x,y,z]):=by
 obtain⟨h1,h2,h3⟩:=At hp;have e:[Expr.Name x px,.Name y py,.Name z pz].filterMap (rQ Γ.e px.line)=[x,y,z]:=by
  rw[List.filterMap_cons_some (nM hx rfl),List.filterMap_cons_some (nM hy hl.symm),List.filterMap_cons_some (nM hz o_.symm)];rfl
 exact AJ (ts:=[.Name x px,.Name y py,.Name z pz]) (by exact(Eq.symm (E3))▸(Eq.symm (hb))▸d3) h1 h2 h3 e (by exact(Eq.symm (UD I3 hne2 hne3))▸d3)
theorem lM(h:(lk x l).isSome=true):(lk x (sk y v l)).isSome=true:=by
 rw[jg,uq,rY];rw[jg] at h;split
 ·rfl
 ·exact h
theorem Gb{t:Expr}{ts:List Expr}(h:((t::ts).filterMap cg).length=(t::ts).length):∃x p,t=.Name x p/\(ts.filterMap cg).length=ts.length/\(t::ts).filterMap cg=x::ts.filterMap cg:=by
 cases e:cg t with
 |none =>
  rw[List.filterMap_cons_none e,Zz] at h
  have:=List.length_filterMap_le cg ts;omega
 |some x =>
  refine aw (fX e) fun p O2=>?_;subst O2;rw[List.filterMap_cons_some e] at h ⊢;exact sX x p rfl (by simpa using h) rfl
theorem Hd:∀(ts:List Expr),(ts.filterMap cg).length=ts.length->((n6 ts C1).map (·.2)=ts.map (fun e=>m0 e C1)/\(n6 ts C1).findIdx? (·.1)=none)/\True
 | [],_=>⟨⟨rfl,rfl⟩,trivial⟩
 |t::ts,h=>by
  refine bW (Gb h) fun x p O3 h2 O=>?_;subst O3;refine aA (Hd ts h2) fun O1 O=>?_;obtain⟨i1,i2⟩:=O1;refine⟨⟨?_,?_⟩,trivial⟩
  ·show m0 (.Name x p) C1::(n6 ts C1).map (·.2)=_;rw[i1];rfl
  ·show ((false,m0 (.Name x p) C1)::n6 ts C1).findIdx? (·.1)=none;rw[List.findIdx?_cons,i2];rfl
theorem cY:∀(ts:List Expr),(ts.filterMap cg).length=ts.length->∀(us:List AV) (s:St),ts.length=us.length->((ts.filterMap cg).all fun x=>(lk x s.loc).isSome)=true->∀ {K:St->Prop},K ⟨Bl (ts.filterMap cg) us s.loc,s.led⟩->FT C0 w A B C1 ts us s fun O s=>K s:=by
 intro t_;induction t_ with
 |nil =>
  intro _ us s e _ K k;cases us with
  |nil=>exact XD k
  |cons _ _=>cases e
 |cons t ts ih =>
  intro h us s e hl K k;refine bW (Gb h) fun x p O3 h2 h3=>?_;subst O3;rw[h3] at hl k;cases us with
  |nil=>cases e
  |cons u us =>
   rw[List.all_cons,i9] at hl;refine XE (cx (bp (K:=fun s=>FT C0 w A B C1 ts us s fun O s=>K s) hl.1 (ih h2 us _ (Nat.succ.inj e) ?_ k)));rw[c5] at hl ⊢;exact fun y hy=>lM (hl.2 y hy)
theorem lI{xs:List (Value->Sem Unit)}{vs:List AV}{K:D4->St->Prop}(hb:(lk x st.loc).isSome=true)(h:FA C0 w A B C1 xs vs ⟨sk x v st.loc,st.led⟩ fun O s=>K .next s) :
  FA C0 w A B C1 (bindName C1 x::xs) (v::vs) st fun O s=>K .next s:=Ig (Zb (bp (K:=fun s=>FA C0 w A B C1 xs vs s fun O s=>K .next s) hb h))
theorem nT(S:D7 B C1 s Z st)(h:(lk x st.loc).isSome=true):C1.kindOf x=some .local:=by
 obtain⟨u,hu⟩:=Option.isSome_iff_exists.mp h;exact S.kinds x u (by rw[← jg];exact hu)
theorem JM(g:P7 Γ){ih:Q5->St->Prop}
  (hA:∀ {pos:Pos} {x:List Expr} {K:List AV->St->Prop} {st:St},ih (.es pos x K) st->T Γ.p Γ.w Γ.A Γ.B Γ.e Vals (spliced (u5 pos (f0 x Γ.e))) st K)
  {t1 t2:Expr} {vs:List Expr} {n1 n2:Nat} {p1 p2:Pos} {K:D4->St->Prop}  {fb:Prop} (hf:fb->T Γ.p Γ.w Γ.A Γ.B Γ.e E1 (exec (.Assign [.Tuple [t1,t2] n1 p1] (.Tuple vs n2 p2) pos) Γ.e) st K)
  (h:AM ih t1 t2 p2 vs K st fb):T Γ.p Γ.w Γ.A Γ.B Γ.e E1 (exec (.Assign [.Tuple [t1,t2] n1 p1] (.Tuple vs n2 p2) pos) Γ.e) st K :=
 cG h hf fun x e1 h=>cG h hf fun y e2 h=>bQ h (fun hb h9=>(fX e1).elim fun px e1=>(fX e2).elim fun py e2=>by
  subst e1;subst e2;simp only[i9] at hb;refine Zk hb fun b1 b2 b4 b5 b6 b7=>?_;clear hb;exact fun s Z S=>Hy g.hh (ug rfl) (JF g.blk (nT S b6) (nT S b7) (Nat.eq_of_beq_eq_true b4) (rP b5) (Nat.eq_of_beq_eq_true b1) b2) (sV ((hA h9).up fun us s k=>Aw k False.elim fun u v e k=>by
   subst e;exact⟨(by decide:2<=c9),_,rfl,rfl,bQ k (fun hb k=>by
    rw[i9] at hb;exact lI hb.2 (lI (lM hb.1) (zS k))) fun O k=>False.elim k⟩)) s Z S) fun O=>hf
theorem JK(g:P7 Γ){ih:Q5->St->Prop}
  (hA:∀ {pos:Pos} {x:List Expr} {K:List AV->St->Prop} {st:St},ih (.es pos x K) st->T Γ.p Γ.w Γ.A Γ.B Γ.e Vals (spliced (u5 pos (f0 x Γ.e))) st K)
  {t1 t2 t3:Expr} {vs:List Expr} {n1 n2:Nat} {p1 p2:Pos} {K:D4->St->Prop}  {fb:Prop} (hf:fb->T Γ.p Γ.w Γ.A Γ.B Γ.e E1 (exec (.Assign [.Tuple [t1,t2,t3] n1 p1] (.Tuple vs n2 p2) pos) Γ.e) st K)
  (h:AL ih t1 t2 t3 p2 vs K st fb):T Γ.p Γ.w Γ.A Γ.B Γ.e E1 (exec (.Assign [.Tuple [t1,t2,t3] n1 p1] (.Tuple vs n2 p2) pos) Γ.e) st K :=
 cG h hf fun x e1 h=>cG h hf fun y e2 h=>cG h hf fun z e3 h=>bQ h (fun hb h9=>(fX e1).elim fun px e1=>(fX e2).elim fun py e2=>(fX e3).elim fun pz e3=>by
  subst e1;subst e2;subst e3;simp only[i9] at hb;refine Zl hb fun b1 b2 b4 b4' b5 b5' b5'' b6 b7 b8=>?_;clear hb;exact fun s Z S=>Hy g.hh (ug rfl) (JE g.blk (nT S b6) (nT S b7) (nT S b8) (Nat.eq_of_beq_eq_true b4) (Nat.eq_of_beq_eq_true b4') (rP b5) (rP b5') (rP b5'') (Nat.eq_of_beq_eq_true b1) b2) (sV ((hA h9).up fun us s k=>AH k False.elim fun u v r e k=>by
   subst e;exact⟨(by decide:3<=c9),_,rfl,rfl,bQ k (fun hb k=>by
    rw[i9,i9] at hb;exact lI hb.2.2 (lI (lM hb.2.1) (lI (lM (lM hb.1)) (zS k)))) fun O k=>False.elim k⟩)) s Z S) fun O=>hf
theorem OT{ts vs:List Expr}{n1 n2:Nat}{p1 p2:Pos}(h:4<=ts.length):swappedStores [.Tuple ts n1 p1] (.Tuple vs n2 p2) Γ.e=o4 none:=by
 have e2:(ts.length==2)=false:=by rw[beq_eq_false_iff_ne];omega
 have e3:(ts.length==3)=false:=by rw[beq_eq_false_iff_ne];omega
 exact if_pos (by rw[e2,e3];rfl)
theorem JH(g:P7 Γ){ih:Q5->St->Prop}
  (hA:∀ {pos:Pos} {x:List Expr} {K:List AV->St->Prop} {st:St},ih (.es pos x K) st->T Γ.p Γ.w Γ.A Γ.B Γ.e Vals (spliced (u5 pos (f0 x Γ.e))) st K)
  {ts vs:List Expr} {n1 n2:Nat} {p1 p2:Pos} {K:D4->St->Prop}  {fb:Prop} (hf:fb->T Γ.p Γ.w Γ.A Γ.B Γ.e E1 (exec (.Assign [.Tuple ts n1 p1] (.Tuple vs n2 p2) pos) Γ.e) st K)
  (h:AK ih ts p2 vs K st fb):T Γ.p Γ.w Γ.A Γ.B Γ.e E1 (exec (.Assign [.Tuple ts n1 p1] (.Tuple vs n2 p2) pos) Γ.e) st K :=
 Aw h (fun h=>AH h (fun h=>bQ h (fun hb h9=>by
  rw[i9] at hb;refine ec (ug rfl) (OT (j5 hb.1)) rfl (sV ((hA h9).up fun us s k=>bQ k (fun Ñ k=>?_) fun O k=>False.elim k));rw[i9,i9] at Ñ;have q:=(Hd (C1:=Γ.e) ts (Nat.eq_of_beq_eq_true hb.2)).1;exact⟨d7 (j5 Ñ.1) (by decide),dK g.hh q.1 (Nat.eq_of_beq_eq_true Ñ.2.1).symm q.2 (cY ts (Nat.eq_of_beq_eq_true hb.2) us s (Nat.eq_of_beq_eq_true Ñ.2.1).symm Ñ.2.2 k)⟩) fun O=>hf) fun t1 t2 t3 e h=>by subst e;exact JK g hA hf h) fun t1 t2 e h=>by subst e;exact JM g hA hf h
theorem Kf(g:P7 Γ){ih:Q5->St->Prop}(hE:∀ {x:Expr} {K:AV->St->Prop} {st:St},ih (.e x K) st->T Γ.p Γ.w Γ.A Γ.B Γ.e Val (k7 x Γ.e) st K)
  (hT:∀ {x:Expr} {K:Bool->St->Prop} {st:St},ih (.t x K) st->T Γ.p Γ.w Γ.A Γ.B Γ.e aK (isTrue x Γ.e (k7 x Γ.e)) st K)
  (hL:∀ {x:List Stmt} {K:D4->St->Prop} {st:St},ih (.ss x K) st->T Γ.p Γ.w Γ.A Γ.B Γ.e E1 (execs x Γ.e) st K)
  (hA:∀ {pos:Pos} {x:List Expr} {K:List AV->St->Prop} {st:St},ih (.es pos x K) st->T Γ.p Γ.w Γ.A Γ.B Γ.e Vals (spliced (u5 pos (f0 x Γ.e))) st K) {x:Stmt} {K:D4->St->Prop}  (h:Ba Γ ih x K st):T Γ.p Γ.w Γ.A Γ.B Γ.e E1 (exec x Γ.e) st K:=by
 cases x with
 |If t a b pos=>exact ic ((hT h).up fun c s k=>by cases c with |true=>exact hL k |false=>exact hL k)
 |Return e pos=>cases e with
  |none=>exact Wp h
  |some e=>exact Wq (hE h)
 |Pass pos=>exact Wr h
 |Break pos=>exact Wv h
 |Continue pos=>exact Hx h
 |Expr e pos=>exact bQ h (fun hb h=>Wt g.act (zc hb) (hE h)) fun O=>C6.out
 |Assign ts e pos =>
  exact cG h C6.out fun t e1 h=>cG h (fun h=>cG h C6.out fun a e2 h=>cG h C6.out fun b e3 h=>by
   obtain rfl:=ko e1;rw[Ax e2,Ax e3] at h ⊢;exact JH g hA C6.out h) fun x e2 h=>by
   obtain rfl:=ko e1;refine aw (fX e2) fun p O2=>?_;subst O2;refine bQ h (fun hb h=>?_) fun O=>C6.out;rw[i9] at hb;exact ie ((hE h).up fun v s k=>bQ k (fun hb k=>bp hb k) fun O k=>False.elim k) (zc hb.1)
 |AugAssign t op e pos =>
  exact cG h C6.out fun x e1 h=>cG h C6.out fun v e2 h=>by
   refine aw (fX e1) fun p O2=>?_;subst O2;refine bQ h (fun hb h=>?_) fun O=>C6.out;refine Ww (v₀:=v) (by rw[← jg];exact e2) (by cases v <;> first |rfl |cases hb) ((hE h).up fun u s k=>(RN k).up2 fun r s k=>?_);exact bQ k (fun hb k=>bp hb k) fun O k=>False.elim k
 |_=>exact C6.out h
theorem JX(g:P7 Γ){ih:Q5->St->Prop}(hi:∀c st,ih c st->pD Γ c st)(c:Q5)(st:St)(h:step Γ ih c st):pD Γ c st:=by
 have hE:∀ {x:Expr} {K:AV->St->Prop} {st:St},ih (.e x K) st->T Γ.p Γ.w Γ.A Γ.B Γ.e Val (k7 x Γ.e) st K:=fun h=>(hi _ _ h).out;have hA:∀ {pos:Pos} {x:List Expr} {K:List AV->St->Prop} {st:St},ih (.es pos x K) st->T Γ.p Γ.w Γ.A Γ.B Γ.e Vals (spliced (u5 pos (f0 x Γ.e))) st K:=fun h=>(hi _ _ h).out;have hT:∀ {x:Expr} {K:Bool->St->Prop} {st:St},ih (.t x K) st->T Γ.p Γ.w Γ.A Γ.B Γ.e aK (isTrue x Γ.e (k7 x Γ.e)) st K:=fun h=>(hi _ _ h).out;have hO:∀ {op:BoolOp} {x:List Expr} {K:Bool->St->Prop} {st:St},ih (.ts op x K) st->T Γ.p Γ.w Γ.A Γ.B Γ.e aK (allTrue op x Γ.e) st K:=fun h=>(hi _ _ h).out;have hS:∀ {x:Stmt} {K:D4->St->Prop} {st:St},ih (.s x K) st->T Γ.p Γ.w Γ.A Γ.B Γ.e E1 (exec x Γ.e) st K:=fun h=>(hi _ _ h).out;have hL:∀ {x:List Stmt} {K:D4->St->Prop} {st:St},ih (.ss x K) st->T Γ.p Γ.w Γ.A Γ.B Γ.e E1 (execs x Γ.e) st K:=fun h=>(hi _ _ h).out;cases c with
 |e x K=>exact C6.mk (Ki g hE hA hT h)
 |es pos xs K =>
  cases xs with
  |nil=>exact C6.mk (sW h)
  |cons x xs=>exact bQ h (fun hb h=>C6.mk (Xd (AZ hb) ((hE h).up fun v s k=>hA k))) fun O h=>h
 |t x K =>
  refine C6.mk ?_;cases x with
  |UnaryOp o x pos=>cases o with
   |Not=>exact WW (hT h)
   |_=>exact C6.out h
  |BoolOp op xs pos=>exact WY (hO h)
  |Compare l J6 rs pos =>
   exact cG h C6.out fun op e1 h=>cG h C6.out fun r e2 h=>by
    obtain rfl:=ko e1;obtain rfl:=ko e2;exact bQ h (fun O=>C6.out) fun hb h=>WX ((hE h).up fun v s k=>(hE k).up fun u s k=>(GF k).up2 fun c s k=>tW k) hb
  |Name x pos=>exact oF ((hE h).up fun v s k=>tW k)
  |Call f args Y0 pos=>exact oF ((hE h).up fun v s k=>tW k)
  |_=>exact C6.out h
 |ts op xs K =>
  refine C6.mk ?_;cases xs with
  |nil=>cases op with
   |And=>exact WZ h
   |Or=>exact WU h
  |cons x xs=>cases op with
   |And=>exact Xc ((hT h).up fun c s k=>by cases c with |true=>exact hO k |false=>exact k)
   |Or=>exact WV ((hT h).up fun c s k=>by cases c with |true=>exact k |false=>exact hO k)
 |s x K=>exact C6.mk (Kf g hE hT hL hA h)
 |ss xs K =>
  refine C6.mk ?_;cases xs with
  |nil=>exact cu h
  |cons x xs=>exact aB ((hS h).up fun f s k=>by cases f with |next=>exact hL k |_=>exact k)
theorem jB(g:P7 Γ):∀(n:Nat) (c:Q5) (st:St),wp Γ n c st->pD Γ c st
 |0,c,st,h=>h
 |n+1,c,st,h=>JX g (jB g n) c st h
theorem bx{F:List b0}{M:List K2}(g:P7 ⟨C0,w,A,B,C1,G,F,M⟩)(n:Nat){xs:List Stmt}{K:D4->St->Prop}(h:wp ⟨C0,w,A,B,C1,G,F,M⟩ n (.ss xs K) st):T C0 w A B C1 E1 (execs xs C1) st K:=(jB g n _ _ h).out
theorem aF{F:List b0}{M:List K2}(g:P7 ⟨C0,w,A,B,C1,G,F,M⟩)(n:Nat){x:Stmt}{K:D4->St->Prop}(h:wp ⟨C0,w,A,B,C1,G,F,M⟩ n (.s x K) st):T C0 w A B C1 E1 (exec x C1) st K:=(jB g n _ _ h).out
theorem bP{F:List b0}{M:List K2}(g:P7 ⟨C0,w,A,B,C1,G,F,M⟩)(n:Nat){xs:List Expr}{K:List AV->St->Prop}(h:wp ⟨C0,w,A,B,C1,G,F,M⟩ n (.es pos xs K) st):T C0 w A B C1 Vals (spliced (u5 pos (f0 xs C1))) st K:=(jB g n _ _ h).out
theorem ad{F:List b0}{M:List K2}(g:P7 ⟨C0,w,A,B,C1,G,F,M⟩)(n:Nat){x:Expr}(h:wp ⟨C0,w,A,B,C1,G,F,M⟩ n (.e x K) st):T C0 w A B C1 Val (k7 x C1) st K:=(jB g n _ _ h).out
theorem cb{F:List b0}{M:List K2}(g:P7 ⟨C0,w,A,B,C1,G,F,M⟩)(n:Nat){x:Expr}{K:Bool->St->Prop}(h:wp ⟨C0,w,A,B,C1,G,F,M⟩ n (.t x K) st):T C0 w A B C1 aK (isTrue x C1 (k7 x C1)) st K:=(jB g n _ _ h).out
end
theorem bL{p:Prop}[Decidable p]{Q:Prop}(h1:p->P)(h2 : ¬ p->Q):pk (decide p) P Q:=bK (fun h=>h1 (of_decide_eq_true h)) fun h=>h2 (of_decide_eq_false h)
theorem NO{Q:Prop}(h:P):pk true P Q:=h
theorem kj{Q:Prop}(h:Q):pk false P Q:=h
theorem mh{a b:Int}{Q:Prop}(h1:a=b->P)(h2:a≠b->Q):pk (a==b) P Q:=bK (fun h=>h1 (beq_iff_eq.mp h)) fun h=>h2 (beq_eq_false_iff_ne.mp h)
theorem pO{a b:Int}{Q:Prop}(h1:a≠b->P)(h2:a=b->Q):pk (a != b) P Q:=bK (fun h=>h1 (bne_iff_ne.mp h)) fun h=>h2 (bne_eq_false_iff_eq.mp h)
theorem CS{i:Int}{Q:Prop}(h1:i=0->P)(h2:i≠0->Q):pk (!(i != 0)) P Q:=by
 by_cases h:i=0
 ·subst h;exact h1 rfl
 ·exact(Eq.symm (bne_iff_ne.mpr h))▸h2 h
section
variable{K:Frag}{fd:A6}{x1 x2 x3 x4 x5 x6 x7 x8 x9:AV}
theorem Binds.of4(h:∀Z v1 v2 v3 v4,Val Z x1 v1->Val Z x2 v2->Val Z x3 v3->Val Z x4 v4->∃bs,f1 K ⟨C0,w.params⟩ (bindArgs fd ⟨[v1,v2,v3,v4],[]⟩)=some bs/\E0 Z binds bs):Binds C0 w A (am K) fd [x1,x2,x3,x4] [] binds :=
 Binds.pk fun Z=>Vals.un fun v1 h1=>Vals.un fun v2 h2=>Vals.un fun v3 h3=>Vals.un fun v4 h4=>Vals.un0 (h Z v1 v2 v3 v4 h1 h2 h3 h4)
end
theorem yr{b:Bool}{Q:Prop}(h1:b=true->P)(h2:b=false->Q):if b=true then P else Q:=by
 cases b with
 |true=>exact h1 rfl
 |false=>exact h2 rfl
theorem Nx.id:Nx (fun P=>P st) .next st:=⟨rfl,st,G6.self _,fun O y=>y⟩
def JL(loc:Int->Int->Int->List (Str×AV))(G0:aa)(X:Int->Int->Int->Nat->Prop)(n:Nat)(P:St->Prop):Prop:=∀ti tj tk,X ti tj tk n->P ⟨loc ti tj tk,G0⟩
theorem JL.mk{loc:Int->Int->Int->List (Str×AV)}{G0:aa}{X:Int->Int->Int->Nat->Prop}{ti tj tk:Int}(h:X ti tj tk n):Lw (JL loc G0 X) n ⟨loc ti tj tk,G0⟩:=⟨_,G6.self _,fun O y=>y _ _ _ h⟩
def KL(loc:Int->Int->Int->List (Str×AV))(G0:aa)(X:Int->Int->Int->Prop)(P:St->Prop):Prop:=∀ti tj tk,X ti tj tk->P ⟨loc ti tj tk,G0⟩
theorem KL.mk{loc:Int->Int->Int->List (Str×AV)}{G0:aa}{X:Int->Int->Int->Prop}{ti tj tk:Int}(h:X ti tj tk):Nx (KL loc G0 X) .next ⟨loc ti tj tk,G0⟩:=⟨rfl,_,G6.self _,fun O y=>y _ _ _ h⟩
theorem T.joinW{t:Sem Flow}{K:D4->St->Prop}(Y:(St->Prop)->Prop)(h:T C0 w A B C1 E1 t st (Nx Y))(k:Y fun C4=>∃l',Q1 C4.led l'/\K .next ⟨C4.loc,l'⟩):T C0 w A B C1 E1 t st K :=
 T.weakPost (T.join (K:=fun f C4=>∃l',Q1 C4.led l'/\K f ⟨C4.loc,l'⟩) Y h k) fun O O O h=>h
theorem Yi{knd:B8 C0 w Int}{m:List (Int×AV)}{dflt u:AV}{k:Int}(L4:(d==p8)=false)(hk:∀Z x,Val Z v x->knd.is k x=true)(hm:(d,au knd m)∈st.led)
  (e:(aP m k).getD dflt=u) (h:R u st):FC C0 w A B C1 (.bm "dict.get" (.ref d)) [v,dflt] [] st R:=Yj L4 hk hm (e.symm▸h)
theorem XY{m:List (Str×AV)}{dflt u:AV}{k:Str}(L4:(d==p8)=false)(hk:∀Z x,Val Z v x->(a8 C0 w).is k x=true)(hm:(d,au (a8 C0 w) m)∈st.led)
  (e:(aP m k).getD dflt=u) (h:R u st):FC C0 w A B C1 (.blt "dict.get") [.ref d,v,dflt] [] st R:=XZ L4 hk hm (e.symm▸h)
theorem XR{led led':aa}(e:ys=xs++[v])(U:Upd a (.list ys) (.list xs) led led')(hsz:xs.length<c9)(h:K v ⟨loc,led'⟩) :
  FC C0 w A B C1 (.blt "list.pop") [.ref a] [] ⟨loc,led⟩ K:=by subst e;exact XS hsz U h
theorem Yk{led led':aa}(e:xs++[v]=ys)(U:Upd a (.list xs) (.list ys) led led')(hsz:xs.length<=c9)(h:K .none ⟨loc,led'⟩) :
  FC C0 w A B C1 (.blt "list.append") [.ref a,v] [] ⟨loc,led⟩ K:=by subst e;exact zR hsz U h
theorem oE(f:α->AV){px:Pos}(Y:List α->(St->Prop)->Prop){K:D4->St->Prop}(hA:D6 A k)
  (H6:T C0 w A B C1 Val (k7 iter C1) st fun v E5=>F1 C0 w A B C1 Val pyIter v E5 (þ C0 w B [] k (.Name x px) (Lo f Y)))
  (step:∀gl a as,Y (a::as) fun C4=>(lk x C4.loc).isSome=true/\T C0 w A B C1 E1 (execs body C1) ⟨sk x (f a) C4.loc,C4.led++gl⟩ (T2 (Lo f Y) K (as.map f) gl))
  (done:Y [] (K .next)) (hs:∀x,w9 iter C1 x=o4 x) :
  T C0 w A B C1 E1 (exec (.For (.Name x px) iter body [] pos) C1) st K:=sU f Y (fun O O O O h=>cx (bp h.1 h.2)) hA H6 step (fun O O O => .nil) done hs
theorem eG{f:AV}{led I1:aa}{v0:AV}(h:TC C0 w A B f args kw led fun v l=>l=I1/\v=v0)(k:K v0 ⟨loc,I1⟩):FC C0 w A B C1 f args kw ⟨loc,led⟩ K :=
 gD h fun v l q=>q.1.symm▸q.2.symm▸k
theorem T.bool{p:Prop}{t:Sem Bool}{K:Bool->St->Prop}(h:T C0 w A B C1 aK t st fun b s=>s=st/\(b=true↔p))(h1:p->K true st)(h2 : ¬ p->K false st):T C0 w A B C1 aK t st K :=
 h.mono fun b s k=>by
  refine aA k ?_;clear k;intro O1 k;subst O1;cases b with
  |true=>exact h1 (k.mp rfl)
  |false=>exact h2 fun q=>Bool.noConfusion (k.mpr q)

theorem gk(w:ZQ)(A:ZI)(fd:A6)(L f c:b0)(h3:interactive (bf fd L f c)=false)(h4:(bf fd L f c).blockKind=.function)(hh:A.handled=none):P7 ⟨af,w,A,ak w,bf fd L f c,[],[],[]⟩:=jm rfl rfl h3 h4 hh
theorem pR:PlainAttrs "str" := F.plainAttrs_str
theorem pC:Slot "str" Np "str.format" := by
 rw[show (Np:Str)=Zw "format" from by decide +kernel];exact F.slot_str_format_m
theorem Vy{a b r1 r2 r3 r4 r5:AV} :
  Binds af w A (ak w) (ap (fD w.params)) [a,b,r1,r2,r3,r4,r5] [] [(dG,a),(du,b),(Cx,.tup [r1,r2,r3,r4,r5])]:=fun s Z led xs ks S hx hk Q E hQ =>
 E0.un0 (P:=fun ks=>ZS (ZP af w) A (bindArgs (ap (fD w.params)) ⟨xs,ks⟩) Q E s) (Vals.un (P:=fun xs=>ZS (ZP af w) A (bindArgs (ap (fD w.params)) ⟨xs,[]⟩) Q E s) (fun x1 h1=>Vals.un fun x2 h2 xr hr=>by
  rw[K_.out hr (fun l=>bindArgs (ap (fD w.params)) ⟨x1::x2::l,[]⟩) (fun l=>newTuple l>>=fun t=>o4 [(dG,x1),(du,x2),(Cx,t)]) fun O O O O O=>@_];have P:=S.pushZ (o:={ cls:=.type "tuple",data:=.seq xr.toArray}) rfl s.toks;exact Zq (wpAny_newTuple (Zs (hQ _ _ _ P.1 (.cons (h1.mono P.2.le) (.cons (h2.mono P.2.le) (.cons (.tup (D3.add_at ..) (hr.mono P.2.le)) .nil))) P.2)) (by rw[hr.length];exact(by decide:5<=c9)))) xs hx) ks hk
theorem zv{G7:Expr}{G3:List Stmt}{K:D4->St->Prop}
  (h:T C0 w A B C1 aK (isTrue G7 C1 (k7 G7 C1)) st fun b C4=>b=false/\C4=st) (h2:T C0 w A B C1 E1 (execs G3 C1) st K):T C0 w A B C1 E1 (exec (.If G7 body G3 pos) C1) st K :=
 ic (h.mono fun b C4 k=>by refine aA k fun O1 O2=>?_;clear k;subst O1;subst O2;simpa using h2)
theorem Gg{a:List Str}(c:(!(a.map AV.str).isEmpty)=true):∃x,(a.map AV.str)[(0:Int).toNat]?=some (.str x):=by
 cases a with
 |nil=>cases c
 |cons x xs=>exact⟨x,rfl⟩
noncomputable abbrev Qt(a b:List Str)(r v:AV:=.any):List (Str×AV):=[(Cx,r),(du,.lst (b.map .str)),(dG,.lst (a.map .str)),(Cv,v)]
theorem GM{a b:List Str}{r1 r2 r3 r4 r5:Str}{led:aa}(hA:D6 A 20)(ha:a.length<10^6)(hb:b.length<10^6) :
  TC af w A (ak w) (.ref 283) [.lst (a.map .str),.lst (b.map .str),.str r1,.str r2,.str r3,.str r4,.str r5] [] led fun v led'=>led'=led/\v=.none:=by
 refine zH (bA w) (Ts _) hA.lt Vy @_ fun L hL=>?_;have D0:=hA.deeper (k:=17) (C1:=bf (ap (fD w.params)) L 283 282);have hG:=((gk w (A.deeper _) (ap (fD w.params)) L 283 282 @_ @_ D0.h).g (SM w) @_ @_).g (SE w) @_ @_;simp only[ZX,List.reverse_nil,ZH,ZE];refine T.spare Cv @_ ?_;simp only[ZE,ZH];refine aB (zv (cb hG 20 (C6.mk (oP .frz (by rw[Zu];omega) (bK (fun c=>(Gg c).elim fun x hx=>?_) fun c=>⟨rfl,rfl⟩)))) (cu ?_))
 ·exact C6.mk (ee .frz (by decide) (by decide) hx (C6.mk (zM F.isi_meta_str F.isi_self_str lD ⟨rfl,rfl⟩)))
 refine aB (zv (cb hG 20 (C6.mk (oP .frz (by rw[Zu];omega) (bK (fun c=>(Gg c).elim fun x hx=>?_) fun c=>⟨rfl,rfl⟩)))) (cu ?_))
 ·exact C6.mk (ee .frz (by decide) (by decide) hx (C6.mk (zM F.isi_meta_str F.isi_self_str lD ⟨rfl,rfl⟩)))
 refine aB (oE (k:=5) AV.str (fun O P=>P ⟨Qt a b (.tup [.str r1,.str r2,.str r3,.str r4,.str r5]),led⟩) (D0.mono ⋯) (ad hG 20 (YT fun it gl h => .mk h (.mk (gs:=[r1,r2,r3,r4,r5]) (fun O y=>y) @_))) ?_ (cu ⟨rfl,rfl⟩) fun O=>@_);exact fun gl y ys=>⟨rfl,aB (zv (cb hG 20 (C6.mk (zM F.isi_meta_str F.isi_self_str lD ⟨rfl,rfl⟩))) (cu (cu (.next (l:=led) (.mk (fun O y=>y) @_)))))⟩
noncomputable def bJ(a b:Int):Str:=if b-a=0 then Zw (A3 a) else if b-a=1 then Zw (A3 (a+1)) else Zw (A3 (a+1))++Zw "," ++ Zw (A3 b)
noncomputable def bY(a b:Int):Str:=if b-a=1 then Zw (A3 (a+1)) else if b-a=0 then Zw (A3 a)++Zw "," ++ Zw (A3 (0:Int)) else Zw (A3 (a+1))++Zw "," ++ Zw (A3 (b-a))
section
variable{a b:Int}
theorem LV(h:b-a=0):AV.str (Zw (A3 (a+1-1)))=.str (bJ a b):=by
 unfold bJ;rw[if_pos h,Int.add_sub_cancel]
theorem LU(h:b-a≠0)(h':b-a<=1)(Ò:a<=b):AV.str (Zw (A3 (a+1)))=.str (bJ a b):=by
 unfold bJ;rw[if_neg h,if_pos (show b-a=1 by omega)]
theorem LS(h:b-a≠0)(h' : ¬ b-a<=1):AV.str (Zw (A3 (a+1))++Zw "," ++ Zw (A3 (a+1+(b-a)-1)))=.str (bJ a b):=by
 unfold bJ;rw[if_neg h,if_neg ⋯,show a+1+(b-a)-1=b by omega]
theorem LR(h:b-a=0):AV.str (Zw (A3 (a+1-1))++Zw "," ++ Zw (A3 (b-a)))=.str (bY a b):=by
 unfold bY;rw[if_neg ⋯,if_pos h,Int.add_sub_cancel,h]
theorem LQ(h:b-a=1):AV.str (Zw (A3 (a+1)))=.str (bY a b):=by
 unfold bY;rw[if_pos h]
theorem LP(h:b-a≠0)(h':b-a≠1):AV.str (Zw (A3 (a+1))++Zw "," ++ Zw (A3 (b-a)))=.str (bY a b):=by
 unfold bY;rw[if_neg h',if_neg h]
end
section
variable{a b:Int}{led:aa}(hA:D6 A 10)(ha:0<=a)(Ò:a<=b)(hb:b<10^9)
include hA ha Ò hb
theorem BN:TC af w A (ak w) (.ref 268) [.int a,.int b] [] led fun v led'=>led'=led/\v=.str (bJ a b):=by
 refine dD [(vt,.int b),(vu,.int a),(vr,.any),(pL,.any)] (bA w) hA.lt (fun O O=>@_) @_ @_ (Tv _) fun L hL=>?_;have hG:=(gk w (A.deeper (bf (ap (ku w.params)) L 268 267)) (ap (ku w.params)) L 268 267 @_ @_ hA.h).m ⟨Np,0, "str.format"⟩ pR pC F.type_str_format_m;refine bx hG 60 (CS (fun c=>bL (fun O=>?_) fun q=>?_) fun c=>bL (fun q=>?_) fun q=>?_)
 ·exact C6.mk (zQ ⋯ ⋯ ⟨rfl,LV c⟩)
 ·exact absurd (c▸by decide) q
 ·exact C6.mk (zQ ⋯ ⋯ ⟨rfl,LU c q Ò⟩)
 ·exact C6.mk (zP ⋯ ⋯ ⋯ ⋯ ⟨rfl,LS c q⟩)
theorem BM:TC af w A (ak w) (.ref 253) [.int a,.int b] [] led fun v led'=>led'=led/\v=.str (bY a b):=by
 refine dD [(vt,.int b),(vu,.int a),(vr,.any),(pL,.any)] (bA w) hA.lt (fun O O=>@_) @_ @_ (Ty _) fun L hL=>?_;have hG:=(gk w (A.deeper (bf (ap (kx w.params)) L 253 252)) (ap (kx w.params)) L 253 252 @_ @_ hA.h).m ⟨Np,0, "str.format"⟩ pR pC F.type_str_format_m;refine bx hG 60 (mh (fun c=>?_) fun c=>CS (fun q=>?_) fun q=>?_)
 ·exact C6.mk (zQ ⋯ ⋯ ⟨rfl,LQ c⟩)
 ·exact C6.mk (zP ⋯ ⋯ ⋯ ⋯ ⟨rfl,LR q⟩)
 ·exact C6.mk (zP ⋯ ⋯ ⋯ ⋯ ⟨rfl,LP q c⟩)
end
set_option backward.match.sparseCases false in
noncomputable def GU(o:Obj):ClassData:=match o.data with |.cls c=>c |_=>default
theorem bd(P:Zv):U1 (KB P) 242:=⟨@_,@_,@_,@_,GU (qG P),@_,@_⟩
noncomputable abbrev nA:Str:=dG
theorem iz:∀(l:List (Str×AV)) (x:Str) (v:AV),(cL l x v).length<=l.length+1
 | [],_,_=>ZZ _
 |(y,u)::r,x,v=>by
  rw[uw];split
  ·exact Nat.le_succ _
  ·rw[Zz,Zz];exact Nat.succ_le_succ (iz r x v)
theorem zW{K:Frag}{m m':List (Str×AV)}{led:aa}{R:Unit->St->Prop}(ok:U1 K C)(ht:takerIn K C name=some none)
  (hm:cL m name v=m') (hsz:m'.length<=1000) (h:R () ⟨loc,(d,bh m')::led⟩):F2 C0 w A (am K) C1 aS (fun x y=>setAttr x name y) (.inst C d) v ⟨loc,(d,bh m)::led⟩ R :=
 Ik ok ht hm hsz (led':=(d,bh m')::led) .here h
theorem Lb{m:List (Str×AV)}{led:aa}(hA:D6 A 20)(hm:m.lookup nA=some .none)(hsz:m.length<=100) :
  TC af w A (ak w) (.ref 174) [.inst 242 d,.lst xs] [] ((d,bh m)::led) fun v led'=>v=.none/\led'=(d,bh (cL (cL (cL m nA (.lst xs)) uK .none) Cj .none))::led:=by
 refine dD [(nA,.lst xs),(q6,.inst 242 d)] (bA w) hA.lt (fun O O=>@_) @_ @_ (TH _) fun L hL=>?_;have hG:=gk w (A.deeper (bf (ap (iY w.params)) L 174 173)) (ap (iY w.params)) L 174 173 @_ @_ hA.h;refine bx hG 60 (C6.mk (dJ (bd _) @_ (Zr ..) hm rfl ?_));refine C6.mk (ec rfl rfl rfl (ad hG 5 (dp (ad hG 5 (zW (bd _) @_ rfl (d7 (iz ..) ⋯) ?_)))));refine C6.mk (fQ rfl rfl rfl (ad hG 5 (dp (ad hG 5 (zW (bd _) @_ rfl (d7 (iz ..) (Nat.succ_le_of_lt (Nat.lt_of_le_of_lt (iz ..) ⋯))) (dp (ad hG 5 (zW (bd _) @_ rfl (d7 (iz ..) (Nat.succ_le_of_lt (Nat.lt_of_le_of_lt (iz ..) (Nat.lt_of_le_of_lt (Nat.succ_le_succ (iz ..)) ⋯)))) ?_))))))));exact⟨rfl,rfl⟩
def pP(P:D3->Obj->Prop)(o:Obj)(Z:D3)(o':Obj):Prop:=o'=o/\P Z o'
theorem CT{P:D3->Obj->Prop}(m:∀Z Z' o,D3.le Z Z'->P Z o->P Z' o)(Z Z':D3)(o':Obj)(k:D3.le Z Z')(x:pP P o Z o'):pP P o Z' o':=⟨x.1,m Z Z' o' k x.2⟩
noncomputable abbrev pQ(P:D3->Obj->Prop)(m:∀Z Z' o,D3.le Z Z'->P Z o->P Z' o)(o:Obj):D9:=.obj (pP P o) (CT m)
theorem C7.fixZ{s0:Zx}{led:aa}(S:C7 B s Z led){c:b0}(hc:s.heap.get? c=some o)(h0:s0.heap.get? c=none)(hl:c∉keys led)(hZ:Z c=none)(X:E7 (aj led) s0 Z s Z (aj led)) :
  C7 B s (Z.add c o) led/\E7 (aj led) s0 Z s (Z.add c o) (aj led):=by
 have le:=D3.le_add (o:=o) hZ;refine⟨⟨S.base.trans le,fun a x e=>?_,S.nodup,fun p hp=>?_,fun p hp=>(S.own p hp).mono le (fun O e=>e) fun O O O e=>e,S.gnodup,S.bare⟩,⟨le,X.kept,X.grow,fun a x e=>?_,X.os,X.gkept,X.ggrow⟩⟩
 ·unfold D3.add at e;split at e
  ·rename_i q;cases e;exact(Eq.symm (q))▸hc
  ·exact S.frozen a x e
 ·unfold D3.add;exact(Eq.symm (if_neg fun(q:p.1=c)=>hl (q▸ZO hp)))▸S.apart p hp
 ·unfold D3.add at e;split at e
  ·rename_i q;exact .inr (.inr (q▸h0))
  ·exact .inl e
section
open PySem PySem.W PySem.Builtin
noncomputable def cr(w:ZQ):Bool:=w.params.followText "set-order"
theorem UT{Q₁:Value->Zx->Prop}
  (h:Q₁ (.ref s.heap.objs.size) {s with heap:=s.heap.push {cls:=.type "set",dict:=none,data:=.set #[] 0 (.fresh 0 0 (!cr w))} }) :
  codeAny (ZP C0 w) A (.call (.builtin "set.__new__") ⟨[.type "set"],[]⟩) (wants Q₁ E) s:=by
 refine codeAny_of_tree ?_;show ZS _ A.in1 (do checkBuiltinCall "set.__new__" ⟨[.type "set"],[]⟩;again (.builtin "set.__new__" ⟨[.type "set"],[]⟩)) _ _ s;refine Zq (f9 F.newCall_set_0 (Zs ⟨plainId_quiet F.plain_set_new _,y0 F.entry_set_new ?_⟩));rw[w8 F.plain_set_new _];unfold Builtin.«set.__new__» Builtin.Frozenset.newClass;have L6:=sub_set_self;obtain⟨hp,g,d,tk,os⟩:=s;dsimp only;wp_walk
 refine wpAny_askSetting (Zs ?_);dsimp only;dsimp only[newObj];refine Zq (wpAny_alloc (Zs ?_));exact Zs h
theorem Vn
  (h:Q (.ref s.heap.objs.size) {s with heap:=s.heap.push {cls:=.type "set",dict:=none,data:=.set #[] 0 (.fresh 0 0 (!cr w))} }) :
  ZS (ZP C0 w) A (call (.type "set") []) Q E s:=by
 refine gF F.called_set.mro fun c tl ė=>?_;have Ę:=F.called_set.made;have L6:=F.called_set.sub;refine t8 (codeAny_of_tree ?_);show ZS _ _ (callAny (.type "set") _) _ _ _;refine Zs ⟨Code.quiet_builtin _ (by decide +kernel),y0 F.entry_type_call ?_⟩;rw[Around.under_plain (weight_type_call_type "set" [] []) rfl];have h1:=F.called_set.notType;have h2:=F.called_set.canCreate;have hct:=F.typeCall_set_0;repeat (any_goals (first |assumption |wp_step))
 refine codeAny_mono (UT (E:=E) (Q₁:=fun obj s₁=>obj=.ref s.heap.objs.size/\s₁={ s with heap:=s.heap.push {cls:=.type "set",dict:=none,data:=.set #[] 0 (.fresh 0 0 (!cr w))} }) ⟨rfl,rfl⟩) fun r s₁ hr=>?_;cases r with
 |error e=>exact hr
 |ok fl =>
  cases fl with
  |ret obj =>
   refine aA hr fun O1 O2=>?_;clear hr;subst O1;subst O2;have hS:(s.heap.push {cls:=.type "set",dict:=none,data:=.set #[] 0 (.fresh 0 0 (!cr w))}).get? s.heap.objs.size=some {cls:=.type "set",dict:=none,data:=.set #[] 0 (.fresh 0 0 (!cr w))}:=ZB _ rfl;have hT:Shared.TypeIs {s with heap:=s.heap.push {cls:=.type "set",dict:=none,data:=.set #[] 0 (.fresh 0 0 (!cr w))} } (.ref s.heap.objs.size) "set" := ⟨_,hS,rfl⟩;have hli:=F.called_set.init.lookup;have Ω:=F.called_set.init.bind (.ref s.heap.objs.size);repeat (any_goals (first |assumption |wp_step))
   refine codeAny_mono (p6 (R:=wants (fun r s2=>r=.none/\Q (.ref s.heap.objs.size) s2) E) F.called_set.init.plain F.entry_set_init (check_set_init hT ?_)) fun r2 s2 Β=>?_
   ·unfold Builtin.«set.__init__» noKeywords;wp_walk
    exact⟨rfl,h⟩
   ·cases r2 with
    |error e=>exact Β
    |ok fl2 =>
     cases fl2 with
     |ret r =>
      refine aA Β fun O1 hq=>?_;clear Β;subst O1;repeat (any_goals (first |assumption |wp_step))
     |_=>exact Β.elim
  |_=>exact hr.elim
set_option backward.match.sparseCases false in
noncomputable def iw:Value->Str
 |.str x _=>x
 |_=>⟨⟨[]⟩⟩
def N0(w:ZQ)(e:Int×Value):Prop:=∃x t,e=(hashStr w x,.str x t)
def fV(w:ZQ)(ks:List Str)(_:D3)(o:Obj):Prop:=∃es ep t,o={ cls:=.type "set",dict:=none,data:=.set es ep t}/\(es.toList.map fun e=>iw e.2).Perm ks/\(∀e∈es.toList,N0 w e) /\
 es.size<scanBound/\t.fits es.size=true/\t.led=(!cr w)/\(ks=[]∨t.plain=false)
theorem uu{ks:List Str}(Z Z':D3)(o:Obj)(k:D3.le Z Z')(x:fV w ks Z o):fV w ks Z' o:=x
noncomputable abbrev fz(w:ZQ)(ks:List Str):D9:=.obj (fV w ks) uu
theorem XK{led:aa}(h:∀a,a∉keys led->R (.ref a) ⟨loc,(a,fz w [])::led⟩):FC C0 w A B C1 (.typ "set") [] [] ⟨loc,led⟩ R:=FC.t fun s Z S Q E hQ =>  Vals.un0 <| by
 refine Vn ?_;have P:=S.toC7.push (o:={ cls:=.type "set",dict:=none,data:=.set #[] 0 (.fresh 0 0 (!cr w))}) (ao:=fz w []) rfl s.toks
  ⟨_,ZB _ rfl,#[],0,_,rfl,.refl _,(fun e he=>by simp at he),(by decide),(by cases cr w <;> decide),rfl,.inl rfl⟩
 exact hQ _ _ _ _ _ (h _ S.toC7.lfresh) (S.after P.1 P.2) (.ref _) P.2.toF
theorem QN(t:d5)(es:Array (Int×Value))(h:Int)(x:Value):(layNew t es h x).2.1.led=t.led:=by
 unfold layNew;split
 ·dsimp only;unfold SetTable.orStandIn;split <;> rfl
 ·rfl
theorem LN(t:d5)(es:Array (Int×Value))(n:Nat):(relayAll t es n).2.1.led=t.led:=by
 unfold relayAll;split
 ·rename_i hr
  dsimp only;split
  ·unfold SetTable.relaid SetTable.laid at hr;cases hl:SetTable.layClean (SetTable.sizeAbove n-1) (es.map (·.1)) with
   |none=>rw[hl] at hr;cases hr
   |some ow =>
    rw[hl] at hr;have hr:=r7 hr
    have:=congrArg (fun p=>p.1.led) hr;exact this.symm
  ·rfl
 ·rfl
theorem LM(t:d5)(es:Array (Int×Value))(n:Nat)(h:t.plain=false):(relayAll t es n).2.1.plain=false:=by
 unfold relayAll;split
 ·rename_i hr
  dsimp only;split
  ·unfold SetTable.relaid SetTable.laid at hr;cases hl:SetTable.layClean (SetTable.sizeAbove n-1) (es.map (·.1)) with
   |none=>rw[hl] at hr;cases hr
   |some ow =>
    rw[hl] at hr;have hr:=r7 hr
    have:=congrArg (fun p=>p.1.plain) hr;exact this.symm.trans h
  ·rfl
 ·rfl
theorem N0.elems{l:List (Int×Value)}(h:∀e∈l,N0 w e):ElemsOf (a8 C0 w) l:=fun e he=>by
 refine gF (h e he) fun x t O3=>?_;subst O3;exact⟨⟨x,by simp[a8,Value.isStrOf],rfl⟩,rfl⟩
theorem yu{t:Tok}:(a8 C0 w).is x (.str y t)=true↔x=y:=by
 constructor
 ·intro h;have h':(y==x)=true:=h;exact(beq_iff_eq.mp h').symm
 ·rintro rfl
  show (x==x)=true;exact beq_self_eq_true x
theorem CN{h:Heap}{es es':Array (Int×Value)}{ep:Nat}{t t':d5}(ho:h.get? a=some {cls:=.type "set",dict:=none,data:=.set es ep t}) :
  (h.update a (Obj.putSet es' t')).get? a=some {cls:=.type "set",dict:=none,data:=.set es' (ep+1) t' }:=by
 have:=c6 (Obj.putSet es' t') ho (by rw[putSet_of es' t' rfl];rfl);rw[putSet_of es' t' rfl] at this;exact this
theorem Hm{g:Bool->Sem Unit}(hg:∀(b:Bool) (s₁:Zx) (Q':Unit->Zx->Prop),Q' () s₁->ZS (ZP C0 w) A (g b) Q' E s₁)
   {es:Array (Int×Value)} {ep:Nat} {t:d5} (ho:s.heap.get? a=some {cls:=.type "set",dict:=none,data:=.set es ep t}) {ks:List Str} 
  {H9:Array (Int×Value)} {t2:d5} (η:∀e∈H9.toList,N0 w e) (I4:(H9.toList.map fun e=>iw e.2).Perm ks)
  (ý:H9.size<scanBound) (Ġ:t2.fits H9.size=true) (Q0:t2.led=(!cr w)) (hpl:t2.plain=false) {W9:Bool} {R:Option Bool->Zx->Prop}
  (h:∀h' o',a7 a s.heap h'->h'.get? a=some o'->fV w ks Z o'->R (some true) {s with heap:=h' }) :
  ZS (ZP C0 w) A (do
    storeSet a H9 t2
    if (!W9&&t2.tooFull)=true then do
      g (relayAll t2 H9 (z4 H9.size)).2.2
      storeSet a (relayAll t2 H9 (z4 H9.size)).1 (relayAll t2 H9 (z4 H9.size)).2.1
      o4 (some true)
     else o4 (some true)) R E s:=by
 refine Zq (wpAny_storeSet_of ho rfl ?_ (fits_of_scanBound ý));have ho1:=CN (es':=H9) (t':=t2) ho;have S9:=c0 s.heap a (Obj.putSet H9 t2);split
 ·have hp:=relayAll_perm t2 H9 (z4 H9.size);have I':=relayAll_fits t2 H9 (z4 H9.size);have hlr:=LN t2 H9 (z4 H9.size);have hpr:=LM t2 H9 (z4 H9.size) hpl;generalize hRl:relayAll t2 H9 (z4 H9.size)=Rl at hp I' hlr hpr ⊢;obtain⟨M2,t3,gave2⟩:=Rl;dsimp only at hp I' hlr hpr ⊢;have hsz:M2.size=H9.size:=by rw[← l5,hp.length_eq,l5]
  have Ñ:M2.size<scanBound:=by rw[hsz];exact ý
  refine Zq (hg _ _ _ ?_);refine Zq (wpAny_storeSet_of ho1 rfl ?_ (fits_of_scanBound Ñ));have ho2:=CN (es':=M2) (t':=t3) ho1;exact Zs (h _ _ (S9.trans (c0 _ a _)) ho2 ⟨M2,_,t3,rfl,(hp.map _).trans I4,fun e he=>η e (hp.mem_iff.mp he),Ñ,I',hlr.trans Q0,.inr hpr⟩)
 ·exact Zs (h _ _ S9 ho1 ⟨H9,_,t2,rfl,I4,η,ý,Ġ,Q0,.inr hpl⟩)
theorem Vp{t:Tok}{ks:List Str}(ho:s.heap.get? a=some o)(hP:fV w ks Z o)(hx:x∉ks)(hsz:ks.length+1<scanBound)
  (h:∀h' o',a7 a s.heap h'->h'.get? a=some o'->fV w (ks++[x]) Z o'->Q .none {s with heap:=h',toks:=s.toks+1}) :
  ZS (ZP C0 w) A (call (.builtin "set.add") [.ref a,.str x t]) Q E s:=by
 refine Iq hP fun es ep tb O4 I4 Ð hb hf Q0 hpl=>?_;clear hP;subst O4;have hT:s.TypeIs (.ref a) "set" := ⟨_,ho,rfl⟩;have E3:es.size=ks.length:=by rw[← I4.length_eq];simp
 refine d6 F.slot_set_add hT F.entry_set_add ?_ (F.args_set_add_2 _ _);unfold Builtin.«set.add» Builtin.Frozenset.oneOther;simp only[List.isEmpty_nil,bind_assoc];unfold Builtin.Frozenset.addrOf setAdd;refine Zq (Zs ?_);try dsimp only
 refine Zq (Zs ?_);try dsimp only
 refine Zq ?_;refine ZF ?_;have M7:(a8 C0 w).is x (.str x t)=true:=yu.mpr rfl;refine Zq ((a8 C0 w).pyHash M7 ?_);unfold setAddHashed setAddHashedIn;refine ZF (Zq (j8 ho rfl hf ?_));dsimp only;have ġ:ElemsOf (a8 C0 w) es.toList:=N0.elems Ð;rw[byScan_of rfl hb ġ];simp only[↓reduceIte];unfold setAddByScan;refine Zq ?_;refine Zq (l6 ?_);refine Zq (wpAny_setScan_of (k:=x) M7 ho rfl hf ġ ?_);have Y5:List.findIdx? (fun e=>(a8 C0 w).is x e.2) es.toList=none:=by
  rw[List.findIdx?_eq_none_iff];intro e he;refine gF (Ð e he) fun y u O3=>?_;subst O3;rw[Bool.eq_false_iff];intro hq
  have:x=y:=yu.mp hq;subst this;exact hx (I4.mem_iff.mp (ZO (f:=fun e:Int×Value=>iw e.2) he))
 rw[Y5];dsimp only;have hgw:∀(b:Bool) {s₁:Zx} {Q':Unit->Zx->Prop} {E':Value->Zx->Prop},Q' () s₁->ZS (ZP C0 w) A.in1 (match b with |true=>rule "set.scan.the-table-gave-way" |false=>o4 ()) Q' E' s₁ :=
  fun b s₁ Q' E' hq=>by cases b <;> first |exact Zs hq |exact l6 hq
 have N6:=layNew_perm tb es ((a8 C0 w).hash x) (.str x t);have V4:=layNew_fits tb es ((a8 C0 w).hash x) (.str x t);have D':=QN tb es ((a8 C0 w).hash x) (.str x t);generalize hL:layNew tb es ((a8 C0 w).hash x) (.str x t)=L at N6 V4 D' ⊢;obtain⟨H9,t1,W9,gave⟩:=L;dsimp only at N6 V4 D' ⊢;rw[Array.toList_push] at N6;have η:∀e∈H9.toList,N0 w e:=fun e he=>by
  rcases d8.mp (N6.mem_iff.mp he) with q |q
  ·exact Ð e q
  ·rw[ZK] at q;subst q;exact sY x t rfl
 have U_:(H9.toList.map fun e=>iw e.2).Perm (ks++[x]):=by
  refine(N6.map _).trans ?_;rw[ZT];exact I4.append (.refl _)
 have ý:H9.size<scanBound:=by
  rw[← l5,N6.length_eq,ZA,l5,E3];simpa using hsz
 refine Zq (hgw _ ?_);have Χ:∀h' o',a7 a s.heap h'->h'.get? a=some o'->fV w (ks++[x]) Z o'->Q .none {s with heap:=h',toks:=s.toks+1}:=h;split
 ·refine Zq ?_;rw[hashByValue_scannable 8 rfl];refine Zs ?_;refine Hm (s:={ s with toks:=s.toks+1}) (Z:=Z) (ks:=ks++[x]) ?_ ho η U_ ý ?_ ?_ ?_ ?_
  ·intro b s₁ Q' hq;cases b <;> first |exact Zs hq |exact l6 hq
  ·exact SetTable.fits_plain_off V4
  ·exact D'.trans Q0
  ·rfl
  ·intro h' o' K1 hg hS;dsimp only;exact Zs (Zs ⟨_,rfl,Χ h' o' K1 hg hS⟩)
 ·rename_i hpf
  refine Zq (Zs ?_);simp only[↓reduceIte];refine Hm (s:={ s with toks:=s.toks+1}) (Z:=Z) (ks:=ks++[x]) ?_ ho η U_ ý V4 (D'.trans Q0) (by simpa using hpf) ?_
  ·intro b s₁ Q' hq;cases b <;> first |exact Zs hq |exact l6 hq
  ·intro h' o' K1 hg hS;dsimp only;exact Zs (Zs ⟨_,rfl,Χ h' o' K1 hg hS⟩)
end
noncomputable abbrev lG:Expr:=.Name ⟨⟨[]⟩⟩ default
section
variable{N:aa}
theorem pe{led:aa}{Ν:Array Value}{f:Array Value->Array Value}{Q:Unit->Zx->Prop}(S:C7 B s Z ((a,.list xs)::led))(hg:s.heap.get? a=some {cls:=.type "list",data:=.seq Ν n})(hv:Vals Z ys (f Ν).toList)(hz:Ν.size<=c9)(Ċ:(f Ν).size<=c9+1)
  (k:∀h' n',h'.get? a=some {cls:=.type "list",data:=.seq (f Ν) n' }->C7 B {s with heap:=h' } Z ((a,.list ys)::led)->E7 (aj ((a,.list xs)::led)) s Z {s with heap:=h' } Z (aj ((a,.list ys)::led))->Q () {s with heap:=h' }) :
  ZS (ZP C0 w) A (updateSeq a f) Q E s:=wpAny_updateSeq hg rfl (aw (⟨_,c6 (d9 f) hg rfl⟩:∃n',(s.heap.update a (d9 f)).get? a=some {cls:=.type "list",data:=.seq (f Ν) n' }) fun n' K3 =>
   have P:=S.upd (led':=(a,.list ys)::led) .here (h':=s.heap.update a (d9 f)) (tk:=s.toks) (fun b ob hb e=>(c0 ..).extBut b ob hb e) rfl rfl ⟨_,n',K3,hv⟩;k _ n' K3 P.1 P.2) hz Ċ
theorem Ud{S:b0}{res:Value}{R:Result->Zx->Prop}(hA:D6 A (k+1))  (items:List AV):∀(acc:List AV) (gl led:aa) (s:Zx) (Z:D3),G5 N led->D5 C0 w B N k lG it items gl->acc.length+items.length<=c9 ->
  C7 B s Z ((S,.list acc)::(gl++led))->(∀s' Z',C7 B s' Z' ((S,.list (acc++items))::led)->E7 (aj ((S,.list acc)::(gl++led))) s Z s' Z' (aj ((S,.list (acc++items))::led))->R (.ok (.ret res)) s') ->
  codeAny (ZP C0 w) A (.builtin "list.extend.loop" ⟨[.ref S,.ref it,res],[]⟩) R s:=by
 induction items with
 |nil =>
  intro acc gl led s Z hN hI hsz S1 hR;refine y0 F.entry_extend_loop ?_;rw[w8 F.plain_extend_loop _];refine hI.last hA.in1 (hN.cons _) (S1.perm (n0.symm)) fun s' Z' S' X'=>Zs ?_;rw[g7] at hR;exact hR s' Z' S' (dN (n0 (l₁:=gl) (l₂:=led) (a:=(S,D9.list acc)))▸X')
 |cons x items ih =>
  intro acc gl led s Z hN hI hsz S1 hR;refine y0 F.entry_extend_loop ?_;rw[w8 F.plain_extend_loop _];rw[Zz] at hsz;have J_:acc.length<c9:=by omega
  refine hI.draw hA.in1 (hN.cons _) (S1.perm (n0.symm)) (fun O=>rfl) fun s' Z' v gl' S' V X' hI'=>?_;rw[dN (n0 (l₁:=gl) (l₂:=led) (a:=(S,D9.list acc))),dN (n0 (l₁:=gl') (l₂:=led) (a:=(S,D9.list acc)))] at X';have S2:=S'.perm (n0 (l₁:=gl') (l₂:=led) (a:=(S,D9.list acc)));refine bI (S2.own _ (Zr ..)) fun Ν n g vs=>?_;dsimp only at g;have E3:Ν.size=acc.length:=vs.size;show ZS _ A.in1 (updateSeq S (·.push v)>>=_) _ _ _;refine Zq (pe (ys:=acc++[x]) S2 g (by simpa using vs.append (.cons V .nil)) (by rw[E3];omega) (by show (Ν.push v).size<=c9+1;rw[Array.size_push,E3];omega) fun h' n' O S3 X3=>Zs ⟨plainId_quiet F.plain_extend_loop _,ih (acc++[x]) gl' led _ Z' hN hI' (by simp only[ZA,r8];omega) S3 fun L5 J9 J1 W7=>?_⟩);rw[ZW] at J1 W7;exact hR L5 J9 J1 ((X'.trans X3).trans W7)
theorem H2.same:∀loc:List (Str×AV),H2 a xs loc loc
 | [] => .nil
 |_::l => .keep (H2.same l)
theorem Ia{T':String}{items:List AV}{gl led:aa}(hA:D6 A (k+3))(hN:G5 N led)(hI:D5 C0 w B N k lG it items gl)(hsz:items.length<=c9)
  (hT:∀s Z,C7 B s Z (gl++led)->s.TypeIs (.ref it) T') (hT1:(y9 T'==y9 "list")=false) (hT2:(y9 T'==y9 "tuple")=false)
  (M5:∀(A:ZI) s Z,C7 B s Z (gl++led)->∀(Q:Value->Zx->Prop) E,Q (.ref it) s->ZS (ZP C0 w) A (pyIter (.ref it)) Q E s)
  (E3:k8 (.type T') "__len__" = o4 none) (ĝ:k8 (.type T') "__length_hint__" = o4 none)
  (h:K (.lst items) ⟨loc,led⟩):FC C0 w A B C1 (.typ "list") [.ref it] [] ⟨loc,gl++led⟩ K:=FC.t fun s Z S0 Q E hQ=>Vals.un <| Val.eRef <| Vals.un0 <| by
 have SL:=S0.toC7;have P1:=SL.push (o:={ cls:=.type "list",data:=.seq #[]}) (ao:=.list []) rfl s.toks ⟨#[],0,ZB _ rfl,.nil⟩;refine ae (hT s Z SL) fun oi T8 O=>?_;have I3:s.heap.objs.size≠it:=fun e=>by have:=e8 T8;rw[← e] at this;exact r6 _ this
 refine callType_codes (Q₁:=fun obj s₁=>obj=.ref s.heap.objs.size/\s₁={ s with heap:=s.heap.push {cls:=.type "list",data:=.seq #[]} }) F.called_list (F.typeCall_list_1 _) F.entry_list_init
  (code_list_new _ ⟨rfl,rfl⟩) fun obj s₁ ĉ=>?_
 refine aA ĉ fun O1 O2=>?_;clear ĉ;subst O1;subst O2;have hS:(s.heap.push {cls:=.type "list",data:=.seq #[]}).get? s.heap.objs.size=some {cls:=.type "list",data:=.seq #[]}:=ZB _ rfl;refine⟨⟨_,hS,rfl⟩,F.args_list_init_2 _ _,?_⟩;show ZS _ A.in1.in1 (do let ô ← Builtin.List.listItems (.ref s.heap.objs.size);Builtin.List.listUpdate (.ref s.heap.objs.size) (fun O => #[]);letGo ô.toList.reverse;Builtin.List.listExtendWith (.ref s.heap.objs.size) (.ref it) .none) _ _ _;refine Zq ?_;unfold Builtin.List.listItems;refine Zq (n9 hS rfl (Zs ?_));show ZS _ A.in1.in1 (updateSeq s.heap.objs.size (fun O => #[])>>=fun O=>letGo (#[]:Array Value).toList.reverse>>=fun O=>Builtin.List.listExtendWith (.ref s.heap.objs.size) (.ref it) .none) _ _ _;refine Zq (pe (ys:=[]) P1.1 hS .nil (ZM _) (ZM _) fun h2 n2 hS2 S2 X2=>?_);refine Zq (wpAny_letGo ?_);unfold Builtin.List.listExtendWith;have D2:=S2.drop1;refine Zq (wpAny_typeOf (hT _ Z D2) ?_);have h1:Builtin.List.listSameRef (.ref s.heap.objs.size) (.ref it)=false:=by simp[Builtin.List.listSameRef,I3]
 simp only[h1,hT1,hT2,Bool.or_false,c7,if_false];refine Zq (M5 _ _ Z D2 _ _ ?_);refine Zq (ZF ?_);unfold Builtin.List.listLengthHint;refine Zq (A7 (hT _ Z D2) E3 ?_);show ZS _ A.in1.in1 (specialOf (Value.ref it) (Zw "__length_hint__")>>=_) _ _ _;refine Zq (A7 (hT _ Z D2) ĝ ?_);refine Zs ?_;show ZS _ A.in1.in1 (rule "list.extend.makes-room" >>= fun O=>Builtin.List.listTouch (.ref s.heap.objs.size)>>=fun O =>
  again (.builtin "list.extend.loop" ⟨[.ref s.heap.objs.size,.ref it,.none],[]⟩)) _ _ _
 refine Zq (l6 ?_);refine Zq ?_;show ZS _ A.in1.in1 (updateSeq s.heap.objs.size (·.push .none)>>=fun O=>updateSeq s.heap.objs.size (·.pop)) _ _ _;refine Zq (pe (ys:=[.none]) S2 hS2 (.cons .none .nil) (ZM _) (Nat.le_add_left ..) fun h3 n3 hS3 S3 X3=>?_);refine pe (ys:=[]) S3 hS3 .nil (by decide:1<=c9) (ZM _) fun h4 n4 hS4 S4 X4=>?_;refine Zs ⟨plainId_quiet F.plain_extend_loop _,Ud (k:=k) ?_ items [] gl led _ Z hN hI (by simpa using hsz) S4 fun s' Z' S' X'=>?_⟩
 ·exact⟨hA.h,by have:=hA.d;show A.depth+(k+1)<=_;omega,by have:=hA.u;show A.units+1+(k+1)<=_;omega⟩
 ·rw[ZH] at S' X';have X:=(((P1.2.trans X2).trans X3).trans X4).trans X';have SF:=S0.after S' X;refine aU (SF.freeze (D8:=loc) (H2.same loc)) fun Z2 S2 V2 X2=>?_;exact⟨rfl,hQ _ _ s' Z2 _ h S2 V2 ((X.toF (st:=⟨loc,gl++led⟩)).trans X2)⟩
end
theorem Kq:Slot "map" "__init__" "object.__init__" :=
 .of (owner := "object") (n := "__init__") (by rw[g4,b9];kernel_rfl) (by decide +kernel) (by decide +kernel) (by decide +kernel)
  (by first |exact .inl (by decide +kernel) |exact .inr (by decide +kernel)) (by rw[f7];kernel_rfl)
theorem lK:Slot "map" "__next__" "map.__next__" :=
 .of (owner := "map") (n := "__next__") (by rw[g4,b9];kernel_rfl) (by decide +kernel) (by decide +kernel) (by decide +kernel)
  (by first |exact .inl (by decide +kernel) |exact .inr (by decide +kernel)) (by rw[f7];kernel_rfl)
theorem Bf:Slot "map" "__iter__" "map.__iter__" :=
 .of (owner := "map") (n := "__iter__") (by rw[g4,b9];kernel_rfl) (by decide +kernel) (by decide +kernel) (by decide +kernel)
  (by first |exact .inl (by decide +kernel) |exact .inr (by decide +kernel)) (by rw[f7];kernel_rfl)
theorem Gr:entryFor table "map.__next__" = some Builtin.«map.__next__» := s8 @_
theorem Uy:entryFor table "map.__new__" = some Builtin.«map.__new__» := s8 @_
theorem Uz:entryFor table "map.__iter__" = some Builtin.«dict_keyiterator.__iter__» :=
 entryFor_alias (id' := "dict_keyiterator.__iter__") @_ (by first |rfl |decide +kernel |(unfold String.splitOn;simp +decide [String.splitOnAux])) (by decide +kernel) @_
theorem Hf(a:Value):B2 "map.__next__" ⟨[a],[]⟩:=by unfold B2;kernel_rfl
theorem VN(a:Value):B2 "map.__iter__" ⟨[a],[]⟩:=by unfold B2;kernel_rfl
theorem Es:mroOf (.type "map")=o4 [.type "map",.type "object"]:=by rw[mroOf_type];kernel_rfl
theorem Qh:k8 (.type "map") "__new__" = o4 (some (.builtin "map.__new__")):=by rw[g4,b9];kernel_rfl
theorem Vl:TypeCalled "map" "map.__new__" "object.__init__" :=
 ⟨by decide +kernel,by decide +kernel,⟨_,_,Es⟩,madeBy_type Es Qh (by decide +kernel),by decide +kernel,by rw[f7];kernel_rfl,Kq⟩
theorem Jj(a b:Value):checkTypeCall "map" ⟨[a,b],[]⟩=o4 ():=@_
theorem OW(a b:Value):checkBuiltinCall "map.__new__" ⟨[.type "map",a,b],[]⟩=o4 ():=@_
theorem JP:y8 (.type "map") (.type "map")=o4 true:=by rw[f7];kernel_rfl
theorem PV:k8 (.type "map") "__len__" = o4 none:=by rw[g4,b9];kernel_rfl
theorem PW:k8 (.type "map") "__length_hint__" = o4 none:=by rw[g4,b9];kernel_rfl
theorem LA{l:b0}{f:Value}{items:Array Value}{P:PySem.Fin->Zx->Prop}(hl:s.heap.IsList l items)
  (h:P (.done (.ret (.ref (s.heap.objs.size+2)))) {s with heap:=((s.heap.push {cls:=.type "list_iterator",data:=.fields #[.ref l,.int 0 0]}).push {cls:=.type "tuple",data:=.seq #[.ref s.heap.objs.size]}).push {cls:=.type "map",data:=.fields #[.ref (s.heap.objs.size+1),f]} }) :
  ZS (ZP C0 w) A (Builtin.«map.__new__» ⟨[.type "map",f,.ref l],[]⟩) P E s:=by
 unfold Builtin.«map.__new__»;refine Zq ?_;unfold Builtin.SmallTypes.newClass;refine Zq (f9 (a:=true) rfl ?_);refine g8 rfl ?_;refine Zq (f9 (a:=true) JP ?_);refine g8 rfl ?_;refine Zs ?_;refine Zq (f9 (a:=()) rfl ?_);dsimp only;refine cS (by simp) ?_;refine Zq ?_;unfold Builtin.SmallTypes.iterAll;simp only[List.drop_succ_cons,List.drop_zero,List.forIn_cons,List.forIn_nil];refine Zq (Zq (Zq (ZF (wpAny_pyIter_list hl ?_))));refine Zs (Zs (Zs ?_));refine Zq (wpAny_newTuple ?_ (by simp;decide));refine Zq ?_;unfold Builtin.SmallTypes.newRecord;refine f6 ?_;refine Zs ?_;simpa[z5] using h
theorem QA{l:b0}{items:Array Value}{x:Value}(hit:s.heap.IsListIter it l i)(hl:s.heap.IsList l items)(hx:items[i]?=some x)
  (hQ:∀h',h'.IsListIter it l (i+1)->a7 it s.heap h'->Q x {s with heap:=h' }):ZS (ZP C0 w) A (Builtin.SmallTypes.nextOf (.ref it)) Q E s:=by
 refine aU (id hit) fun o ho hc hd=>?_;obtain⟨ol,ň,_,nl,ü⟩:=hl;unfold Builtin.SmallTypes.nextOf;refine Zq (f2 (name:=Zw "__next__") hit.typeIs slot_listiter_next (d6 slot_listiter_next hit.typeIs entry_listiter_next ?_ (args_listiter_next _)));show ZS _ _ (field (.ref it) 0>>=_) _ _ s;refine Zq (w5 ho hd (x:=.ref l) rfl ?_);refine g8 rfl ?_;refine Zq (w5 ho hd (x:=.int i 0) rfl ?_);refine Zq (n9 ň ü ?_);simp only[c8,hx];refine Zq (wpAny_setField ho hd (by simp) (Zs ⟨x,rfl,Zs (hQ _ ?_ (c0 ..))⟩));exact⟨_,c6 _ ho (u6 (A4 hd _)),(Obj.cls_mapFields ..).trans hc,by
  rw[A4 hd];simp[k5]⟩
theorem QB{l:b0}{items:Array Value}(hh:A.handled=none)(hit:s.heap.IsListIter it l i)(hl:s.heap.IsList l items)(hx:items[i]?=none)
  (hQ:∀h' e,Heap.ExtBut it s.heap h'->({s with heap:=h' }:Zx).TypeIs (.ref e) "StopIteration" -> E (.ref e) {s with heap:=h' }):ZS (ZP C0 w) A (Builtin.SmallTypes.nextOf (.ref it)) Q E s:=by
 refine aU (id hit) fun o ho hc hd=>?_;obtain⟨ol,ň,_,nl,ü⟩:=hl;unfold Builtin.SmallTypes.nextOf;refine Zq (f2 (name:=Zw "__next__") hit.typeIs slot_listiter_next (d6 slot_listiter_next hit.typeIs entry_listiter_next ?_ (args_listiter_next _)));show ZS _ _ (field (.ref it) 0>>=_) _ _ s;refine Zq (w5 ho hd (x:=.ref l) rfl ?_);refine g8 rfl ?_;refine Zq (w5 ho hd (x:=.int i 0) rfl ?_);refine Zq (n9 ň ü ?_);simp only[c8,hx];refine Zq (l6 (Zq (wpAny_setField ho hd (by simp) ?_)));show ZS _ _ (newExc (.type "StopIteration") []>>=_) _ _ _;refine Zq ?_;dsimp only[newExc,newTuple];refine Zq (f6 ?_ (by size_fits));refine Zq (m:=t0 _ _) (f9 (a:=j6) (by first |rfl |(dsimp only[t0];rfl)) ?_);refine f6 ?_ (by size_fits);dsimp only[raiseNew];refine Zq (wpAny_handled ?_);rw[show A.in1.handled=none from hh];refine Zq (Zs (wpAny_throw ?_));exact hQ _ _ (((c0 ..).extBut.push _).push _) ⟨_,ZB _ rfl,rfl⟩
theorem PX{m tt l:b0}{f x:Value}{items:Array Value}{Q:Option Value->Zx->Prop}(hm:s.heap.get? m=some {cls:=.type "map",data:=.fields #[.ref tt,f]})(ht:s.heap.get? tt=some {cls:=.type "tuple",data:=.seq #[.ref it]})
  (hit:s.heap.IsListIter it l i) (hl:s.heap.IsList l items) (hx:items[i]?=some x) (hmi:m≠it)
  (h:∀h',h'.IsListIter it l (i+1)->a7 it s.heap h'->ZS (ZP C0 w) A.in1 (call f [x]) (fun v s'=>Q (some v) s') (fun O O=>False) {s with heap:=h' }) :
  ZS (ZP C0 w) A (s6 (.ref m)) Q E s:=by
 have hT:s.TypeIs (.ref m) "map" := ⟨_,hm,rfl⟩;unfold s6;refine Zq (s9 (f2 (name:=Zw "__next__") hT lK (d6 lK hT Gr ?_ (Hf _))));show ZS _ _ (field (.ref m) 0>>=_) _ _ s;refine Zq (w5 hm rfl (x:=.ref tt) rfl ?_);refine Zq (n9 ht rfl ?_);simp only[← Array.forIn_toList,List.forIn_cons,List.forIn_nil];refine Zq (Zq (Zq (ZF (QA hit hl hx fun h' N8 f_=>?_))));refine Zs (Zs ?_);have hm':h'.get? m=some {cls:=.type "map",data:=.fields #[.ref tt,f]}:=(f_.2 m hmi).trans hm;refine Zq (w5 hm' rfl (x:=f) rfl ?_);refine Zq (ZF (e9 (h h' N8 f_) (fun v s' hv=>?_) fun O O z=>z.elim));refine Zq (wpAny_letGo (Zs ⟨v,rfl,Zs hv⟩))
theorem PY{m tt l:b0}{f:Value}{items:Array Value}{Q:Option Value->Zx->Prop}(hh:A.handled=none)(hm:s.heap.get? m=some {cls:=.type "map",data:=.fields #[.ref tt,f]})(ht:s.heap.get? tt=some {cls:=.type "tuple",data:=.seq #[.ref it]})
  (hit:s.heap.IsListIter it l i) (hl:s.heap.IsList l items) (hx:items[i]?=none)
  (hQ:∀h',Heap.ExtBut it s.heap h'->Q none {s with heap:=h' }):ZS (ZP C0 w) A (s6 (.ref m)) Q E s:=by
 have hT:s.TypeIs (.ref m) "map" := ⟨_,hm,rfl⟩;unfold s6;refine Zq (s9 (f2 (name:=Zw "__next__") hT lK (d6 lK hT Gr ?_ (Hf _))));show ZS _ _ (field (.ref m) 0>>=_) _ _ s;refine Zq (w5 hm rfl (x:=.ref tt) rfl ?_);refine Zq (n9 ht rfl ?_);simp only[← Array.forIn_toList,List.forIn_cons,List.forIn_nil];refine Zq (Zq (Zq (ZF (QB hh hit hl hx fun h' e ł Ŗ=>?_))));refine Zq (m8 (T := "StopIteration") (b:=true) Ŗ isSubtype_stop ?_);exact Zs (hQ h' ł)
section
open PySem PySem.W PySem.Builtin
theorem fy:Slot "set_iterator" "__next__" "set_iterator.__next__" :=
 .of (owner := "set_iterator") (n := "__next__") (by rw[g4,b9];kernel_rfl) (by decide +kernel) (by decide +kernel) (by decide +kernel)
  (by first |exact .inl (by decide +kernel) |exact .inr (by decide +kernel)) (by rw[f7];kernel_rfl)
theorem sD:entryFor table "set_iterator.__next__" = some Builtin.«set_iterator.__next__» := s8 @_
theorem sN(a:Value):B2 "set_iterator.__next__" ⟨[a],[]⟩:=by unfold B2;kernel_rfl
theorem Uw:entryFor table "set.__iter__" = some Builtin.«frozenset.__iter__» :=
 entryFor_alias (id' := "frozenset.__iter__") @_ rfl (by decide +kernel) @_
theorem VK(a:Value):B2 "set.__iter__" ⟨[a],[]⟩:=by unfold B2;kernel_rfl
theorem GB(l:List α):∀(i:Nat) (h:i<l.length),(l[i]::l.eraseIdx i).Perm l:=by
 induction l with
 |nil=>exact fun i h=>(Nat.not_lt_zero i h).elim
 |cons x xs ih =>
  intro i h;cases i with
  |zero=>exact .refl _
  |succ i=>exact(o5 x _ _).trans ((ih i (Nat.lt_of_succ_lt_succ h)).cons x)
theorem IK{N_:Source}{Q:Nat->Zx->Prop}(hn:n≠0)(h:∀i d,i<n->Q i {s with drawn:=d}):ZS (ZP C0 w) A (choose N_ n) Q E s :=
 fun Γ p S8=>⟨hn,h _ _ (Nat.mod_lt _ (Nat.pos_of_ne_zero hn))⟩
theorem II(n:Nat):∀(xs:List α) {s:Zx} {Q:List α->Zx->Prop},xs.length<=n->(∀l d,l.Perm xs->Q l {s with drawn:=d})->ZS (ZP C0 w) A (drawOrder n xs) Q E s:=by
 induction n with
 |zero=>exact fun xs s Q hl h=>Zs (h [] s.drawn (List.length_eq_zero_iff.mp (Nat.le_zero.mp hl)▸.refl _))
 |succ n ih =>
  intro xs s Q hl h;cases xs with
  |nil=>exact Zs (h [] s.drawn (.refl _))
  |cons x xs =>
  refine Zq (IK (by simp) fun i d hi=>?_);rw[ZU hi];dsimp only;refine Zq (ih _ (by rw[List.length_eraseIdx_of_lt hi];exact Nat.le_of_succ_le_succ hl) fun l d' hp=>?_);refine Zs (h _ d' ?_);exact(hp.cons _).trans (GB _ _ hi)
theorem SA{next:Nat->Nat}{left:List α}{out:Array α}{x:α}(h:left[next k % left.length]?=some x):pickOrder.go next (n+1) k left out=pickOrder.go next n (k+1) (left.eraseIdx (next k % left.length)) (out.push x) :=
 Eq.trans @_ (congrArg (fun o=>Option.rec (motive:=fun O=>Array α) out (fun x=>pickOrder.go next n (k+1) (left.eraseIdx (next k % left.length)) (out.push x)) o) h)
theorem NV(next:Nat->Nat)(xs:Array α):(pickOrder next xs).toList.Perm xs.toList:=by
 have:∀(À k:Nat) (left:List α) (out:Array α),left.length<=À->(pickOrder.go next À k left out).toList.Perm (out.toList++left):=by
  intro À;induction À with
  |zero =>
   intro k left out hl
   have:left=[]:=List.length_eq_zero_iff.mp (Nat.le_zero.mp hl);subst this;exact(g7 _).symm▸.refl _
  |succ n ih =>
   intro k left out hl;cases left with
   |nil=>exact(g7 out.toList).symm▸.refl _
   |cons y ys =>
    have hi:next k % (y::ys).length<(y::ys).length:=Nat.mod_lt _ (Nat.succ_pos _);rw[SA (ZU hi)];refine(ih (k+1) _ _ (by rw[List.length_eraseIdx_of_lt hi];exact Nat.le_of_succ_le_succ hl)).trans ?_;rw[Array.toList_push,ZW];exact B7 _ (GB _ _ hi)
 exact this xs.size 0 xs.toList #[] (ZZ _)
theorem pg{Q:Bool->Zx->Prop}(h:Q (cr w) s):ZS (ZP C0 w) A setsByText Q E s:=by
 unfold setsByText;exact Zq (wpAny_askSetting (Zs h))
noncomputable abbrev cU(first:Value)(i:Nat)(a:b0)(n ep:Nat):Obj:={ cls:=.type "set_iterator",dict:=none,data:=.fields #[first,.int i 0,.ref a,.int n 0,.int ep 0],slots:=#[]}
theorem KK{tp:b0}{ep:Nat}{Q9:Array Value}{np:Nat}{es:Array (Int×Value)}{t:d5}{h:Int}{x:Value}{Q:Option Value->Zx->Prop}
  (hit:s.heap.get? it=some (cU (.ref tp) i a n ep)) (È:s.heap.get? tp=some {cls:=.type "tuple",data:=.seq Q9 np})
  (ha:s.heap.get? a=some {cls:=.type "set",dict:=none,data:=.set es ep t}) (hf:t.fits es.size=true) (hn:es.size=n) (hj:Q9[i]?=some (.int j 0)) (hx:es[j]?=some (h,x))
  (hQ:∀h',h'.get? it=some (cU (.ref tp) (i+1) a n ep)->a7 it s.heap h'->Q (some x) {s with heap:=h' }):ZS (ZP C0 w) A (s6 (.ref it)) Q E s:=by
 have hT:s.TypeIs (.ref it) "set_iterator" := ⟨_,hit,rfl⟩;unfold s6;refine Zq (s9 (f2 (name:=Zw "__next__") hT fy (d6 fy hT sD ?_ (sN _))));unfold Builtin.«set_iterator.__next__»;refine Zq (Zs ?_);refine Zq (o0 hit rfl ?_);dsimp only;refine Zq ?_;unfold setEntries;refine Zq (j8 ha rfl hf (Zs ?_));dsimp only;refine cS (by simp[hn]) ?_;refine Zq (n9 È rfl ?_);dsimp only;rw[c8,hj];dsimp only;refine Zq ?_;unfold setNextDrawn;refine Zq (j8 ha rfl hf ?_);dsimp only;rw[if_neg (by simp),c8,hx];refine Zs ?_;refine Zq (A2 hit (by simp) fun h' hg K1=>?_);refine Zs ⟨x,rfl,Zs (hQ h' ?_ K1)⟩;rw[hg];simp[k5]
theorem Bn{ep j':Nat}{es:Array (Int×Value)}{t:d5}{x:Value}{Q:Option Value->Zx->Prop}
  (hit:s.heap.get? it=some (cU (.int j 0) i a n ep))
  (ha:s.heap.get? a=some {cls:=.type "set",dict:=none,data:=.set es ep t}) (hf:t.fits es.size=true) (hn:es.size=n)
  (Y7:∀(A:ZI) (Q:Option (Value×Nat)->Zx->Prop) (E:Value->Zx->Prop),Q (some (x,j')) s->ZS (ZP C0 w) A (setNext a j i ep) Q E s)
  (hQ:∀h',h'.get? it=some (cU (.int j' 0) (i+1) a n ep)->a7 it s.heap h'->Q (some x) {s with heap:=h' }):ZS (ZP C0 w) A (s6 (.ref it)) Q E s:=by
 have hT:s.TypeIs (.ref it) "set_iterator" := ⟨_,hit,rfl⟩;unfold s6;refine Zq (s9 (f2 (name:=Zw "__next__") hT fy (d6 fy hT sD ?_ (sN _))));unfold Builtin.«set_iterator.__next__»;refine Zq (Zs ?_);refine Zq (o0 hit rfl ?_);dsimp only;refine Zq ?_;unfold setEntries;refine Zq (j8 ha rfl hf (Zs ?_));dsimp only;refine cS (by simp[hn]) ?_;refine Zq ?_;rw[c8,c8,c8];refine Y7 _ _ _ ?_;dsimp only;refine Zq (A2 hit (by simp) fun h1 ŏ S9=>?_);refine Zq (A2 ŏ (by simp) fun h2 hg2 Û=>?_);refine Zs ⟨x,rfl,Zs (hQ h2 ?_ (S9.trans Û))⟩;rw[hg2];simp[k5]
theorem ut{ep:Nat}{es:Array (Int×Value)}{t:d5}{Q:Option Value->Zx->Prop}(hh:A.handled=none)
  (hit:s.heap.get? it=some (cU (.int j 0) i a n ep))
  (ha:s.heap.get? a=some {cls:=.type "set",dict:=none,data:=.set es ep t}) (hf:t.fits es.size=true) (hn:es.size=n)
  (Y7:∀(A:ZI) (Q:Option (Value×Nat)->Zx->Prop) (E:Value->Zx->Prop),Q none s->ZS (ZP C0 w) A (setNext a j i ep) Q E s)
  (hQ:∀h',Heap.ExtBut it s.heap h'->Q none {s with heap:=h' }):ZS (ZP C0 w) A (s6 (.ref it)) Q E s:=by
 have hT:s.TypeIs (.ref it) "set_iterator" := ⟨_,hit,rfl⟩;unfold s6;refine Zq (s9 (f2 (name:=Zw "__next__") hT fy (d6 fy hT sD ?_ (sN _))));unfold Builtin.«set_iterator.__next__»;refine Zq (Zs ?_);refine Zq (o0 hit rfl ?_);dsimp only;refine Zq ?_;unfold setEntries;refine Zq (j8 ha rfl hf (Zs ?_));dsimp only;refine cS (by simp[hn]) ?_;refine Zq ?_;rw[c8,c8,c8];refine Y7 _ _ _ ?_;dsimp only;refine Zq (A2 hit (by simp) fun h1 ŏ S9=>?_);refine Zq ?_;dsimp only[newExc,newTuple];refine Zq (f6 ?_ (by size_fits));refine Zq (m:=t0 _ _) (f9 (a:=j6) (by first |rfl |(dsimp only[t0];rfl)) ?_);refine f6 ?_ (by size_fits);dsimp only[raiseNew];refine Zq (wpAny_handled ?_);rw[show A.in1.handled=none from hh];refine Zq (Zs (wpAny_throw ?_));refine Zq (m8 (T := "StopIteration") (b:=true) ⟨_,ZB _ rfl,rfl⟩ isSubtype_stop ?_);exact Zs (hQ _ ((S9.extBut.push _).push _))
theorem KP{tp:b0}{ep:Nat}{Q9:Array Value}{np:Nat}{es:Array (Int×Value)}{t:d5}{Q:Option Value->Zx->Prop}(hh:A.handled=none)
  (hit:s.heap.get? it=some (cU (.ref tp) i a n ep)) (È:s.heap.get? tp=some {cls:=.type "tuple",data:=.seq Q9 np})
  (ha:s.heap.get? a=some {cls:=.type "set",dict:=none,data:=.set es ep t}) (hf:t.fits es.size=true) (hn:es.size=n) (hj:Q9[i]?=none)
  (hQ:∀h',Heap.ExtBut it s.heap h'->Q none {s with heap:=h' }):ZS (ZP C0 w) A (s6 (.ref it)) Q E s:=by
 have hT:s.TypeIs (.ref it) "set_iterator" := ⟨_,hit,rfl⟩;unfold s6;refine Zq (s9 (f2 (name:=Zw "__next__") hT fy (d6 fy hT sD ?_ (sN _))));unfold Builtin.«set_iterator.__next__»;refine Zq (Zs ?_);refine Zq (o0 hit rfl ?_);dsimp only;refine Zq ?_;unfold setEntries;refine Zq (j8 ha rfl hf (Zs ?_));dsimp only;refine cS (by simp[hn]) ?_;refine Zq ?_;refine n9 È rfl ?_;dsimp only;rw[c8,hj];dsimp only;refine Zq (A2 hit (by simp) fun h1 ŏ S9=>?_);refine Zq (A2 ŏ (by simp) fun h2 hg2 Û=>?_);refine Zq ?_;dsimp only[newExc,newTuple];refine Zq (f6 ?_ (by size_fits));refine Zq (m:=t0 _ _) (f9 (a:=j6) (by first |rfl |(dsimp only[t0];rfl)) ?_);refine f6 ?_ (by size_fits);dsimp only[raiseNew];refine Zq (wpAny_handled ?_);rw[show A.in1.handled=none from hh];refine Zq (Zs (wpAny_throw ?_));refine Zq (m8 (T := "StopIteration") (b:=true) ⟨_,ZB _ rfl,rfl⟩ isSubtype_stop ?_);exact Zs (hQ _ (((S9.trans Û).extBut.push _).push _))
end
section
open PySem PySem.W PySem.Builtin
theorem Bo{ep:Nat}{es:Array (Int×Value)}{t:d5}{Q:Option (Value×Nat)->Zx->Prop}(hb:cr w=true)
  (ha:s.heap.get? a=some {cls:=.type "set",dict:=none,data:=.set es ep t}) (hf:t.fits es.size=true)
  (h:Q ((pickOrder (w.params.setOrder a ep) es)[i]?.map fun e=>(e.2,j)) s):ZS (ZP C0 w) A (setNext a j i ep) Q E s:=by
 unfold setNext;refine Zq (j8 ha rfl hf ?_);dsimp only;refine Zq (pg ?_);refine tR hb (cS (by rw[bne_self_eq_false];exact d3) (Zq (Zq (j8 ha rfl hf ?_))));exact Zq (pg (tR hb (Zq (wpAny_askSetting (Zs (Zs h))))))
theorem uv{ep:Nat}{es:Array (Int×Value)}{t:d5}{Q:Option (Value×Nat)->Zx->Prop}(hb:cr w=false)(hl:t.led=true)(hsz:es.size<=1)
  (ha:s.heap.get? a=some {cls:=.type "set",dict:=none,data:=.set es ep t}) (hf:t.fits es.size=true)
  (h:Q (match es[r0 t.place j]?,t.place[r0 t.place j]? with |some (_,x),some k=>some (x,k+1) |_,_=>none) s):ZS (ZP C0 w) A (setNext a j i ep) Q E s:=by
 unfold setNext;refine Zq (j8 ha rfl hf ?_);dsimp only;refine Zq (pg ?_);refine cS (hb▸d3) (cS ?_ (Zq (f9 (a:=()) ?_ (Zs h))))
 ·show ¬ (!t.plain&&decide (es.size > 1))=true;rw[decide_eq_false (Nat.not_lt.mpr hsz),Bool.and_false];exact d3
 ·show (if (!t.led && !es.isEmpty)=true then _ else o4 ())=o4 ();exact if_neg (by rw[hl];exact d3)
theorem Ha{pl:Array Nat}(h:pl.size=1):r0 pl j=if pl.getD 0 j<j then 1 else 0:=by
 show SetTable.below.go pl j pl.size 0 pl.size=_;rw[h];kernel_rfl
theorem VC{pl:Array Nat}(h:pl.size=0):r0 pl j=0:=by
 show SetTable.below.go pl j pl.size 0 pl.size=_;rw[h];rfl
theorem VB{pl:Array Nat}(h:pl.size=1):r0 pl 0=0:=(Ha h).trans (if_neg (Nat.not_lt_zero _))
theorem VA{pl:Array Nat}(h:pl.size=1)(hj:pl[0]?=some j):r0 pl (j+1)=1 :=
 (Ha h).trans (if_pos (by rw[Array.getD_eq_getD_getElem?,hj];exact t9 j))
def Μ(w:ZQ)(a:b0)(es:Array (Int×Value))(ep:Nat)(t:d5)(vs:List (Int×Value))(i:Nat)(Z:D3)(o:Obj):Prop :=
 (cr w=true/\o=cU (.int 0 0) i a es.size ep/\(pickOrder (w.params.setOrder a ep) es).toList=vs) ∨
 (cr w=false/\∃(tp:b0) (n:Nat) (js:List Nat),o=cU (.ref tp) i a es.size ep/\Z tp=some {cls:=.type "tuple",data:=.seq (js.map fun j:Nat=>Value.int j 0).toArray n}/\js.map (fun j:Nat=>es[j]?)=vs.map some) ∨
 (cr w=false/\es.size<=1/\t.led=true/\vs=es.toList/\((i=0/\o=cU (.int 0 0) 0 a es.size ep)∨(i=1/\es.size=1/\∃j,t.place[0]?=some j/\o=cU (.int ((j+1:Nat):Int) 0) 1 a es.size ep)))
theorem Μ.elim{es:Array (Int×Value)}{ep:Nat}{t:d5}{vs:List (Int×Value)}(h:Μ w a es ep t vs i Z o)
  (c1:cr w=true->o=cU (.int 0 0) i a es.size ep->(pickOrder (w.params.setOrder a ep) es).toList=vs->P)
  (c2:cr w=false->∀(tp:b0) (n:Nat) (js:List Nat),o=cU (.ref tp) i a es.size ep->Z tp=some {cls:=.type "tuple",data:=.seq (js.map fun j:Nat=>Value.int j 0).toArray n}->js.map (fun j:Nat=>es[j]?)=vs.map some->P)
  (c3:cr w=false->es.size<=1->t.led=true->vs=es.toList->((i=0/\o=cU (.int 0 0) 0 a es.size ep)∨(i=1/\es.size=1/\∃j,t.place[0]?=some j/\o=cU (.int ((j+1:Nat):Int) 0) 1 a es.size ep))->P):P :=
 Or.elim h (fun h=>di h c1) fun h=>Or.elim h (fun h=>bv h.2 (c2 h.1)) fun h=>Ab h c3
theorem KS{es:Array (Int×Value)}{ep:Nat}{t:d5}{vs:List (Int×Value)}(Z Z':D3)(o:Obj)(k:D3.le Z Z')(x:Μ w a es ep t vs i Z o):Μ w a es ep t vs i Z' o :=
 x.imp_right fun x=>x.imp_left fun x=>x.imp_right fun x=>bv x fun tp n js h2 h3 h4=>zK tp n js h2 (k _ _ h3) h4
theorem yX{t:d5}(hf:t.fits n=true):t.place.size=n:=by
 simp only[SetTable.fits,i9,beq_iff_eq] at hf;exact hf.1
theorem VG{js:List Nat}{es:Array (Int×Value)}{vs:List (Int×Value)}{y:Int×Value}(ú:js.map (fun j:Nat=>es[j]?)=vs.map some)(hx:vs[i]?=some y):∃j,js[i]?=some j/\es[j]?=some y:=by
 have e:=congrArg (fun l=>l[i]?) ú;rw[d4,d4,hx] at e;exact k0.mp e
noncomputable abbrev gL(w:ZQ)(a:b0)(es:Array (Int×Value))(ep:Nat)(t:d5)(vs:List (Int×Value))(i:Nat):D9:=.obj (Μ w a es ep t vs i) KS
theorem KN{es:Array (Int×Value)}{ep:Nat}{t:d5}{vs:List (Int×Value)}{oi:Obj}{h:Int}{x:Value}{Q:Option Value->Zx->Prop}
  (ha:s.heap.get? a=some {cls:=.type "set",dict:=none,data:=.set es ep t}) (hf:t.fits es.size=true) (hit:s.heap.get? it=some oi) (hP:Μ w a es ep t vs i Z oi) (hZ:∀b o,Z b=some o->s.heap.get? b=some o)
  (hx:vs[i]?=some (h,x)) (hQ:∀h' Å,h'.get? it=some Å->Μ w a es ep t vs (i+1) Z Å->a7 it s.heap h'->Q (some x) {s with heap:=h' }):ZS (ZP C0 w) A (s6 (.ref it)) Q E s:=by
 refine hP.elim (fun hb e hv=>Bn (j:=0) (j':=0) (e▸hit) ha hf rfl (fun A Q E hq=>Bo hb ha hf ?_) fun h' hg K1=>hQ h' _ hg (.inl ⟨hb,rfl,hv⟩) K1) (fun hb tp n js e È ú=>ae (VG ú hx) fun j hj h1=>KK (j:=j) (e▸hit) (hZ _ _ È) ha hf rfl (by rw[List.getElem?_toArray,d4,hj];rfl) h1 fun h' hg K1=>hQ h' _ hg (.inr (.inl ⟨hb,tp,n,js,rfl,È,ú⟩)) K1) fun hb hsz hl hv hm=>?_
 ·exact(r9)▸(Eq.symm (hv))▸(Eq.symm (hx))▸hq
 ·have hi:i<es.size:=(w6.mp (hv▸hx)).1;have V_:es.size=1:=Nat.le_antisymm hsz (Nat.lt_of_le_of_lt (ZM i) hi);have hpl:=(yX hf).trans V_;have hj:t.place[0]?=some _:=m7 (hpl▸Nat.zero_lt_one);generalize t.place[0]=j at hj;refine hm.elim (fun q=>aA q fun q e=>?_) fun q=>absurd hi (by rw[V_,q.1];exact r6 1);subst q;refine Bn (j:=0) (j':=j+1) (e▸hit) ha hf rfl (fun A Q E hq=>uv hb hl hsz ha hf ?_) fun h' hg K1=>hQ h' _ hg (.inr (.inr ⟨hb,hsz,hl,hv,.inr ⟨rfl,V_,j,hj,rfl⟩⟩)) K1;exact(Eq.symm (VB hpl))▸(Eq.symm (hj))▸(r9)▸hv▸(Eq.symm (hx))▸hq
theorem KR{es:Array (Int×Value)}{ep:Nat}{t:d5}{vs:List (Int×Value)}{oi:Obj}{Q:Option Value->Zx->Prop}(hh:A.handled=none)
  (ha:s.heap.get? a=some {cls:=.type "set",dict:=none,data:=.set es ep t}) (hf:t.fits es.size=true) (hit:s.heap.get? it=some oi) (hP:Μ w a es ep t vs i Z oi) (hZ:∀b o,Z b=some o->s.heap.get? b=some o)
  (hx:vs[i]?=none) (hQ:∀h',Heap.ExtBut it s.heap h'->Q none {s with heap:=h' }):ZS (ZP C0 w) A (s6 (.ref it)) Q E s:=by
 refine hP.elim (fun hb e hv=>ut hh (j:=0) (e▸hit) ha hf rfl (fun A Q E hq=>Bo hb ha hf ?_) hQ) (fun hb tp n js e È ú=>KP hh (e▸hit) (hZ _ _ È) ha hf rfl ?_ hQ) fun hb hsz hl hv hm=>?_
 ·exact(r9)▸(Eq.symm (hv))▸(Eq.symm (hx))▸hq
 ·have e:=congrArg (fun l=>l[i]?) ú;rw[d4,d4,hx] at e;rw[List.getElem?_toArray,d4,Option.map_eq_none_iff.mp e];rfl
 ·have hi:es.size<=i:=List.getElem?_eq_none_iff.mp (hv▸hx);refine hm.elim (fun q=>aA q fun q e=>?_) fun q=>di q fun q V_ q'=>ae q' fun j hj e=>?_
  ·subst q;have h0:=Nat.le_zero.mp hi;refine ut hh (j:=0) (e▸hit) ha hf rfl (fun A Q E hq=>uv hb hl hsz ha hf ?_) hQ;rw[VC ((yX hf).trans h0),A0 hi];exact hq
  ·subst q;refine ut hh (j:=j+1) (e▸hit) ha hf rfl (fun A Q E hq=>uv hb hl hsz ha hf ?_) hQ;exact(Eq.symm (VA ((yX hf).trans V_) hj))▸(Eq.symm (A0 hi))▸hq
end
section
open PySem PySem.W PySem.Builtin
noncomputable abbrev Le(es:Array (Int×Value))(ep:Nat)(t:d5):Obj:={ cls:=.type "set",dict:=none,data:=.set es ep t}
noncomputable abbrev gN(w:ZQ)(ks:List Str)(o:Obj):D9:=pQ (fV w ks) uu o
theorem D5.setS{ks:List Str}{es:Array (Int×Value)}{ep:Nat}{t:d5}{vs:List (Int×Value)}{p:Pos}(hf:t.fits es.size=true)(hv:∀e∈vs,N0 w e) :
  ∀(d i:Nat),i+d=vs.length->D5 C0 w B [(a,gN w ks (Le es ep t))] k (.Name x p) it ((vs.drop i).map fun e => .str (iw e.2)) [(it,gL w a es ep t vs i)]:=by
 intro d;induction d with
 |zero =>
  intro i hi;have hi:i=vs.length:=(Nat.add_zero i).symm.trans hi;subst hi;rw[List.drop_length];intro A hA led hN s Z S Q E hQ;refine ae (S.own _ (Zr ..)) fun oi T8 hP=>aU (S.own _ (Zt _ (hN _ (Zr ..)))) fun os J5 O3 hSP=>?_;subst O3;refine KR hA.h J5 hf T8 hP S.frozen (n8 (ZZ _)) fun h' hx=>?_;have P:=C7.stepE (gl:=[(it,gL w a es ep t vs vs.length)]) (s':={ s with heap:=h' }) S (fun b o hb q=>hx b o (fun y=>hb (y▸Zr ..)) q) rfl rfl;exact hQ _ Z P.1 P.2
 |succ d ih =>
  intro i hi;have G8:i<vs.length:=hi▸Nat.lt_add_of_pos_right (Nat.succ_pos d);rw[m6 G8,ZD];intro A hA led hN s Z S Q E hQ;refine ae (S.own _ (Zr ..)) fun oi T8 hP=>aU (S.own _ (Zt _ (hN _ (Zr ..)))) fun os J5 O3 hSP=>?_;subst O3;refine gF (hv _ (List.getElem_mem G8)) fun y tk hy=>?_;refine KN J5 hf T8 hP S.frozen (h:=hashStr w y) (x:=.str y tk) ((ZU G8).trans (congrArg some hy)) fun h' Å hg ŗ K1=>?_;have P:=S.upd (led':=(it,gL w a es ep t vs (i+1))::led) .here (h':=h') (tk:=s.toks) (fun b ob hb e=>(K1.2 b hb).trans e) rfl rfl ⟨Å,hg,ŗ⟩;exact Zs (hQ _ Z (.str y tk) [(it,gL w a es ep t vs (i+1))] P.1 (hy▸.str _ _) P.2 (ih (i+1) ((Nat.succ_add_eq_add_succ i d).trans hi)))
theorem C7.drawn{led:aa}(S:C7 B s Z led)(d:Drawn):C7 B {s with drawn:=d} Z led/\E7 (aj led) s Z {s with drawn:=d} Z (aj led) :=
 ⟨⟨S.base,S.frozen,S.nodup,S.apart,fun p hp=>(S.own p hp).mono (.refl _) (fun O e=>e) fun O O O e=>e,S.gnodup,S.bare⟩,
  ⟨.refl _,fun a o e O=>e,fun O h => .inl h,fun O O e => .inl e,rfl,fun O O e O=>e,fun O h => .inl h⟩⟩
theorem YU{ks:List Str}(hm:(a,gN w ks o)∈st.led)
  (h:∀(it:b0) (xs:List Str) (gl:aa),xs.Perm ks->(∀x p,D5 C0 w B [(a,gN w ks o)] k (.Name x p) it (xs.map .str) gl)->K (.ref it) ⟨st.loc,gl++st.led⟩):F1 C0 w A B C1 Val pyIter (.ref a) st K:=F1.of fun s Z S Q E hQ=>Val.eRef <| by
 refine ae (S.own _ hm) fun o' ho hpin=>?_;dsimp only at ho;obtain⟨rfl,es,ep,t,rfl,I4,Ð,hb,hf,Q0,hpl⟩:=hpin;have hT:s.TypeIs (.ref a) "set" := ⟨_,ho,rfl⟩;refine wpAny_pyIter_slot hT F.slot_set_iter (d6 F.slot_set_iter hT Uw ?_ (VK _));unfold Builtin.«frozenset.__iter__»;refine Zq (Zs ?_);refine Zq ?_;unfold Builtin.Frozenset.sizeOf setEntries;refine Zq (Zq (j8 ho rfl hf (Zs (Zs ?_))));refine Zq ?_;unfold setDrawn;refine Zq (j8 ho rfl hf ?_);dsimp only;refine Zq (pg (Zs ?_));have E3:es.size=ks.length:=by rw[← I4.length_eq];simp
 split
 ·rename_i ģ
  have I_:(!cr w&&(!t.plain&&decide (es.size > 1)))=true:=ģ;rw[i9,Bool.not_eq_true'] at I_;refine Zq (II _ _ (by simp) fun js d hjp=>?_);refine Zq (wpAny_newTuple ?_ (by rw[Zu,hjp.length_eq,List.length_range];exact fits_of_scanBound hb));refine Zq (wpAny_setEpoch_of (ZC _ ho) rfl hf ?_);refine aA (S.toC7.drawn d) fun S0 X0=>?_;have P1:=S0.pushZ (o:={ cls:=.type "tuple",data:=.seq (js.map fun j:Nat=>k5 j).toArray}) rfl s.toks;have hjlt:∀j∈js,j<es.size:=fun j hj=>by simpa using hjp.mem_iff.mp hj
  have Ń:js.map (fun j:Nat=>es[j]?)=(js.map fun j=>es.toList.getD j (0,.none)).map some:=by
   rw[m4];refine p9 fun j hj=>?_
   have:=hjlt j hj;simp[this]
  have ö:(js.map fun j=>es.toList.getD j (0,.none)).Perm es.toList:=by
   refine(hjp.map _).trans ?_;rw[show (List.range es.size).map (fun j=>es.toList.getD j (0,.none))=es.toList from ?_];refine List.ext_getElem (by simp) fun j h1 h2=>?_;simp at h1 h2
   simp[h2]
  have ń:∀e∈(js.map fun j=>es.toList.getD j (0,.none)),N0 w e:=fun e he=>Ð e (ö.mem_iff.mp he);generalize (js.map fun j=>es.toList.getD j (0,.none))=vs at Ń ö ń;refine Zq ?_;unfold newFields;refine f6 (Zs ⟨_,rfl, "set_iterator",_,⟨_,ZB _ rfl,rfl⟩,fy.lookup,?_⟩) (by size_fits);have P2:=P1.1.push (o:=cU (.ref s.heap.objs.size) 0 a es.size ep) (ao:=gL w a es ep t vs 0) rfl s.toks
   ⟨_,ZB _ rfl,.inr (.inl ⟨I_.1,s.heap.objs.size,0,js,rfl,D3.add_at ..,Ń⟩)⟩
  have X:=(X0.trans P1.2).trans P2.2;have hI:=fun x p=>D5.setS (C0:=C0) (w:=w) (B:=B) (a:=a) (it:=(s.heap.push {cls:=.type "tuple",data:=.seq (js.map fun j:Nat=>k5 j).toArray}).objs.size) (ks:=ks) (es:=es) (ep:=ep) (t:=t) (vs:=vs) (k:=k) (x:=x) (p:=p) hf ń vs.length 0 ⋯;rw[List.drop_zero] at hI;exact hQ _ _ _ _ _ (h _ (vs.map fun e=>iw e.2) [(_,gL w a es ep t vs 0)] ((ö.map _).trans I4) (fun x p=>by exact(Eq.symm (m4))▸hI x p)) (S.after P2.1 X) (.ref _) X.toF
 ·rename_i ģ
  have I_ : ¬ ((!cr w&&(!t.plain&&decide (es.size > 1)))=true):=ģ;refine Zq (Zs ?_);refine Zq (wpAny_setEpoch_of ho rfl hf ?_);refine Zq ?_;unfold newFields;refine f6 (Zs ⟨_,rfl, "set_iterator",_,⟨_,ZB _ rfl,rfl⟩,fy.lookup,?_⟩) (by size_fits);have fin:∀vs,vs.Perm es.toList->Μ w a es ep t vs 0 Z (cU (.int 0 0) 0 a es.size ep)->Q (.ref s.heap.objs.size) {s with heap:=s.heap.push (cU (.int 0 0) 0 a es.size ep)}:=by
   intro vs ö hP;have ń:∀e∈vs,N0 w e:=fun e he=>Ð e (ö.mem_iff.mp he);have P2:=S.toC7.push (o:=cU (.int 0 0) 0 a es.size ep) (ao:=gL w a es ep t vs 0) rfl s.toks ⟨_,ZB _ rfl,hP⟩;have hI:=fun x p=>D5.setS (C0:=C0) (w:=w) (B:=B) (a:=a) (it:=s.heap.objs.size) (ks:=ks) (es:=es) (ep:=ep) (t:=t) (vs:=vs) (k:=k) (x:=x) (p:=p) hf ń vs.length 0 ⋯;rw[List.drop_zero] at hI;exact hQ _ _ _ _ _ (h _ (vs.map fun e=>iw e.2) [(_,gL w a es ep t vs 0)] ((ö.map _).trans I4) (fun x p=>by exact(Eq.symm (m4))▸hI x p)) (S.after P2.1 P2.2) (.ref _) P2.2.toF
  cases Ŕ:cr w with
  |true=>exact fin _ (NV _ _) (.inl ⟨Ŕ,rfl,rfl⟩)
  |false =>
   refine fin _ (.refl _) (.inr (.inr ⟨Ŕ,?_,by rw[Q0,Ŕ];rfl,rfl,.inl ⟨rfl,rfl⟩⟩));rcases hpl with rfl |hpl
   ·exact(Eq.symm (E3))▸ZM _
   ·rw[Ŕ,hpl] at I_;simp at I_
    exact I_
end
section
open PySem PySem.W PySem.Builtin
theorem KV.at{K:Type}{l:List (K×AV)}{r:List (K×Value)}(h:KV Z l r):∀ {i:Nat} {k:K} {v:AV},l[i]?=some (k,v)->∃x,r[i]?=some (k,x)/\Val Z v x:=by
 induction h with
 |nil=>intro i k v e;simp at e
 | @cons k' v' x l r hv _ ih =>
  intro i k v e;cases i with
  |zero =>
   simp only[List.getElem?_cons_zero,l8,Prod.mk.injEq] at e;refine aA e fun O1 O2=>?_;clear e;subst O1;subst O2;exact bB x rfl hv
  |succ i=>exact ih (by simpa using e)
noncomputable abbrev ou(w:ZQ)(m:List (Str×AV))(o:Obj):D9:=pQ (gw (a8 C0 w) m) oy o
def yp(d:b0)(_:D3)(o:Obj):Prop:=o={ cls:=.type "dict_items",data:=.fields #[.ref d]}
theorem Rp(Z Z':D3)(o:Obj)(k:D3.le Z Z')(x:yp d Z o):yp d Z' o:=x
noncomputable abbrev eZ(d:b0):D9:=.obj (yp d) Rp
def zb(d:b0)(od:Obj)(n i:Nat)(_:D3)(o:Obj):Prop:=∃es ep ok ov,od.data=.dict es ep /\
 o={ cls:=.type "dict_itemiterator",dict:=none,data:=.fields #[.none,.bool false,.ref d,.int i 0,.int n 0,.int ep 0,ok,ov],slots:=#[]}
theorem UI{od:Obj}(Z Z':D3)(o:Obj)(k:D3.le Z Z')(x:zb d od n i Z o):zb d od n i Z' o:=x
noncomputable abbrev hF(d:b0)(od:Obj)(n i:Nat):D9:=.obj (zb d od n i) UI
theorem D5.items{od:Obj}{m:List (Str×AV)}{x1} :
  ∀(c i:Nat),i+c=m.length->D5 C0 w B [(d,ou (C0:=C0) w m od)] k (.Tuple elts x1 pos) it ((m.drop i).map fun e => .tup [.str e.1,e.2]) [(it,hF d od m.length i)]:=by
 intro c;induction c with
 |zero =>
  intro i hi;have hi:i=m.length:=(Nat.add_zero i).symm.trans hi;subst hi;rw[List.drop_length];intro A hA led hN s Z S Q E hQ;obtain⟨oi,T8,es,ep,ok,ov,U5,rfl⟩:=S.own _ (Zr ..);refine ae (S.own _ (Zt _ (hN _ (Zr ..)))) fun os J5 h_=>aA h_ fun e_ h_=>eh h_ fun es' ř kvs a1 a2 a3 a4 a5 a6=>?_;subst e_;rw[U5] at a2;refine aA (Data.dict.inj a2) fun O1 O2=>?_;subst O1;subst O2;have hl:=a6.length;have hit:IsItemIter s.heap it d m.length kvs.length ep ok ov:=by unfold IsItemIter;exact hl.symm▸T8
  refine wpAny_pyNext_items_end (knd:=a8 C0 w) hA.h hit ⟨os,es,J5,a1,U5,a3,a4,a5⟩ (n8 (Nat.le_of_eq hl)) fun h' hx=>?_;have P:=C7.stepE (gl:=[(it,hF d os m.length m.length)]) (s':={ s with heap:=h' }) S (fun b o hb q=>hx b o (fun y=>hb (y▸Zr ..)) q) rfl rfl;exact hQ _ Z P.1 P.2
 |succ c ih =>
  intro i hi;have G8:i<m.length:=hi▸Nat.lt_add_of_pos_right (Nat.succ_pos c);rw[m6 G8,ZD];intro A hA led hN s Z S Q E hQ;obtain⟨oi,T8,es,ep,ok,ov,U5,rfl⟩:=S.own _ (Zr ..);refine ae (S.own _ (Zt _ (hN _ (Zr ..)))) fun os J5 h_=>aA h_ fun e_ h_=>eh h_ fun es' ř kvs a1 a2 a3 a4 a5 a6=>?_;subst e_;rw[U5] at a2;refine aA (Data.dict.inj a2) fun O1 O2=>?_;subst O1;subst O2;have hl:=a6.length;have hit:IsItemIter s.heap it d i kvs.length ep ok ov:=by unfold IsItemIter;exact hl.symm▸T8
  refine ae (a6.at (i:=i) (k:=m[i].1) (v:=m[i].2) (ZU G8)) fun x hx hv=>?_;refine wpAny_pyNext_items_item (knd:=a8 C0 w) hit ⟨os,es,J5,a1,U5,a3,a4,a5⟩ hx fun key h' M7 Ρ htup hsz Y9=>?_;refine aw (Value.isStrOf_shape M7) fun tk O2=>?_;subst O2;refine wpAny_letOwnedTupleGo_items Ρ fun h'' hin K1=>?_;refine di (C7.stepN (gl:=[(it,hF d os m.length i)]) (gl':=[(it,hF d os m.length (i+1))]) (s':={ s with heap:=h'' }) S (fun b o hb q=>(K1.2 b fun y=>hb (y▸Zr ..)).trans (Y9 b o (fun y=>hb (y▸Zr ..)) q))
   (gm s) ((K1.2 _ (Nat.ne_of_gt (e8 T8))).trans htup) (fun O p hp=>ZK.mp hp▸⟨_,hin,es,ep,.str m[i].1 tk,x,U5,by rw[hl]⟩) rfl rfl rfl rfl) fun le P1 P2=>?_
  exact hQ _ _ (.ref s.heap.objs.size) [(it,hF d os m.length (i+1))] P1 (.tup (items:=[.str m[i].1 tk,x]) (D3.add_at ..) (.cons (.str _ _) (.cons (hv.mono le) .nil))) P2 (ih (i+1) ((Nat.succ_add_eq_add_succ i c).trans hi))
end
section
open PySem PySem.W PySem.Builtin
theorem YV{v:b0}{od:Obj}{m:List (Str×AV)}(hm:(d,ou (C0:=C0) w m od)∈st.led)(hv:(v,eZ d)∈st.led)
  (h:∀(it:b0),(∀elts x1 pos,D5 C0 w B [(d,ou (C0:=C0) w m od)] k (.Tuple elts x1 pos) it (m.map fun e => .tup [.str e.1,e.2]) [(it,hF d od m.length 0)])->K (.ref it) ⟨st.loc,[(it,hF d od m.length 0)]++st.led⟩) :
  F1 C0 w A B C1 Val pyIter (.ref v) st K:=F1.of fun s Z S Q E hQ=>Val.eRef <| by
 refine ae (S.own _ hv) fun ov hov O3=>?_;subst O3;refine ae (S.own _ hm) fun os J5 h_=>aA h_ fun e_ h_=>eh h_ fun es ep kvs a1 a2 a3 a4 a5 a6=>?_;subst e_;dsimp only at hov J5;have hl:=a6.length;refine wpAny_pyIter_items (knd:=a8 C0 w) (d:=d) (kvs:=kvs) (ep:=ep) ⟨_,hov,rfl,rfl⟩ ⟨os,es,J5,a1,a2,a3,a4,a5⟩ ?_;rw[hl];have P:=S.toC7.push (o:={ cls:=.type "dict_itemiterator",data:=.fields #[.none,.bool false,.ref d,.int 0 0,.int m.length 0,.int ep 0,.none,.none]}) (ao:=hF d os m.length 0) rfl s.toks
  ⟨_,ZB _ rfl,es,ep,.none,.none,a2,rfl⟩
 have hI:=fun elts x1 pos=>D5.items (C0:=C0) (w:=w) (B:=B) (d:=d) (it:=s.heap.objs.size) (od:=os) (m:=m) (k:=k) (elts:=elts) (x1:=x1) (pos:=pos) m.length 0 ⋯;rw[List.drop_zero] at hI;exact hQ _ _ _ _ _ (h _ hI) (S.after P.1 P.2) (.ref _) P.2.toF
theorem XW{P:D3->Obj->Prop}{mm}{m:List (Str×AV)}{led:aa}(L4:(d==p8)=false)(hm:(d,.obj P mm)∈led)(hP:∀Z o,P Z o->gw (a8 C0 w) m Z o)
  (h:∀v,v∉keys led->R (.ref v) ⟨loc,(v,eZ d)::led⟩):FC C0 w A B C1 (.blt "dict.items") [.ref d] [] ⟨loc,led⟩ R:=FC.b fun s Z S Q E hQ=>Vals.un <| Val.eRef <| Vals.un0 <| by
 refine ae (S.own _ hm) fun os J5 hp=>?_;dsimp only at J5;refine eh (hP _ _ hp) fun es ep kvs a1 a2 a3 a4 a5 a6=>?_;have hD:s.heap.DictOf (a8 C0 w) d kvs:=⟨os,es,ep,J5,a1,a2,a3,a4,a5⟩;have PP:=S.toC7.push (o:={ cls:=.type "dict_items",data:=.fields #[.ref d]}) (ao:=eZ d) rfl s.toks ⟨_,ZB _ rfl,rfl⟩;refine call_meetsIn F.slot_dict_items hD.typeIs F.entry_dict_items (F.args_dict_items_1 _) (meets_dict_items (a8 C0 w) d L4) ⟨⟨kvs,hD⟩,?_⟩;exact hQ _ _ _ _ _ (h _ S.toC7.lfresh) (S.after PP.1 PP.2) (.ref _) PP.2.toF
theorem Yl{ks:List Str}{led':aa}(hx:x∉ks)(hsz:ks.length+1<scanBound)(U:Upd a (fz w ks) (fz w (ks++[x])) st.led led')(h:K .none ⟨st.loc,led'⟩) :
  FC C0 w A B C1 (.blt "set.add") [.ref a,.str x] [] st K:=FC.b fun s Z S Q E hQ=>Vals.un <| Val.eRef <| Vals.un <| Val.eStr fun O=>Vals.un0 <| by
 refine ae (S.own _ U.mem) fun o ho hP=>?_;dsimp only at ho;refine Vp (Z:=Z) ho hP hx hsz fun h' o' K1 hg ŗ=>?_;have P:=S.toC7.upd U (h':=h') (tk:=s.toks+1) (fun b ob hb e=>(K1.2 b hb).trans e) rfl rfl ⟨o',hg,ŗ⟩;exact hQ _ _ _ Z _ h (S.after P.1 P.2) .none P.2.toF
noncomputable def dc(m:List (Str×AV))(k:Str):List (Str×AV):=m.filter fun kv=>decide (kv.1≠k)
theorem KV.without(h:KV Z l r)(k:Str):KV Z (dc l k) (PySem.without r k):=by
 unfold dc PySem.without;induction h with
 |nil=>exact .nil
 | @cons k' v x l r hv _ ih =>
  rw[List.filter_cons,List.filter_cons];dsimp only;split
  ·exact .cons hv ih
  ·exact ih
theorem Wu{o i:Expr}{X9:Pos}{K:D4->St->Prop}
  (h:T C0 w A B C1 Val (k7 o C1) st fun v E5=>T C0 w A B C1 Val (k7 i C1) E5 fun u F9=>∃d m x led',v=.ref d/\u=.str x/\Upd d (au (a8 C0 w) m) (au (a8 C0 w) (dc m x)) F9.led led' /\
   (aP m x).isSome=true/\m.length<=c9/\K .next ⟨F9.loc,led'⟩):T C0 w A B C1 E1 (exec (.Delete [.Subscript o i X9] pos) C1) st K:=fun s Z S Q E hQ=>by
 refine wpAny_Delete (wpAny_deleteEach_cons (wpAny_delete_Subscript (h s Z S _ _ fun v vx s₁ Z1 E5 k₁ S1 V1 X1=>k₁ s₁ Z1 S1 _ _ fun u ux s2 Z2 F9 k2 S2 V2 X2=>?_)));refine Zg k2 fun d m x led' O5 O6 U U4 hsz hk=>?_;clear k2;subst O5;subst O6;cases V1;(refine aw V2.inv fun t_ e_=>?_;subst e_)
 refine ae (li S2.toC7 U.mem) fun kvs hD Z9=>?_;refine wpAny_delItem_slot hD.typeIs (by decide) F.slot_dict_delitem ?_;refine call_meetsIn F.slot_dict_delitem hD.typeIs F.entry_dict_delitem (F.args_dict_delitem_2 _ _) (meets_dict_delitem_pairs (a8 C0 w) d (k:=x) (yu.mpr rfl)) ⟨kvs,hD,by rw[Z9.length];exact hsz,?_,fun h' Ĭ f_=>?_⟩
 ·rcases Z9.find x with ⟨e1,e2⟩ |⟨u',y',e1,e2,e3⟩
  ·rw[e1] at U4;cases U4
  ·rw[e2];rfl
 ·have P:=S2.toC7.upd U (h':=h') (tk:=s2.toks+1) (fun b ob hb e=>f_.extBut b ob hb e) rfl rfl (ib Ĭ (Z9.without x));refine wpAny_deleteEach_nil ?_;exact hQ .next .next _ Z2 _ hk (S2.after P.1 P.2) .next ((X1.trans X2).trans P.2.toF)
end
section
open PySem PySem.W PySem.Builtin
theorem CU{x y z:α}{l:List α}:(x::y::z::l).Perm (z::y::x::l):=(List.perm_append_comm_assoc [x,y] [z] l).trans (.cons z (.swap y x l))
theorem T.pinU{rel:D3->α->β->Prop}{t:Sem β}{P:D3->Obj->Prop}{m}{led:aa}{K:α->St->Prop}(hm:(a,.obj P m)∈led)
  (h:∀o Z,P Z o->∃led',Upd a (.obj P m) (pQ P m o) led led'/\T C0 w A B C1 rel t ⟨loc,led'⟩ K):T C0 w A B C1 rel t ⟨loc,led⟩ K:=fun s Z S Q E hQ=>by
 refine ae (S.own _ hm) fun o ho hP=>?_;dsimp only at ho;refine ae (h o Z hP) fun led' U k=>?_;have X:=S.toC7.upd U (h':=s.heap) (tk:=s.toks) (fun b ob hb e=>e) rfl rfl ⟨o,ho,rfl,hP⟩;exact k s Z (S.after X.1 X.2) Q E fun v x s' Z' C4 kk S' V X'=>hQ v x s' Z' C4 kk S' V (X.2.toF.trans X')
theorem T.unpinU{rel:D3->α->β->Prop}{t:Sem β}{P:D3->Obj->Prop}{m}{led led':aa}{K:α->St->Prop}(U:Upd a (pQ P m o) (.obj P m) led led')
  (h:T C0 w A B C1 rel t ⟨loc,led'⟩ K):T C0 w A B C1 rel t ⟨loc,led⟩ K:=fun s Z S Q E hQ=>by
 refine ae (S.own _ U.mem) fun o' ho hP=>?_;dsimp only at ho;have X:=S.toC7.upd U (h':=s.heap) (tk:=s.toks) (fun b ob hb e=>e) rfl rfl ⟨o',ho,hP.2⟩;exact h s Z (S.after X.1 X.2) Q E fun v x s' Z' C4 kk S' V X'=>hQ v x s' Z' C4 kk S' V (X.2.toF.trans X')
theorem Jh{ks:List Str}{led:aa}(hm:(a,fz w ks)∈led):eb B (.ref a) led "set" := fun s Z u V S=>by
 (have e_:=V.inv;subst e_)
 obtain⟨o,ho,es,ep,t,rfl,_⟩:=S.own _ hm;dsimp only at ho;exact⟨⟨_,ho,rfl⟩,fun b e=>by cases e;exact bB _ ho rfl⟩
theorem KV.keys(h:KV Z l r):r.map (·.1)=l.map (·.1):=by
 induction h with
 |nil=>rfl
 |cons v _ ih=>rw[ZD,ZD,ih]
theorem UK{m:List (Str×AV)}(h:gw (a8 C0 w) m Z o):(m.map (·.1)).Nodup:=by
 refine eh h fun es ep kvs a b c d e f=>?_;clear h;exact(f.keys)▸e
theorem TT(m:List (Str×AV))(x k:Str):aP (dc m x) k=if k=x then none else aP m k:=by
 unfold aP dc;induction m with
 |nil=>simp
 |cons p r ih =>
  rw[List.filter_cons];by_cases e:p.1=x
  ·rw[if_neg (by simp[e]),ih,o9];by_cases q:k=x
   ·rw[if_pos q,if_pos q]
   ·rw[if_neg q,if_neg q]
    have : ¬ p.1=k:=fun z=>q (z▸e);simp[this]
  ·rw[if_pos (by simp[e]),o9,o9];by_cases q:p.1=k
   ·have : ¬ k=x:=fun z=>e (q▸z);simp[q,this]
   ·simp only[q,decide_false];exact ih
theorem Gi(xs:List Str):∀(m:List (Str×AV)) (k:Str),aP (xs.foldl dc m) k=if k∈xs then none else aP m k:=by
 induction xs with
 |nil=>intro m k;simp
 |cons x xs ih =>
  intro m k;rw[g6,ih,TT];by_cases q:k∈xs
  ·simp[q]
  ·by_cases e:k=x <;> simp[q,e]
noncomputable def cp(nt:Nat)(es:bH):List Str:=(es.filter fun e=>decide (nt<e.2.2.length)).map (·.1)
theorem IL(m:List (Str×AV))(x:Str):(dc m x).length<=m.length:=List.length_filter_le ..
theorem Ti(xs:List Str):∀(m:List (Str×AV)),(xs.foldl dc m).length<=m.length:=by
 induction xs with
 |nil=>intro m;exact ZZ _
 |cons x xs ih=>intro m;exact d7 (ih _) (IL m x)
theorem NK{nt:Nat}{es:bH}(h:((bw es).map (·.1)).Nodup):(cp nt es).Nodup:=by
 have e:(bw es).map (·.1)=es.map (·.1):=by simp[bw]
 rw[e] at h;unfold cp;exact(List.Sublist.map _ (List.filter_sublist ..)).nodup h
theorem NG{nt:Nat}{es:bH}{k:Str}(h:k∈cp nt es):(aP (bw es) k).isSome=true:=by
 refine ae (ZV.mp h) fun e he O3=>?_;subst O3;have he:=o8.mp he;unfold aP;rw[Option.isSome_map,List.find?_isSome];exact bB (e.1,.lst e.2.2) (ZO (f:=fun e:Str×b0×List AV=>(e.1,AV.lst e.2.2)) he.1) (by simp)
theorem TY{m:List (Str×AV)}(h:(m.map (·.1)).Nodup){k:Str}(hm:(k,v)∈m):aP m k=some v:=by
 unfold aP;induction m with
 |nil=>cases hm
 |cons p r ih =>
  rw[ZD,ZL] at h;rw[o9];rcases Zy.mp hm with e |hm
  ·subst e;simp
  ·have : ¬ p.1=k:=fun z=>h.1 (z▸ZO (f:=fun p:Str×AV=>p.1) hm);simp only[this,decide_false];exact ih h.2 hm
theorem TX{es:bH}{b xs:List Str}(h:cP es=dX (dY [] 0 b))(hb:200<=b.length)(ä:((bw es).map (·.1)).Nodup)(hx:xs.Perm (cp (b.length / 100+1) es))(k:Str) :
  (aP (xs.foldl dc (bw es)) k).getD (.lst [])=.lst (cX (bq b k)):=by
 have hT:I7 (dY [] 0 b) b:=by simpa using I7.chain b I7.nil
 have hf:=Gh h k;rw[hT k] at hf;have E3:(cX (cB b k)).length=(cB b k).length:=by simp[cX]
 have hk:k∈xs↔kh b k=true:=by
  rw[hx.mem_iff];unfold kh;rw[decide_eq_true hb,Bool.true_and,decide_eq_true_eq];constructor
  ·intro hm;refine ae (ZV.mp hm) fun e he O3=>?_;subst O3;refine aA (o8.mp he) fun he hl=>?_;have hl:=of_decide_eq_true hl
   have:=TY ä (k:=e.1) (v:=.lst e.2.2) (ZO (f:=fun e:Str×b0×List AV=>(e.1,AV.lst e.2.2)) he);rw[hf] at this;split at this
   ·cases this
   ·rw[B3] at this;injection this with this
    injection this with this
    exact(E3)▸(Eq.symm (this))▸hl
  ·intro hl;have I3 : ¬ cB b k=[]:=fun q=>by rw[q] at hl;simp at hl
   rw[if_neg I3,B3] at hf;unfold aP at hf;rw[k0] at hf;refine ae hf fun p hp hv=>?_;clear hf;have hpm:=List.mem_of_find?_eq_some hp;have hpk:=List.find?_some hp;refine ae (ZV.mp hpm) fun e he O3=>?_;subst O3;have hek:e.1=k:=by simpa using hpk
   have hv:AV.lst e.2.2=.lst (cX (cB b k)):=hv;injection hv with hv
   exact ZV.mpr ⟨e,o8.mpr ⟨he,by exact(Eq.symm (hv))▸(Eq.symm (E3))▸decide_eq_true hl⟩,hek⟩
 rw[Gi];unfold bq;by_cases q:k∈xs
 ·rw[if_pos q,if_pos (hk.mp q)];rfl
 ·rw[if_neg q,if_neg (fun z=>q (hk.mpr z)),hf];by_cases q:cB b k=[]
  ·rw[if_pos q,q];rfl
  ·rw[if_neg q];rfl
end
noncomputable abbrev fJ(va:AV)(b:List Str):List (Str×AV) :=
 [(pK,.none),(dG,va),(du,.lst (b.map .str)),(uL,.bool true),(uK,.none),(Cj,.none),(Ci,.none)]
noncomputable abbrev rZ(d dj jk pp:b0)(b:List Str)(nt:Nat)(vi ve vx vz:AV:=.any):List (Str×AV) :=
 [(q6,.inst 242 d),(lX,vi),(Ch,ve),(Cg,vx),(du,.lst (b.map .str)),(pI,.ref dj),(Ce,.ref jk),(pK,.none),(Cc,.ref pp),(lW,.int b.length),(Cb,.int nt),(Ca,vz)]
noncomputable abbrev fH(va:AV)(b:List Str)(dj jk pp:b0):List (Str×AV):=fJ va b++[(pI,.ref dj),(Cf,.ref jk),(Cd,.ref pp)]
theorem KA:Slot "set" Md "set.add" := by
 rw[show (Md:Str)=Zw "add" from by decide +kernel];exact F.slot_set_add
theorem Ji{m:List (Str×AV)}{od:Obj}{led:aa}(hm:(d,ou (C0:=af) w m od)∈led):eb B (.ref d) led "dict" := fun s Z u V S=>by
 cases V
 refine ae (S.own _ hm) fun o ho h_=>aA h_ fun e_ h_=>eh h_ fun es ep kvs a b c e f g=>?_;subst e_;dsimp only at ho;have hD:s.heap.DictOf (a8 af w) d kvs:=⟨o,es,ep,ho,a,b,c,e,f⟩;exact⟨hD.typeIs,hD.mapOf.noDict⟩
theorem CQ(nt:Nat)(p:bH)(e:Str×b0×List AV):cp nt (p++[e])=cp nt p++(if nt<e.2.2.length then [e.1] else []):=by
 unfold cp;rw[List.filter_append,ZT];congr 1
 by_cases h:nt<e.2.2.length <;> simp[h]
theorem NJ{nt:Nat}{p r:bH}{e:Str×b0×List AV}(h:((bw (p++e::r)).map (·.1)).Nodup):e.1∉cp nt p:=fun q=>by
 refine ae (ZV.mp q) fun e' he hk=>?_;have he:=(o8.mp he).1;have e2:(bw (p++e::r)).map (·.1)=p.map (·.1)++(e.1::r.map (·.1)):=by simp[bw,Function.comp_def]
 rw[e2,List.nodup_append] at h;exact h.2.2 _ (ZO (f:=fun e:Str×b0×List AV=>e.1) he) e.1 (Zr ..) hk
theorem NL(nt:Nat)(p:bH):(cp nt p).length<=p.length:=by
 unfold cp;rw[Zu];exact List.length_filter_le ..
noncomputable abbrev dP(w:ZQ)(m:List (Str×AV))(od:Obj):D9:=ou (C0:=af) w m od
theorem xV{dj:b0}(h:ak w dj=none):(dj==p8)=false:=beq_eq_false_iff_ne.mpr fun q=>by
 have:(ak w p8).isSome=true:=@_;rw[← q,h] at this;cases this
structure j_ (b pre rest:List Str) (es:bH):Prop where
 e:b=pre++rest
 es:cP es=dX (dY [] 0 pre)
section
variable{b pre rest:List Str}{es H9 M2:bH}{js:List AV}{a':b0}
theorem j_.room(h:j_ b pre rest es):es.length<=b.length:=by
 have h1:=congrArg y6 h.es;simp only[cP,dX,Zu] at h1;have h2:=GR pre [] 0;simp only[ZR] at h2;rw[h.e,ZA];omega
theorem j_.step(h:j_ b pre (y::rest) es)(w':∀v,dZ (cP es) y v=cP (H9++(y,a',js++[v])::M2)):j_ b (pre++[y]) rest (H9++(y,a',js++[.int pre.length])::M2) :=
 ⟨by rw[h.e,ZW];rfl,by rw[GP,Nat.zero_add,Gu,← h.es,w']⟩
theorem j_.lens(h:j_ b pre rest es){e:Str×b0×List AV}(he:e∈es):e.2.2.length<=pre.length:=by
 have hm:(e.1,e.2.2)∈dX (dY [] 0 pre):=by rw[← h.es];exact ZO (f:=fun e:Str×b0×List AV=>(e.1,e.2.2)) he
 refine ae (ZV.mp hm) fun e' Œ q=>?_;have h1:=GQ pre [] 0 0 (fun O h=>by cases h) e' Œ;have h2:=congrArg (fun p=>p.2.length) q;simp only[cX,Zu] at h1 h2;omega
theorem j_.lenjs(h:j_ b pre (y::rest) es)(w':∀v,dZ (cP es) y v=cP (H9++(y,a',js++[v])::M2)):js.length<=b.length:=by
 have:=(h.step w').lens (e:=(y,a',js++[.int pre.length])) (ZY _ (Zr ..));have e:=(h.step w').e;rw[e,ZA];simp only[ZA,r8] at this ⊢;omega
end
section
variable(w:ZQ)(d dj:b0)(va:AV)(b:List Str)(led:aa)
noncomputable abbrev Qu(vi ve vx bj ju ij po nn nt vz:AV:=.any):List (Str×AV) :=
 [(q6,.inst 242 d),(lX,vi),(Ch,ve),(Cg,vx),(du,.lst (b.map .str)),(pI,bj),(Ce,ju),(pK,ij),(Cc,po),(lW,nn),(Cb,nt),(Ca,vz)]
noncomputable abbrev Gv(p:Str×Nat):AV:=.tup [.int p.2,.str p.1]
def JB(gs:List (Str×Nat))(P:St->Prop):Prop:=∀pre rest es,gs=rest.zipIdx pre.length->j_ b pre rest es->P ⟨Qu d b .any .any .any (.ref dj),(dj,au (a8 af w) (dd es))::(ev es++(d,bh (fJ va b++[(pI,.ref dj)]))::led)⟩
end
theorem HS{p:b0×D9}{l:aa}(h:p∈l):G5 [p] l:=fun q hq=>ZK.mp hq▸h
theorem Ut(l:List Str)(n:Nat):sC n (l.map .str)=(l.zipIdx n).map Gv:=by
 induction l generalizing n with
 |nil=>rfl
 |cons x l ih=>exact congrArg _ (ih (n+1))
theorem Ix{p:Str×Nat}{gs:List (Str×Nat)}{rest:List Str}(e:p::gs=rest.zipIdx n):∃r,rest=p.1::r/\n=p.2/\gs=r.zipIdx (n+1):=by
 cases rest with
 |nil=>cases e
 |cons y r=>cases e;exact⟨r,rfl,rfl,rfl⟩
theorem j_.all{b pre rest:List Str}{es:bH}(h:j_ b pre rest es)(e:[]=rest.zipIdx n):j_ b b [] es:=by
 cases rest with
 |nil =>
  have q:=h.e;rw[g7] at q;exact q▸h
 |cons y r=>cases e
section
variable(w:ZQ)(d dj jk pp:b0)(va:AV)(b:List Str)(es:bH)(od:Obj)(nt:Nat)(led:aa)
noncomputable abbrev Gm(e:Str×b0×List AV):AV:=.tup [.str e.1,.lst e.2.2]
def JY(r:bH)(P:St->Prop):Prop:=∀p vv,es=p++r->P ⟨rZ d dj jk pp b nt,(vv,eZ dj)::(pp,fz w (cp nt p))::(jk,cn)::(dj,dP w (bw es) od)::(d,bh (fH va b dj jk pp))::led⟩
def KY(P:St->Prop):Prop:=∀vv ks,ks=cp nt es->P ⟨rZ d dj jk pp b nt,(vv,eZ dj)::(pp,fz w ks)::(jk,cn)::(dj,dP w (bw es) od)::(d,bh (fH va b dj jk pp))::led⟩
end
section
variable(w:ZQ)(d dj jk pp vv:b0)(va:AV)(b:List Str)(m:List (Str×AV))(ks:List Str)(os:Obj)(nt:Nat)(led:aa)
def JZ(r:List Str)(P:St->Prop):Prop:=∀p M,M=p.foldl dc m->(p++r).Perm ks->P ⟨rZ d dj jk pp b nt,(vv,eZ dj)::(pp,gN w ks os)::(jk,cn)::(dj,au (a8 af w) M)::(d,bh (fH va b dj jk pp))::led⟩
end
theorem Th{p:List Str}{M m:List (Str×AV)}(e:M=p.foldl dc m):dc M y=(p++[y]).foldl dc m:=by rw[e,List.foldl_append];rfl
theorem j_.item{b:List Str}{es p r:bH}{ya:b0}{js:List AV}(h:j_ b b [] es)(e:es=p++(y,ya,js)::r):js.length<=b.length/\p.length<b.length:=by
 have h1:=h.lens (e:=(y,ya,js)) (e▸ZY _ (Zr ..));have h2:=h.room;rw[e,ZA,Zz] at h2;exact⟨h1,by omega⟩
theorem NH{nt:Nat}{p:bH}{ya:b0}{js:List AV}(h:nt<js.length):cp nt p++[y]=cp nt (p++[(y,ya,js)]):=by rw[CQ,if_pos h]
theorem NI{nt:Nat}{p:bH}{ya:b0}{js:List AV}(h : ¬ nt<js.length):cp nt p=cp nt (p++[(y,ya,js)]):=by rw[CQ,if_neg h,g7]
theorem Tg{es:bH}{b p:List Str}{M:List (Str×AV)}(e:M=p.foldl dc (bw es))(h:j_ b b [] es)(hb:b.length<4000):M.length<=c9:=by
 subst e;have h1:=Ti p (bw es);have h2:(bw es).length=es.length:=Zu ..;have h3:=h.room;rw[j7];omega
theorem Tf{nt:Nat}{es:bH}{p r ks:List Str}{M:List (Str×AV)}(e:M=p.foldl dc (bw es))(hk:ks=cp nt es)(ä:((bw es).map (·.1)).Nodup)(h:(p++y::r).Perm ks):(aP M y).isSome=true:=by
 subst e;subst hk;have hnod:=h.nodup_iff.mpr (NK ä);rw[Gi,if_neg fun q=>(List.nodup_append.mp hnod).2.2 _ q y (Zr ..) rfl];exact NG (h.mem_iff.mp (ZY _ (Zr ..)))
theorem YJ{a c r:Int}(h0:c≠0)(h2:c.natAbs<1073741824)(e:a.fdiv c=r)(h:K (.int r) st):F2 C0 w A B C1 Val (binaryOp .FloorDiv) (.int a) (.int c) st K :=
 Ii h0 h2 (e.symm▸h)
theorem Vk{va:AV}{b:List Str}{led:aa}(hA:D6 A 20)(hb:b.length<4000) :
  TC af w A (ak w) (.ref 188) [.inst 242 d] [] ((d,bh (fJ va b))::led) fun v led'=>v=.none/\∃dj jk pp mm,led'=(d,bh (fJ va b++[(pI,.ref dj),(Cf,.ref jk),(Cd,.ref pp)]))::(dj,au (a8 af w) mm)::(jk,cn)::led
   /\ (dj==p8)=false/\∀k,(aP mm k).getD (.lst [])=.lst (cX (bq b k)):=by
 refine TC.weak (dD [(q6,.inst 242 d),(lX,.any),(Ch,.any),(Cg,.any),(du,.any),(pI,.any),(Ce,.any),(pK,.any),(Cc,.any),(lW,.any),(Cb,.any),(Ca,.any)] (bA w) hA.lt (fun O=>@_) @_ @_ (TE _) fun L hL=>?_);have D0:=hA.deeper (k:=17) (C1:=bf (ap (iW w.params)) L 188 187);have hh:=D0.h;have hG:=((((((gk w (A.deeper _) (ap (iW w.params)) L 188 187 @_ @_ hh).g (gY w) @_ @_).g (SQ w) @_ @_).g (SG w) @_ @_).m ⟨Mg,1, "list.append"⟩ F.plainAttrs_list jH F.type_list_append).m ⟨Mh,2, "dict.setdefault"⟩ F.plainAttrs_dict Kw F.type_dict_setdefault);refine aB (aF hG 20 (C6.mk (dJ (bd _) @_ (Zr ..) (v:=.lst (b.map .str)) @_ rfl ?_)));refine aB (fQ rfl rfl rfl (zE (knd:=a8 af w) fun dj hdj hdB=>dp (ad hG 5 (ef (m':=fJ va b++[(pI,.ref dj)]) (bd _) @_ (.there .here) rfl (j5 rfl) (cx (bp rfl ?_))))));have L4:=xV hdB;refine aB (oD (k:=5) Gv (JB w d dj va b led) (D0.mono ⋯) (ad hG 20 (C6.mk (Yh fun e it=>YX (k:=5) fun hI => .mk hI (Ut b 0▸.mk (fun O y=>y [] b [] rfl ⟨rfl,rfl⟩) @_)))) ?_ ?_ fun O=>@_)
 ·intro gl p ps pre rest es e h;refine aU (Ix e) fun r e1 e2 e3=>?_;have h:=e1▸h;have hr:=h.room;refine dK hh @_ @_ @_ (cY _ rfl _ _ rfl rfl ?_);simp only[ZE,ZW];refine bx hG 40 ⟨lE (knd:=a8 _ _) (Zr ..),C6.mk (cR rfl fun a ha=>C6.mk (XH L4 (by rw[j7];omega) fun H9 a' js M2 w'=>?_))⟩;have hj:=h.lenjs w';refine⟨bz (xs:=js) (.tail _ (ZY _ (.head _))),C6.mk (dn (xs:=js) (.there (.skip .here)) (by rw[j7];omega) ?_)⟩;refine .nextE (l:=(dj,au (a8 af w) (dd (H9++(p.1,a',js++[.int p.2])::M2)))::(ev (H9++(p.1,a',js++[.int p.2])::M2)++(d,bh (fJ va b++[(pI,.ref dj)]))::led)) (by simp[dd,ev]) (.mk (fun O y=>y (pre++[p.1]) r _ (e3.trans (by rw[ZA];rfl)) (e2▸h.step w')) @_)
 ·intro pre rest es e h;have h:=h.all e;refine T.freezes (knd:=a8 af w) es ?_;refine aB (fQ rfl rfl rfl (ad hG 20 (C6.mk (XL fun jk hjk=>dp (ad hG 5 (ef (m':=fJ va b++[(pI,.ref dj),(Cf,.ref jk)]) (bd _) @_ (.there (.there .here)) rfl (j5 rfl) (cx (bp rfl ?_))))))));refine aB (aF hG 20 (C6.mk (dJ (bd _) @_ (by repeat constructor) (v:=.none) @_ rfl ?_)));refine aB (aF hG 20 ?_);refine aB (fQ rfl rfl rfl (ad hG 20 (C6.mk (XK fun pp hpp=>dp (ad hG 5 (ef (m':=fH va b dj jk pp) (bd _) @_ (.there (.there (.there .here))) rfl (j5 rfl) (cx (bp rfl ?_))))))));refine aB (aF hG 20 (C6.mk (gB .frz (by rw[Zu];omega) ?_)));rw[Zu];refine bx hG 20 (C6.mk (oF (ad hG 5 (C6.mk (dJ (bd _) @_ (by repeat constructor) (v:=.bool true) @_ rfl (tm ?_))))));refine NO (Q:=True) (bL (fun c=>?_) fun c=>?_)
  ·have h200:200<=b.length:=by omega
   refine C6.mk (YJ (c:=100) (a:=b.length) (r:=(b.length / 100:Nat)) (by decide) (by decide) (by rw[Int.fdiv_eq_ediv_of_nonneg _ (by decide)];omega) ?_);refine C6.mk (T.pinU (a:=dj) (P:=gw (a8 af w) (bw es)) (m:=oy) (by repeat constructor) fun od Z U5=>⟨_,by repeat constructor,?_⟩);have ä:=UK U5;refine T.join (KY w d dj jk pp va b es od (b.length / 100+1) led) (sU (N:=[(dj,dP w (bw es) od)]) (k:=5) Gm (JY w d dj jk pp va b es od (b.length / 100+1) led) (fun O O O O h=>h) (D0.mono ⋯) ?_ ?_ (fun gs C4 h=>h (fun st=>G5 _ st.led) fun p vv O=>HS (by repeat constructor)) (fun p vv e => .mk (fun O y=>y vv _ (congrArg (cp _) (show p=es from(e.trans (g7 p)).symm))) @_) (fun O=>@_)) fun vv ks hks=>?_
   ·exact zD (T' := "dict") (id := "dict.items") @_ @_ @_ F.plainAttrs_dict Ky F.type_dict_items (ad hG 5 ⟨Ji (by repeat constructor),ds @_ jh (bP hG 5 (XW L4 (P:=pP (gw (a8 af w) (bw es)) od) (mm:=CT oy) (m:=bw es) (by repeat constructor) (fun Z o h=>h.2) fun vv hvv=>YV (d:=dj) (od:=od) (m:=bw es) (k:=5) (by repeat constructor) (by repeat constructor) fun it hI => .mk (hI _ _ _) ((show ((bw es).map fun e=>AV.tup [.str e.1,e.2])=es.map Gm from m4)▸.mk (fun O y=>y [] vv rfl) @_)))⟩)
   ·intro gl x r p vv hp;refine aA (h.item hp) fun hj hp2=>?_;have hj:x.2.2.length<=b.length:=hj;have hpk:=NL (b.length / 100+1) p;refine dK hh @_ @_ @_ (cY _ rfl _ _ rfl rfl ?_);refine bx hG 20 (C6.mk (gB .frz ⋯ (bL (fun c=>?_) fun c=>?_)))
    ·refine C6.mk (zD (T' := "set") (id := "set.add") @_ @_ @_ F.plainAttrs_set KA F.type_set_add (ad hG 5 ⟨Jh (ks:=cp (b.length / 100+1) p) (by repeat constructor),ds @_ jh (bP hG 5 (Yl (ks:=cp (b.length / 100+1) p) (NJ (r:=r) (e:=x) (hp▸ä)) (by show _<4096;omega) (by repeat constructor) ?_))⟩));refine .next (l:=(vv,eZ dj)::(pp,fz w (cp (b.length / 100+1) p++[x.1]))::(jk,cn)::(dj,dP w (bw es) od)::(d,bh (fH va b dj jk pp))::led) ?_;rw[NH (ya:=x.2.1) (js:=x.2.2) ⋯];exact .mk (fun O q=>q (p++[x]) vv (by rw[ZW];exact hp)) @_
    ·refine .next (l:=(vv,eZ dj)::(pp,fz w (cp (b.length / 100+1) p))::(jk,cn)::(dj,dP w (bw es) od)::(d,bh (fH va b dj jk pp))::led) ?_;rw[NI (ya:=x.2.1) (y:=x.1) (js:=x.2.2) ⋯];exact .mk (fun O q=>q (p++[x]) vv (by rw[ZW];exact hp)) @_
   ·refine C6.mk ?_;refine T.unpinU (a:=dj) (o:=od) (P:=gw (a8 af w) (bw es)) (m:=oy) (by repeat constructor) ?_;refine T.pinU (a:=pp) (P:=fV w ks) (m:=uu) (by repeat constructor) fun os Z J5=>⟨_,by repeat constructor,?_⟩;refine T.join (fun P=>∀p M,M=p.foldl dc (bw es)->p.Perm ks->P ⟨rZ d dj jk pp b (b.length / 100+1),(vv,eZ dj)::(pp,gN w ks os)::(jk,cn)::(dj,au (a8 af w) M)::(d,bh (fH va b dj jk pp))::led⟩) (sU (N:=[(pp,gN w ks os)]) (k:=5) AV.str (JZ w d dj jk pp vv va b (bw es) ks os (b.length / 100+1) led) (fun O O O O h=>h) (D0.mono ⋯) ?_ ?_ (fun gs C4 h=>h (fun st=>G5 _ st.led) fun p M O O=>HS (by repeat constructor)) (fun p M e hp => .mk (fun O y=>y p M e (g7 p▸hp)) @_) (fun O=>@_)) fun p M e hp=>?_
    ·exact ad hG 20 (YU (k:=5) (ks:=ks) (o:=os) (by repeat constructor) fun it xs gl hp hI => .mk (hI _ _) (.mk (fun O y=>y [] _ rfl hp) @_))
    ·intro gl y r p M e hp;refine cx (bp rfl (bx hG 20 (C6.mk (Wu (ad hG 20 (ad hG 20 ⟨dj,M,y,_,rfl,rfl,by repeat constructor,Tf e hks ä hp,Tg e h hb,.next (l:=(vv,eZ dj)::(pp,gN w ks os)::(jk,cn)::(dj,au (a8 af w) (dc M y))::(d,bh (fH va b dj jk pp))::led) (.mk (fun O q=>q (p++[y]) _ (Th e) (by rw[ZW];exact hp)) @_)⟩))))))
    ·refine⟨(d,bh (fH va b dj jk pp))::(dj,au (a8 af w) M)::(jk,cn)::led,⟨[(vv,eZ dj),(pp,gN w ks os)],.cons _ (.cons _ CU)⟩,rfl,dj,jk,pp,_,rfl,L4,e▸TX h.es h200 ä (hks▸hp)⟩
  ·refine⟨(d,bh (fH va b dj jk pp))::(dj,au (a8 af w) (bw es))::(jk,cn)::led,⟨[(pp,fz w [])],.cons _ CU⟩,rfl,dj,jk,pp,_,rfl,L4,TZ h.es ⋯⟩
def lr(w:ZQ)(d:b0)(a b:List Str)(led led':aa):Prop:=∃dj jk pp mm,led'=(d,bh (fJ (.lst (a.map .str)) b++[(pI,.ref dj),(Cf,.ref jk),(Cd,.ref pp)]))::(dj,au (a8 af w) mm)::(jk,cn)::led
   /\ (dj==p8)=false/\∀k,(aP mm k).getD (.lst [])=.lst (cX (bq b k))
theorem La{a b:List Str}{led:aa}(hA:D6 A 30)(hb:b.length<4000) :
  TC af w A (ak w) (.ref 181) [.inst 242 d,.lst (b.map .str)] [] ((d,bh [(pK,.none),(dG,.lst (a.map .str)),(du,.none),(uL,.bool true),(uK,.none),(Cj,.none)])::led) fun v led'=>v=.none/\lr w d a b led led':=by
 refine TC.weak (dD [(du,.lst (b.map .str)),(q6,.inst 242 d)] (bA w) hA.lt (fun O O=>@_) @_ @_ (TF _) fun L hL=>?_);have D0:=hA.deeper (k:=27) (C1:=bf (ap (iX w.params)) L 181 180);have hG:=gk w (A.deeper _) (ap (iX w.params)) L 181 180 @_ @_ D0.h;refine bx hG 60 (C6.mk (dJ (bd _) @_ (Zr ..) (v:=.none) @_ rfl ?_));refine C6.mk (ec rfl rfl rfl (ad hG 5 (dp (ad hG 5 (ef (m':=[(pK,.none),(dG,.lst (a.map .str)),(du,.lst (b.map .str)),(uL,.bool true),(uK,.none),(Cj,.none)]) (bd _) @_ .here rfl (j5 rfl) (?_))))));refine C6.mk (fQ rfl rfl rfl (ad hG 5 (dp (ad hG 5 (ef (m':=[(pK,.none),(dG,.lst (a.map .str)),(du,.lst (b.map .str)),(uL,.bool true),(uK,.none),(Cj,.none)]) (bd _) @_ .here rfl (j5 rfl) (dp (ad hG 5 (ef (m':=[(pK,.none),(dG,.lst (a.map .str)),(du,.lst (b.map .str)),(uL,.bool true),(uK,.none),(Cj,.none)]) (bd _) @_ .here rfl (j5 rfl) (?_)))))))));refine C6.mk (ec rfl rfl rfl (ad hG 5 (dp (ad hG 5 (ef (m':=fJ (.lst (a.map .str)) b) (bd _) @_ .here rfl (j5 rfl) (?_))))));refine C6.mk (ik (name:=uJ) (C:=242) (f:=188) @_ @_ @_ (bd _) @_ @_ (ad hG 5 (.mk (Zr ..) @_ (ds @_ (bS @_) (bP hG 10 (gD (Vk (D0.mono ⋯) hb) fun v led' h=>?_))))));exact eF _ (.refl _) rfl h.2
theorem KZ{a b:List Str}{led:aa}(hA:D6 A 40)(hb:b.length<4000) :
  TC af w A (ak w) (.ref 167) [.inst 242 d,.lst (a.map .str),.lst (b.map .str)] [] ((d,bh [(pK,.none),(dG,.none),(du,.none),(uL,.bool true)])::led) fun v led'=>v=.none/\lr w d a b led led':=by
 refine TC.weak (dD [(du,.lst (b.map .str)),(dG,.lst (a.map .str)),(q6,.inst 242 d)] (bA w) hA.lt (fun O O O=>@_) @_ @_ (TI _) fun L hL=>?_);have D0:=hA.deeper (k:=37) (C1:=bf (ap (iZ w.params)) L 167 166);have hG:=gk w (A.deeper _) (ap (iZ w.params)) L 167 166 @_ @_ D0.h;refine bx hG 60 (C6.mk (ik (name:=jO) (C:=242) (f:=174) @_ @_ @_ (bd _) @_ @_ (ad hG 5 (.mk (Zr ..) @_ (ds @_ (bS @_) (bP hG 10 (gD (Lb (D0.mono ⋯) rfl (j5 rfl)) fun v led' h=>?_)))))));refine aA h fun O1 O2=>?_;clear h;subst O1;subst O2;refine C6.mk (ik (name:=jN) (C:=242) (f:=181) @_ @_ @_ (bd _) @_ @_ (ad hG 5 (.mk (Zr ..) @_ (ds @_ (bS @_) (bP hG 10 (gD (K0:=fun v led'=>v=.none/\lr w d a b led led') (La (D0.mono ⋯) hb) fun v led' h=>?_))))));exact eF _ (.refl _) rfl h.2
theorem init{a b:List Str}{led:aa}(hA:D6 A 50)(hb:b.length<4000) :
  TC af w A (ak w) (.ref 160) [.inst 242 d,.none,.lst (a.map .str),.lst (b.map .str)] [] ((d,bh [])::led) fun v led'=>v=.none/\lr w d a b led led':=by
 refine TC.weak (zH (binds:=[(q6,.inst 242 d),(pK,.none),(dG,.lst (a.map .str)),(du,.lst (b.map .str)),(uL,.bool true)]) (bA w) (TJ _) hA.lt (Binds.of4 fun Z v1 v2 v3 v4 h1 h2 h3 h4=>⟨_,@_,.cons h1 (.cons h2 (.cons h3 (.cons h4 (.cons (.bool true) .nil))))⟩) @_ fun L hL=>?_);have D0:=hA.deeper (k:=47) (C1:=bf (ap (jc w.params)) L 160 159);have hG:=gk w (A.deeper _) (ap (jc w.params)) L 160 159 @_ @_ D0.h;simp only[ZX,List.reverse_nil,ZH,ZE];refine bx hG 60 (C6.mk (ec rfl rfl rfl (ad hG 5 (dp (ad hG 5 (ef (m':=[(pK,.none)]) (bd _) @_ .here rfl (j5 rfl) (?_)))))));refine C6.mk (fQ rfl rfl rfl (ad hG 5 (dp (ad hG 5 (ef (m':=[(pK,.none),(dG,.none)]) (bd _) @_ .here rfl (j5 rfl) (dp (ad hG 5 (ef (m':=[(pK,.none),(dG,.none),(du,.none)]) (bd _) @_ .here rfl (j5 rfl) (?_)))))))));refine C6.mk (ec rfl rfl rfl (ad hG 5 (dp (ad hG 5 (ef (m':=[(pK,.none),(dG,.none),(du,.none),(uL,.bool true)]) (bd _) @_ .here rfl (j5 rfl) (?_))))));refine C6.mk (ik (name:=jP) (C:=242) (f:=167) @_ @_ @_ (bd _) @_ @_ (ad hG 5 (.mk (Zr ..) @_ (ds @_ (bS @_) (bP hG 10 (gD (KZ (D0.mono ⋯) hb) fun v led' h=>?_))))));exact eF _ (.refl _) rfl h.2
theorem Qb{a b:List Str}{led:aa}(hA:D6 A 60)(hb:b.length<4000) :
  TC af w A (ak w) (.ref 242) [.none,.lst (a.map .str),.lst (b.map .str)] [] led fun v led'=>∃d,v=.inst 242 d/\lr w d a b led led' :=
 WT (k:=59) (hA.mono ⋯) @_ @_ @_ fun d A' D0 hd=>(init (D0.mono ⋯) hb).mono fun v l h=>⟨h.1,d,rfl,h.2⟩
theorem Qd{a b:List Str}{led:aa}{P:AV->aa->Prop}
  (k:∀d dj jk pp mm,(dj==p8)=false->(∀k,(aP mm k).getD (.lst [])=.lst (cX (bq b k)))->P (.inst 242 d) ((d,bh (fJ (.lst (a.map .str)) b++[(pI,.ref dj),(Cf,.ref jk),(Cd,.ref pp)]))::(dj,au (a8 af w) mm)::(jk,cn)::led))
  (v:AV) (led':aa) (h:∃d,v=.inst 242 d/\lr w d a b led led'):P v led' :=
 ae h fun d e h=>dq h fun dj jk pp mm el L4 W_=>e▸el▸k d dj jk pp mm L4 W_
theorem EA(w:ZQ):υ af w (KB w.params) 135:=⟨@_,@_,@_,@_,@_⟩
set_option backward.match.sparseCases false in
noncomputable def CY(P:Zv):b0:=match findCls (KB P) (.ref 135) (.type "type") "__new__" with |some (.get _ (.ref p) _ _)=>p |_=>0
noncomputable def LW(P:Zv):List Value:=((recIn (KB P) (CY P) "staticmethod").getD []).tail
noncomputable def Pj(w:ZQ):List Value:=(f1 (KB w.params) ⟨af,w.params⟩ (mroOf (.ref 135))).getD []
theorem PO(w:ZQ):F' af w (KB w.params) 135 82 :=
 ⟨⟨kA w.params,GU (kA w.params),@_,@_⟩,@_,@_,⟨Pj w,@_,@_⟩,@_,@_,⟨CY w.params,LW w.params,@_,@_⟩,@_,@_,@_⟩
theorem OU{x y z:Int}{led:aa}(hA:D6 A 20) :
  TC af w A (ak w) (.ref 82) [.ref 135,.int x,.int y,.int z] [] led fun v led'=>v=.mat 135 [.int x,.int y,.int z]/\led'=led:=by
 refine dD [(iE,.int z),(du,.int y),(dG,.int x),(Cn,.ref 135)] (bA w) hA.lt (fun O O O O=>@_) @_ @_ (Tl _) fun L hL=>?_;have hG:=(gk w (A.deeper (bf (ap (gS w.params)) L 82 81)) (ap (gS w.params)) L 82 81 @_ @_ hA.h).g (FI w) @_ @_;refine bx hG 60 (C6.mk (HH (name:=jU) (T' := "tuple") (id := "tuple.__new__") @_ @_ @_ (by decide +kernel) @_ @_ @_ @_ @_ (ad hG 5 ⟨rfl,ds @_ jh (bP hG 20 (HZ (EA w) (by decide:3<=c9) (fun O=>@_) ?_))⟩)));exact⟨rfl,rfl⟩
theorem Qc{x y z:Int}{led:aa}(hA:D6 A 30) :
  TC af w A (ak w) (.ref 135) [.int x,.int y,.int z] [] led fun v led'=>v=.mat 135 [.int x,.int y,.int z]/\led'=led :=
 WP (k:=29) (xs:=[.int x,.int y,.int z]) (hA.mono ⋯) (PO w) fun A' D0=>(OU (D0.mono ⋯)).mono fun v l h=>⟨h.1,rfl,h.2⟩
section
variable{a b:List Str}{alo D1 C8 C9:Nat}
def oI(s:ab)(ti tj tk:Int):Prop:=ti=s.1/\tj=s.2.1/\tk=s.2.2
structure W8 (a b:List Str) (alo D1 C8 C9 i0:Nat) (s:(Int->Nat)×ab) (m:List (Int×AV)) (ti tj tk:Int):Prop where
 g1:alo<=i0
 g2:i0<=D1
 inv:H7 alo C8 C9 i0 s
 fold:en (aO a b) C8 C9 (g9 i0 (D1-i0)) s=en (aO a b) C8 C9 (g9 alo (D1-alo)) (fun O=>0,(alo,C8,0))
 rel:T3 m s.1
 e:oI s.2 ti tj tk
theorem W8.start(h1:alo<=D1)(h3:C8<=C9):W8 a b alo D1 C8 C9 alo (fun O=>0,(alo,C8,0)) [] alo C8 0:=⟨ZZ _,h1,H7.start h3,rfl,T3.nil,rfl,rfl,rfl⟩
structure U0 (b:List Str) (alo C8 C9 i0:Nat) (s:(Int->Nat)×ab) (la:Str) (js:List Nat) (s2:(Int->Nat)×ab) (m2:List (Int×AV)) (ti tj tk:Int):Prop where
 sort:js.Pairwise (· < ·)
 lt:∀j∈js,j<b.length
 inv:H7 alo C8 C9 (i0+1) s2
 fold:(within C8 C9 js).foldl (dl s.1 i0) s2=fA (bq b la) C8 C9 i0 s
 rel:T3 m2 s2.1
 len:m2.length+js.length<=b.length
 e:oI s2.2 ti tj tk
structure W0 (b:List Str) (alo C8 C9 i0:Nat) (s:(Int->Nat)×ab) (la:Str) (m2:List (Int×AV)) (ti tj tk:Int):Prop where
 rel:T3 m2 (fA (bq b la) C8 C9 i0 s).1
 inv:H7 alo C8 C9 (i0+1) (fA (bq b la) C8 C9 i0 s)
 e:oI (fA (bq b la) C8 C9 i0 s).2 ti tj tk
theorem xO{a b:Nat}(q : ¬ (a:Int)<b):b<=a:=Nat.not_lt.mp fun h=>q (Int.ofNat_lt.mpr h)
theorem Ej{a b:Nat}(q : ¬ (a:Int)<=b):b<a:=Nat.not_le.mp fun h=>q (Int.ofNat_le.mpr h)
theorem QF{x m b:Nat}(hl:x<=m+1)(hn:m+(j+1)<=b):x+j<=b:=d7 (Nat.add_le_add_right hl _) (d7 (Nat.le_of_eq (Nat.succ_add_eq_add_succ ..)) hn)
theorem AQ{m:Nat}(h:m<n):n-m=n-(m+1)+1:=(Nat.succ_pred_eq_of_pos (Nat.sub_pos_of_lt h)).symm
theorem AP{D:Nat}(h:D<=i):(i:Int)-((D:Int)+1)+1=((i-D:Nat):Int):=by rw[Int.ofNat_sub h,← Int.sub_sub,Int.sub_add_cancel]
variable{i0:Nat}{s s2:(Int->Nat)×ab}{m m2:List (Int×AV)}{ti tj tk:Int}{la:Str}{js:List Nat}
theorem W8.inn(h:W8 a b alo D1 C8 C9 i0 s m ti tj tk):U0 b alo C8 C9 i0 s la (bq b la) (fun O=>0,s.2) [] ti tj tk :=
 ⟨Fl b la,fun j hj=>RL hj,h.inv.row,rfl,T3.nil,by simpa using RM b la,h.e⟩
theorem U0.low(h:U0 b alo C8 C9 i0 s la (j::js) s2 m2 ti tj tk)(q:(j:Int)<C8):U0 b alo C8 C9 i0 s la js s2 m2 ti tj tk :=
 ⟨(u8.mp h.sort).2,fun j' X_=>h.lt j' (Zt _ X_),h.inv,by rw[← h.fold,IN (Int.ofNat_lt.mp q)],h.rel,d7 (Nat.add_le_add_left (Nat.le_succ _) _) h.len,h.e⟩
theorem U0.done(h:U0 b alo C8 C9 i0 s la js s2 m2 ti tj tk)(q:within C8 C9 js=[]):W0 b alo C8 C9 i0 s la m2 ti tj tk:=by
 have f:=h.fold;rw[q] at f;have f:s2=_:=f;exact⟨f▸h.rel,f▸h.inv,f▸h.e⟩
theorem U0.out(h:U0 b alo C8 C9 i0 s la (j::js) s2 m2 ti tj tk)(q:(C9:Int)<=j):W0 b alo C8 C9 i0 s la m2 ti tj tk:=h.done (IM h.sort (Int.ofNat_le.mp q))
theorem U0.room(h:U0 b alo C8 C9 i0 s la (j::js) s2 m2 ti tj tk):m2.length<=b.length:=d7 (Nat.le_add_right _ _) h.len
theorem U0.go(h:U0 b alo C8 C9 i0 s la (j::js) s2 m2 ti tj tk)(r:W8 a b alo D1 C8 C9 i0 s m ľ Ľ Α)(q : ¬ (j:Int)<C8)(q' : ¬ (C9:Int)<=j){ui uj uk:Int}(hu:oI (dl s.1 i0 s2 j).2 ui uj uk) :
  U0 b alo C8 C9 i0 s la js (dl s.1 i0 s2 j) (ek m2 (j:Int) (.int (((s.1 ((j:Int)-1):Nat):Int)+1))) ui uj uk:=by
 have f:=h.fold;rw[IP (xO q) (Ej q'),g6] at f;exact⟨(u8.mp h.sort).2,fun j' X_=>h.lt j' (Zt _ X_),r.inv.step h.inv r.g1 (xO q) (Ej q'),f,h.rel.store (j:Int) (s.1 ((j:Int)-1)+1),QF (JW ..) h.len,hu⟩
theorem U0.hit(h:U0 b alo C8 C9 i0 s la (j::js) s2 m2 ti tj tk)(r:W8 a b alo D1 C8 C9 i0 s m ľ Ľ Α)(q : ¬ (j:Int)<C8)(q' : ¬ (C9:Int)<=j)(hk:tk<((s.1 ((j:Int)-1):Nat):Int)+1) :
  U0 b alo C8 C9 i0 s la js (dl s.1 i0 s2 j) (ek m2 (j:Int) (.int (((s.1 ((j:Int)-1):Nat):Int)+1))) (i0-(((s.1 ((j:Int)-1):Nat):Int)+1)+1) (j-(((s.1 ((j:Int)-1):Nat):Int)+1)+1) (((s.1 ((j:Int)-1):Nat):Int)+1):=by
 refine aA (r.inv.len r.g1 (j:=j) (xO q)) fun e1 e2=>?_;refine h.go r q q' ?_;unfold dl;rw[if_pos (Int.ofNat_lt.mp (h.e.2.2▸hk))];exact⟨AP (d7 e1 (Nat.sub_le ..)),AP (d7 e2 (Nat.sub_le ..)),rfl⟩
theorem U0.miss(h:U0 b alo C8 C9 i0 s la (j::js) s2 m2 ti tj tk)(r:W8 a b alo D1 C8 C9 i0 s m ľ Ľ Α)(q : ¬ (j:Int)<C8)(q' : ¬ (C9:Int)<=j)(hk : ¬ tk<((s.1 ((j:Int)-1):Nat):Int)+1) :
  U0 b alo C8 C9 i0 s la js (dl s.1 i0 s2 j) (ek m2 (j:Int) (.int (((s.1 ((j:Int)-1):Nat):Int)+1))) ti tj tk:=by
 refine h.go r q q' ?_;unfold dl;rw[if_neg fun c=>hk (h.e.2.2▸Int.ofNat_lt.mpr c)];exact h.e
theorem W8.next(r:W8 a b alo D1 C8 C9 i0 s m ľ Ľ Α)(hi:i0<D1)(O':a[i0]?=some la)(h:W0 b alo C8 C9 i0 s la m2 ti tj tk):W8 a b alo D1 C8 C9 (i0+1) (fA (bq b la) C8 C9 i0 s) m2 ti tj tk:=by
 refine⟨Nat.le_succ_of_le r.g1,hi,h.inv,?_,h.rel,h.e⟩;rw[← r.fold,AQ hi,List.range'_succ];show _=en _ _ _ _ (fA (aO a b i0) C8 C9 i0 s);rw[show aO a b i0=bq b la by unfold aO;rw[O'];rfl]
structure F5 (b:List Str) (z:Int) (y:Str):Prop where
 at':(b.map AV.str)[z.toNat]?=some (.str y)
 raw:b[z.toNat]?=some y
 pos:0<=z
 lt:z<b.length
theorem Rr{b:List Str}{z:Int}(h0:0<=z)(h1:z<b.length):∃y,F5 b z y:=by
 have hl:z.toNat<b.length:=(Int.toNat_lt h0).mpr h1;exact⟨b[z.toNat],by rw[d4,ZU hl];rfl,ZU hl,h0,h1⟩
structure Lf (e:Nat->Nat->Bool) (alo D1 C8 C9:Nat) (t:ab) (ti tj tk:Int) (n:Nat):Prop where
 run:∃i j k:Nat,ti=i/\tj=j/\tk=k/\n=i/\alo<=i/\C8<=j/\i+k<=D1/\j+k<=C9/\bO e alo C8 i j k=t
structure Lx (alo D1 C8 C9:Nat) (t:ab) (ti tj tk:Int):Prop where
 e:oI t ti tj tk
 h1:alo<=t.1
 h2:C8<=t.2.1
 h3:t.1+t.2.2<=D1
 h4:t.2.1+t.2.2<=C9
variable{t:ab}
theorem W8.lf(r:W8 a b alo D1 C8 C9 D1 s m ti tj tk):Lf (ay a b) alo D1 C8 C9 (bO (ay a b) alo C8 s.2.1 s.2.2.1 s.2.2.2) ti tj tk s.2.1 :=
 ⟨_,_,_,r.e.1,r.e.2.1,r.e.2.2,rfl,r.inv.b1,r.inv.b3,r.inv.b2,r.inv.b4,rfl⟩
theorem nU{b:List Str}(h:j<b.length):∃y,F5 b (j:Int) y :=
 ⟨b[j],by rw[c8,d4,ZU h];rfl,ZU h,Int.natCast_nonneg j,Int.ofNat_lt.mpr h⟩
theorem iP(j:Nat):((j+1:Nat):Int)-1=j:=Int.add_sub_cancel j 1
theorem F5.nat(h:F5 b (j:Int) y):b[j]?=some y:=h.raw
theorem nQ{m l:Nat}(h:j+1+k<=m)(hl:m<=l):j<l:=Nat.lt_of_lt_of_le (Nat.lt_of_lt_of_le (t9 j) (d7 (Nat.le_add_right _ k) h)) hl
theorem nK{m:Nat}(q:(m:Int)<((0:Nat):Int)):P:=absurd (Int.ofNat_lt.mp q) (Nat.not_lt_zero m)
theorem Lf.item(h:Lf e alo D1 C8 C9 t ti tj tk n)(hb:C9<=b.length)(q:(C8:Int)<tj):∃y,F5 b (tj-1) y:=by
 refine tu h.run fun i j k e1 e2 e3 O7 O8 O9 O10 h4 O12=>?_;clear O12;subst e2;cases j with
 |zero=>exact nK q
 |succ j=>rw[iP];exact nU (nQ h4 hb)
theorem Lf.itemA(h:Lf e alo D1 C8 C9 t ti tj tk n)(ha:D1<=a.length)(q:(alo:Int)<ti):∃y,F5 a (ti-1) y:=by
 refine tu h.run fun i j k e1 e2 e3 O7 O8 O9 h3 O11 O12=>?_;clear O12;subst e1;cases i with
 |zero=>exact nK q
 |succ i=>rw[iP];exact nU (nQ h3 ha)
theorem Lf.go(h:Lf (ay a b) alo D1 C8 C9 t ti tj tk n)(q1:(alo:Int)<ti)(q2:(C8:Int)<tj)(ix:F5 a (ti-1) x)(iy:F5 b (tj-1) y)(hc:(x==y)=true) :
  (ti-1).toNat<n/\Lf (ay a b) alo D1 C8 C9 t (ti-1) (tj-1) (tk+1) (ti-1).toNat:=by
 refine tu h.run fun i j k e1 e2 e3 e4 h1 h2 h3 h4 hr=>?_;subst e1;subst e2;subst e3;subst e4;cases n with
 |zero=>exact nK q1
 |succ i =>
  cases j with
  |zero=>exact nK q2
  |succ j =>
   rw[iP] at ix iy;rw[iP,iP];have c1:=Int.ofNat_lt.mp q1;have c2:=Int.ofNat_lt.mp q2;exact⟨t9 i,i,j,k+1,rfl,rfl,rfl,rfl,Nat.le_of_lt_succ c1,Nat.le_of_lt_succ c2,by rw[← Nat.add_assoc,Nat.add_right_comm];exact h3,by rw[← Nat.add_assoc,Nat.add_right_comm];exact h4,
    by rw[← hr,Un c1 c2 ((sw ix.nat iy.nat).trans hc)]⟩
theorem Lf.stop(h:Lf (ay a b) alo D1 C8 C9 t ti tj tk n)(q : ¬ ((alo:Int)<ti/\(C8:Int)<tj/\∀x y,F5 a (ti-1) x->F5 b (tj-1) y->(x==y)=true))(ha:D1<=a.length)(hb:C9<=b.length) :
  Lx alo D1 C8 C9 t ti tj tk:=by
 refine tu h.run fun i j k e1 e2 e3 e4 h1 h2 h3 h4 hr=>?_;subst e1;subst e2;subst e3;subst e4;have f:bO (ay a b) alo C8 n j k=(n,j,k):=by
  by_cases c1:alo<n
  ·by_cases c2:C8<j
   ·cases n with
    |zero=>exact absurd c1 (Nat.not_lt_zero _)
    |succ i =>
     cases j with
     |zero=>exact absurd c2 (Nat.not_lt_zero _)
     |succ j =>
      have ia:=nQ h3 ha;have jb:=nQ h4 hb;refine Uk ?_;rw[sw (ZU ia) (ZU jb)];refine Bool.eq_false_iff.mpr fun hc=>q ⟨Int.ofNat_lt.mpr c1,Int.ofNat_lt.mpr c2,fun x y ix iy=>?_⟩;rw[iP] at ix iy;have hx:=ix.nat;have hy:=iy.nat;rw[ZU ia] at hx;rw[ZU jb] at hy;cases hx;cases hy;exact hc
   ·exact Ul c2
  ·exact Um c1
 rw[f] at hr;subst hr;exact⟨⟨rfl,rfl,rfl⟩,h1,h2,h3,h4⟩
structure Rt (e:Nat->Nat->Bool) (D1 C9:Nat) (t:ab) (tk:Int) (n:Nat):Prop where
 run:∃k:Nat,tk=k/\n=D1-(t.1+k)/\t.1+k<=D1/\t.2.1+k<=C9/\cI e D1 C9 t.1 t.2.1 (D1-(t.1+k)) k=cI e D1 C9 t.1 t.2.1 (D1-(t.1+t.2.2)) t.2.2
structure Rx (e:Nat->Nat->Bool) (D1 C9:Nat) (t:ab) (tk:Int):Prop where
 e:tk=(cI e D1 C9 t.1 t.2.1 (D1-(t.1+t.2.2)) t.2.2:Nat)
 h3:t.1+tk<=D1
 h4:t.2.1+tk<=C9
 h5:0<=tk
theorem Lx.rt(h:Lx alo D1 C8 C9 t ti tj tk):Rt e D1 C9 t tk (D1-(t.1+t.2.2)):=⟨t.2.2,h.e.2.2,rfl,h.h3,h.h4,rfl⟩
theorem Rt.item(h:Rt e D1 C9 t tk n)(l:Lx alo D1 C8 C9 t ti tj Α)(hb:C9<=b.length)(q:tj+tk<C9):∃y,F5 b (tj+tk) y:=by
 refine ae h.run fun k e1 O3=>?_;clear O3;rw[l.e.2.1,e1] at q ⊢;exact nU (Nat.lt_of_lt_of_le (Int.ofNat_lt.mp q) hb)
theorem Rt.itemA(h:Rt e D1 C9 t tk n)(l:Lx alo D1 C8 C9 t ti tj Α)(ha:D1<=a.length)(q:ti+tk<D1):∃y,F5 a (ti+tk) y:=by
 refine ae h.run fun k e1 O3=>?_;clear O3;rw[l.e.1,e1] at q ⊢;exact nU (Nat.lt_of_lt_of_le (Int.ofNat_lt.mp q) ha)
theorem Rt.go(h:Rt (ay a b) D1 C9 t tk n)(l:Lx alo D1 C8 C9 t ti tj Α)(q1:ti+tk<D1)(q2:tj+tk<C9)(ix:F5 a (ti+tk) x)(iy:F5 b (tj+tk) y)(hc:(x==y)=true) :
  n-1<n/\Rt (ay a b) D1 C9 t (tk+1) (n-1):=by
 refine Aa h.run fun k e1 e2 h1 h2 hr=>?_;rw[l.e.1,e1] at q1 ix;rw[l.e.2.1,e1] at q2 iy;subst e1;subst e2;have c1:t.1+k<D1:=Int.ofNat_lt.mp q1;have c2:t.2.1+k<C9:=Int.ofNat_lt.mp q2;have e:=AQ c1;rw[e] at hr ⊢;exact⟨t9 _,k+1,rfl,rfl,c1,c2,by rw[← hr,Ug c1 c2 ((sw (F5.nat (b:=a) ix) (F5.nat iy)).trans hc)];rfl⟩
theorem Rt.stop(h:Rt (ay a b) D1 C9 t tk n)(l:Lx alo D1 C8 C9 t ti tj Α)(q : ¬ (ti+tk<D1/\tj+tk<C9/\∀x y,F5 a (ti+tk) x->F5 b (tj+tk) y->(x==y)=true)) :
  Rx (ay a b) D1 C9 t tk:=by
 refine Aa h.run fun k e1 e2 h1 h2 hr=>?_;rw[l.e.1,l.e.2.1,e1] at q;have f:cI (ay a b) D1 C9 t.1 t.2.1 (D1-(t.1+k)) k=k :=
  Ue fun⟨c1,c2,c3⟩=>q ⟨Int.ofNat_lt.mpr c1,Int.ofNat_lt.mpr c2,fun x y ix iy=>(sw (F5.nat (b:=a) ix) (F5.nat iy)).symm.trans c3⟩
 rw[f] at hr;subst e1;exact⟨by rw[hr],Int.ofNat_le.mpr h1,Int.ofNat_le.mpr h2,Int.natCast_nonneg k⟩
theorem W8.last(r:W8 a b alo D1 C8 C9 D1 s m ti tj tk):bZ (ay a b) (aO a b) alo D1 C8 C9=((bO (ay a b) alo C8 s.2.1 s.2.2.1 s.2.2.2).1,(bO (ay a b) alo C8 s.2.1 s.2.2.1 s.2.2.2).2.1,
  cI (ay a b) D1 C9 (bO (ay a b) alo C8 s.2.1 s.2.2.1 s.2.2.2).1 (bO (ay a b) alo C8 s.2.1 s.2.2.1 s.2.2.2).2.1 (D1-((bO (ay a b) alo C8 s.2.1 s.2.2.1 s.2.2.2).1+(bO (ay a b) alo C8 s.2.1 s.2.2.1 s.2.2.2).2.2)) (bO (ay a b) alo C8 s.2.1 s.2.2.1 s.2.2.2).2.2):=by
 have f:=r.fold;rw[Nat.sub_self] at f;have f:s=_:=f;unfold bZ;rw[← f]
theorem Lx.item(l:Lx alo D1 C8 C9 t ti tj tk)(hb:C9<=b.length)(q:(C8:Int)<tj):∃y,F5 b (tj-1) y:=by
 rw[l.e.2.1] at q ⊢;have h4:=l.h4;revert h4 q;cases t.2.1 with
 |zero=>exact fun q O=>nK q
 |succ j=>rw[iP];exact fun O h4=>nU (nQ h4 hb)
theorem Rx.item(x:Rx e D1 C9 t tk)(l:Lx alo D1 C8 C9 t ti tj Α)(hb:C9<=b.length)(q:tj+tk<C9):∃y,F5 b (tj+tk) y :=
 Rr (Int.add_nonneg (l.e.2.1▸Int.natCast_nonneg _) x.h5) (Int.lt_of_lt_of_le q (Int.ofNat_le.mpr hb))
theorem W8.res(r:W8 a b alo D1 C8 C9 D1 s m ľ Ľ Α)(l:Lx alo D1 C8 C9 (bO (ay a b) alo C8 s.2.1 s.2.2.1 s.2.2.2) ti tj tk'')(x:Rx (ay a b) D1 C9 (bO (ay a b) alo C8 s.2.1 s.2.2.1 s.2.2.2) tk)(c:b0) :
  AV.mat c [.int ti,.int tj,.int tk]=.mat c [.int (bZ (ay a b) (aO a b) alo D1 C8 C9).1,.int (bZ (ay a b) (aO a b) alo D1 C8 C9).2.1,.int (bZ (ay a b) (aO a b) alo D1 C8 C9).2.2]:=by
 rw[r.last,l.e.1,l.e.2.1,x.e]
end
noncomputable abbrev ji(a b:List Str)(dj jk pp:b0)(vm vo:AV:=.any):List (Str×AV) :=
 [(pK,.none),(dG,.lst (a.map .str)),(du,.lst (b.map .str)),(uL,.bool true),(uK,vm),(Cj,vo),(Ci,.none),(pI,.ref dj),(Cf,.ref jk),(Cd,.ref pp)]
noncomputable abbrev et(d dj jk d0:b0)(a b:List Str)(alo D1 C8 C9:Nat)(vi vg vn:AV)(ti tj tk:Int):List (Str×AV) :=
 [(uF,.int C9),(uG,.int C8),(uH,.int D1),(uI,.int alo),(q6,.inst 242 d),(lX,vi),(BS,vg),(BR,vn),(pH,.any),(q1,.any),(dG,.lst (a.map .str)),(du,.lst (b.map .str)),(pI,.ref dj),
  (BZ,.bm "set.__contains__" (.ref jk)),(BW,.int tk),(BX,.int tj),(BY,.int ti),(BV,.ref d0),(BU,.lst [])]
noncomputable abbrev Fe(i:Nat):AV:=.int (i:Int)
section
variable(w:ZQ)(d dj jk:b0)(a b:List Str)(alo D1 C8 C9:Nat)(G0:aa)
def JI(is:List Nat)(P:St->Prop):Prop:=∀i0 s m d0 ti tj tk,is=g9 i0 (D1-i0)->W8 a b alo D1 C8 C9 i0 s m ti tj tk->(d0==p8)=false ->
 P ⟨et d dj jk d0 a b alo D1 C8 C9 .any .any .any ti tj tk,(d0,au (y3 af w) m)::G0⟩
variable(i0:Nat)(s:(Int->Nat)×ab)(m:List (Int×AV))(la:Str)(d0 d1:b0)(I1:aa)
def JJ(js:List Nat)(P:St->Prop):Prop:=∀s2 m2 ti tj tk,U0 b alo C8 C9 i0 s la js s2 m2 ti tj tk ->
 P ⟨et d dj jk d0 a b alo D1 C8 C9 (.int i0) (.bm "dict.get" (.ref d0)) (.ref d1) ti tj tk,(d1,au (y3 af w) m2)::(d0,au (y3 af w) m)::I1⟩
end
theorem LK(h:i<=n)(e:[]=g9 i (n-i)):i=n:=Nat.le_antisymm h (Nat.le_of_sub_eq_zero (List.range'_eq_nil_iff.mp e.symm))
theorem uC{is:List Nat}(e:j::is=g9 i (n-i)):i=j/\j<n/\is=g9 (j+1) (n-(j+1)) :=
 have h:=List.range'_eq_cons_iff.mp e.symm
 ⟨h.1,h.1▸Nat.lt_of_sub_pos h.2.1,h.2.2.trans (congrArg (g9 (j+1)) (h.1▸(Nat.sub_sub ..)))⟩
theorem VE(alo D1:Nat):eP (alo:Int) (D1:Int)=cX (g9 alo (D1-alo)):=BF alo D1
theorem im{b:List Str}{z:Int}(i:F5 b z y)(hb:b.length<10^6)(h:K (.str y) st):F2 C0 w A B C1 Val getItem (.lst (b.map .str)) (.int z) st K :=
 ee .frz i.pos (by have:=i.lt;omega) i.at' h
theorem TS{dj jk pp:b0}{vm vo:AV}{a b:List Str}{mm:List (Str×AV)}{led:aa}{D1:Nat}(hA:D6 A 60)(ha:a.length<10^6)(hb:b.length<10^6)
  (h1:alo<=D1) (h2:D1<=a.length) (h3:C8<=C9) (h4:C9<=b.length) (L4:(dj==p8)=false) (W_:∀k,(aP mm k).getD (.lst [])=.lst (cX (bq b k))) :
  TC af w A (ak w) (.ref 196) [.inst 242 d,.int alo,.int D1,.int C8,.int C9] [] ((d,bh (ji a b dj jk pp vm vo))::(dj,au (a8 af w) mm)::(jk,cn)::led) fun v led' =>
   v=.mat 135 [.int (bZ (ay a b) (aO a b) alo D1 C8 C9).1,.int (bZ (ay a b) (aO a b) alo D1 C8 C9).2.1,.int (bZ (ay a b) (aO a b) alo D1 C8 C9).2.2] /\
   led'=((d,bh (ji a b dj jk pp vm vo))::(dj,au (a8 af w) mm)::(jk,cn)::led):=by
 refine TC.weak (dD [(uF,.int C9),(uG,.int C8),(uH,.int D1),(uI,.int alo),(q6,.inst 242 d),(lX,.any),(BS,.any),(BR,.any),(pH,.any),(q1,.any),(dG,.any),(du,.any),(pI,.any),(BZ,.any),(BW,.any),(BX,.any),(BY,.any),(BV,.any),(BU,.any)] (bA w) hA.lt (fun O O O O O=>@_) @_ @_ (TD _) fun L hL=>?_);have D0:=hA.deeper (k:=57) (C1:=bf (ap (gT w.params)) L 196 195);have hh:=D0.h;have hG:=(((((gk w (A.deeper _) (ap (gT w.params)) L 196 195 @_ @_ hh).g (FQ w) @_ @_).g (FK w) @_ @_)).f (f:=135) (bS @_)).m ⟨LZ,2, "dict.get"⟩ F.plainAttrs_dict Kz F.type_dict_get;generalize Q0:((d,bh (ji a b dj jk pp vm vo))::(dj,au (a8 af w) mm)::(jk,cn)::led)=G0;have Ō:(d,bh (ji a b dj jk pp vm vo))∈G0:=Q0▸Zr ..;have hmj:(dj,au (a8 af w) mm)∈G0:=Q0▸Zt _ (Zr ..);have Δ:(jk,cn)∈G0:=Q0▸Zt _ (Zt _ (Zr ..));clear Q0;generalize bf (ap (gT w.params)) L 196 195=C1 at hG D0 hh ⊢;generalize A.deeper C1=A1 at hG D0 hh ⊢;refine bx hG 100 ?_;refine C6.mk (dJ (bd _) @_ Ō (v:=.lst (a.map .str)) @_ rfl ?_);refine C6.mk (dJ (bd _) @_ Ō (v:=.lst (b.map .str)) @_ rfl ?_);refine C6.mk (dJ (bd _) @_ Ō (v:=.ref dj) @_ rfl ?_);refine C6.mk (dJ (bd _) @_ Ō (v:=.ref jk) @_ rfl ?_);refine C6.mk (Za Δ ?_);refine C6.mk (zE (knd:=y3 af w) fun d0 hd0 hB0=>?_);refine C6.mk (cR rfl fun nn m_=>?_);refine C6.mk (T.freeze (a:=nn) (xs:=[]) (D8:=et d dj jk d0 a b alo D1 C8 C9 .any .any .any alo C8 0) (by repeat constructor) ?_);refine oE (k:=5) Fe (JI w d dj jk a b alo D1 C8 C9 G0) (D0.mono ⋯) (ad hG 60 (C6.mk (XO (Il (k:=5) ⋯ ⋯ ⋯ ⋯ fun it gl hI => .mk hI (VE alo D1▸.mk (fun O y=>y _ _ _ d0 _ _ _ rfl (W8.start h1 h3) (xV hB0)) @_))))) ?_ ?_ fun O=>@_
 ·intro gl i0 is j0 s m d0 ti tj tk e r hd;have hi:=(uC e).2.1;have r:=(uC e).1▸r;have e:=(uC e).2.2;refine aw (⟨_,ZU (Nat.lt_of_lt_of_le hi h2)⟩:∃la,a[i0]?=some la) fun la O'=>⟨rfl,bx hG 60 ?_⟩;refine C6.mk (YZ (knd:=y3 af w) (Zr ..) ?_);refine C6.mk (zE (knd:=y3 af w) fun d1 hd1 ĭ=>?_);refine C6.mk (T.joinW (fun P=>∀m2 ti tj tk,W0 b alo C8 C9 i0 s la m2 ti tj tk->P ⟨et d dj jk d0 a b alo D1 C8 C9 (.int i0) (.bm "dict.get" (.ref d0)) (.ref d1) ti tj tk,(d1,au (y3 af w) m2)::(d0,au (y3 af w) m)::(G0++gl)⟩) ?_ fun m2 ti tj tk h=>⟨(d1,au (y3 af w) m2)::(G0++gl),⟨[(d0,au (y3 af w) m)],o5 _ _ _⟩,.next (l:=(d1,au (y3 af w) m2)::G0) (.mk (fun O y=>y _ _ _ d1 _ _ _ e (r.next hi O' h) (xV ĭ)) @_)⟩);refine oE (k:=5) Fe (JJ w d dj jk a b alo D1 C8 C9 i0 s m la d0 d1 (G0++gl)) (D0.mono ⋯) ?_ ?_ (fun O O O O O h => .mk (fun O y=>y _ _ _ _ (h.done rfl)) @_) fun O=>@_
  ·refine ad hG 60 ⟨lE (knd:=a8 _ _) (Zt _ (Zt _ (f8 _ hmj))),?_⟩;refine C6.mk (ee .frz ⋯ ⋯ (x:=.str la) (by simp[O']) ?_);exact C6.mk (XY L4 (sd la) (Zt _ (Zt _ (f8 _ hmj))) (W_ la) (eH (k:=5) fun it gl' hI => .mk hI (.mk (fun O y=>y _ _ _ _ _ r.inn) @_)))
  ·intro gl' j js s2 m2 ti tj tk h;refine⟨rfl,bx hG 60 (bL (fun œ => .cont (l:=(d1,_)::(d0,au (y3 af w) m)::(G0++gl)) (.mk (fun O y=>y _ _ _ _ _ (h.low œ)) @_)) fun œ=>bL (fun Ψ => .brk (l:=(d1,_)::(d0,au (y3 af w) m)::(G0++gl)) (.mk (fun O y=>y _ _ _ _ (h.out Ψ)) @_)) fun Ψ=>?_)⟩;refine C6.mk (fQ rfl rfl rfl (ad hG 60 (C6.mk (Yi (knd:=y3 af w) (m:=m) hd (ym _) (Zt _ (Zr ..)) (r.rel _) (cx (bp rfl (zY (ad hG 20 (ad hG 20 ?_)))))))));exact Yn (knd:=y3 af w) (m:=m2) (k:=(j:Int)) .here (ym _) (d7 h.room (by rw[j7];omega)) (bL (fun hc3 => .next (l:=(d1,_)::(d0,au (y3 af w) m)::(G0++gl)) (.mk (fun O y=>y _ _ _ _ _ (h.hit r œ Ψ hc3)) @_)) fun hc3 => .next (l:=(d1,_)::(d0,au (y3 af w) m)::(G0++gl)) (.mk (fun O y=>y _ _ _ _ _ (h.miss r œ Ψ hc3)) @_))
 ·intro i0 s m d0 ti tj tk e r _;have r:=LK r.g2 e▸r;refine C6.mk (T.drop (T.join (KL (et d dj jk d0 a b alo D1 C8 C9 .any .any .any) G0 (Lx alo D1 C8 C9 (bO (ay a b) alo C8 s.2.1 s.2.2.1 s.2.2.2))) ?_ fun ti tj Α l=>?_))
  ·refine lp (JL (et d dj jk d0 a b alo D1 C8 C9 .any .any .any) G0 (Lf (ay a b) alo D1 C8 C9 _)) (fun n ti tj tk h=>?_) (JL.mk r.lf);refine cb hG 60 (bL (fun q1=>bL (fun q2=>?_) fun q2=>KL.mk (h.stop (fun c=>q2 c.2.1) h2 h4)) fun q1=>KL.mk (h.stop (fun c=>q1 c.1) h2 h4));refine(h.item h4 q2).elim fun y iy=>(h.itemA h2 q1).elim fun x ix=>?_;refine C6.mk (im iy hb (C6.mk (th Δ (C6.mk (im ix ha (C6.mk (im iy hb ?_)))))));refine bK (fun hc=>bx hG 60 ⟨_,(h.go q1 q2 ix iy hc).1,JL.mk (h.go q1 q2 ix iy hc).2⟩) fun hc=>KL.mk (h.stop (fun c=>?_) h2 h4);exact d3 (hc.symm.trans (c.2.2 x y ix iy))
  ·refine C6.mk (T.join (KL (fun O O tk=>et d dj jk d0 a b alo D1 C8 C9 .any .any .any ti tj tk) G0 fun O O tk=>Rx (ay a b) D1 C9 (bO (ay a b) alo C8 s.2.1 s.2.2.1 s.2.2.2) tk) ?_ fun O O tk x=>?_)
   ·refine lp (JL (fun O O tk=>et d dj jk d0 a b alo D1 C8 C9 .any .any .any ti tj tk) G0 (fun O O tk=>Rt (ay a b) D1 C9 _ tk)) (fun n O O tk h=>?_) (JL.mk (ti:=0) (tj:=0) l.rt);refine cb hG 60 (bL (fun q1=>bL (fun q2=>?_) fun q2=>Nx.mk (fun O y=>y 0 0 _ (h.stop l fun c=>q2 c.2.1)) @_) fun q1=>Nx.mk (fun O y=>y 0 0 _ (h.stop l fun c=>q1 c.1)) @_);refine(h.item l h4 q2).elim fun y iy=>(h.itemA l h2 q1).elim fun x ix=>?_;refine C6.mk (im iy hb (C6.mk (th Δ (C6.mk (im ix ha (C6.mk (im iy hb ?_)))))));refine bK (fun hc=>bx hG 60 ⟨_,(h.go l q1 q2 ix iy hc).1,JL.mk (ti:=0) (tj:=0) (h.go l q1 q2 ix iy hc).2⟩) fun hc=>Nx.mk (fun O q=>q 0 0 _ (h.stop l fun c=>?_)) @_;exact d3 (hc.symm.trans (c.2.2 x y ix iy))
   ·refine C6.mk (T.join (fun P=>P ⟨et d dj jk d0 a b alo D1 C8 C9 .any .any .any ti tj tk,G0⟩) ?_ ?_)
    ·refine lp (fun O P=>P ⟨et d dj jk d0 a b alo D1 C8 C9 .any .any .any ti tj tk,G0⟩) (fun O=>?_) (n:=0) ⟨_,G6.self _,fun O y=>y⟩;refine cb hG 60 (bL (fun q1=>bL (fun q2=>?_) fun q2=>Nx.id) fun q1=>Nx.id);exact(l.item h4 q2).elim fun y iy=>C6.mk (im iy hb (C6.mk (th Δ Nx.id)))
    ·refine C6.mk (T.join (fun P=>P ⟨et d dj jk d0 a b alo D1 C8 C9 .any .any .any ti tj tk,G0⟩) ?_ ?_)
     ·refine lp (fun O P=>P ⟨et d dj jk d0 a b alo D1 C8 C9 .any .any .any ti tj tk,G0⟩) (fun O=>?_) (n:=0) ⟨_,G6.self _,fun O y=>y⟩;refine cb hG 60 (bL (fun q1=>bL (fun q2=>?_) fun q2=>Nx.id) fun q1=>Nx.id);exact(x.item l h4 q2).elim fun y iy=>C6.mk (im iy hb (C6.mk (th Δ Nx.id)))
     ·refine C6.mk (gD (Qc (D0.mono ⋯)) fun v led' h=>?_);exact eF _ (.refl _) (h.1.trans (r.res l x 135)) h.2
section
variable{N:aa}
def kH(f:AV)(it:b0)(Z:D3)(o:Obj):Prop:=∃tt fx,o={ cls:=.type "map",data:=.fields #[.ref tt,fx]}/\Z tt=some {cls:=.type "tuple",data:=.seq #[.ref it]}/\Val Z f fx
theorem rX{f:AV}(Z Z':D3)(o:Obj)(k:D3.le Z Z')(x:kH f it Z o):kH f it Z' o:=x.imp fun O h=>h.imp fun O h=>⟨h.1,k _ _ h.2.1,h.2.2.mono k⟩
noncomputable abbrev fZ(m it:b0)(f:AV)(xs:List AV)(i:Nat)(x_:aa):aa:=(m,.obj (kH f it) rX)::(it,.obj (jo xs i) oq)::x_
theorem PZ{f:AV}{m:b0}{x_ led:aa}(S:C7 B s Z (fZ m it f xs i x_++led)):s.TypeIs (.ref m) "map" :=
 ae (S.own _ (Zr ..)) fun om á h=>h.elim fun O h=>h.elim fun O h=>bB om á (h.1▸rfl)
theorem vB{a b:b0×D9}{l r:aa}:(a::b::(l++r)).Perm (l++a::b::r) :=
 (w7 a (n0 (l₁:=l) (l₂:=r) (a:=b)).symm).trans (n0 (l₁:=l) (l₂:=b::r) (a:=a)).symm
theorem D5.map{f:AV}{m:b0}{x_:aa}(E3:ys.length=xs.length)
  (hf:∀(i:Nat) x y,xs[i]?=some x->ys[i]?=some y->∀A',D6 A' k->∀led,G5 N led->TC C0 w A' B f [x] [] (x_++led) fun v led'=>v=y/\led'=x_++led) :
  ∀(d i:Nat),i+d=xs.length->D5 C0 w B N (k+1) lG m (ys.drop i) (fZ m it f xs i x_):=by
 intro d;induction d with
 |zero =>
  intro i hi;have hi:i=ys.length:=((Nat.add_zero i).symm.trans hi).trans E3.symm;subst hi;rw[List.drop_length];intro A hA led hN s Z S Q E hQ;refine ae (S.own _ (Zr ..)) fun om á h_=>bW h_ fun tt fx e_ Ņ s_=>?_;subst e_;refine ae (S.own _ (Zt _ (Zr ..))) fun oi T8 h_=>jw h_ fun l items n hc hd hz hv=>?_;refine PY hA.h á (S.frozen _ _ Ņ) ⟨oi,T8,hc,hd⟩ ⟨_,S.frozen _ _ hz,rfl,n,rfl⟩ ((List.getElem?_toArray ..).trans (n8 (E3▸Nat.le_of_eq hv.length))) fun h' hx=>?_;have P:=C7.stepE (gl:=fZ m it f xs ys.length x_) (s':={ s with heap:=h' }) S (fun b o hb q=>hx b o (fun y=>hb (y▸Zt _ (Zr ..))) q) rfl rfl;exact hQ _ Z P.1 P.2
 |succ d ih =>
  intro i hi;have G8:i<xs.length:=hi▸Nat.lt_add_of_pos_right (Nat.succ_pos d);have ę:i<ys.length:=E3▸G8;rw[m6 ę];intro A hA led hN s Z S Q E hQ;refine ae (S.own _ (Zr ..)) fun om á h_=>bW h_ fun tt fx e_ Ņ s_=>?_;subst e_;refine ae (S.own _ (Zt _ (Zr ..))) fun oi T8 h_=>jw h_ fun l items n hc hd hz hv=>?_;have hmi:m≠it:=fun q=>(ZL.mp S.nodup).1 (q▸Zr ..);refine ae (hv.get (ZU G8)) fun u hu hV=>PX á (S.frozen _ _ Ņ) ⟨oi,T8,hc,hd⟩ ⟨_,S.frozen _ _ hz,rfl,n,rfl⟩ (x:=u) ((List.getElem?_toArray ..).trans hu) hmi fun h' N8 f_=>aU N8 fun Å â í Ε=>?_;have P:=S.upd (led':=fZ m it f xs (i+1) x_++led) (.there .here) (h':=h') (tk:=s.toks) (fun b ob hb e=>(f_.2 b hb).trans e) rfl rfl ⟨Å,â,l,items,n,í,Ε,hz,hv⟩;refine t8 (hf i _ _ (ZU G8) (ZU ę) A.in1 hA.in1 ((m,.obj (kH f it) rX)::(it,.obj (jo xs (i+1)) oq)::led) (fun p hp=>Zt _ (Zt _ (hN p hp))) _ Z fx [u] [] (P.1.perm (vB (l:=x_) (r:=led))) s_ (.cons hV .nil) .nil _
   fun v y s' Z' led' kk S' V X'=>?_)
  have k1:=kk.1;have k2:=kk.2;subst k1;subst k2;exact Zs (hQ s' Z' y (fZ m it f xs (i+1) x_) (S'.perm (vB (l:=x_) (r:=led)).symm) V (P.2.trans ((dN (vB (a:=(m,D9.obj (kH f it) rX)) (b:=(it,D9.obj (jo xs (i+1)) oq)) (l:=x_) (r:=led)))▸X'))
   (ih (i+1) ((Nat.succ_add_eq_add_succ i d).trans hi)))
theorem PU{m:b0}{f:AV}{x_ led:aa}(S:C7 B s Z (fZ m it f xs i x_++led))(h:Q (.ref m) s):ZS (ZP C0 w) A (pyIter (.ref m)) Q E s:=by
 refine ae (S.own _ (Zr ..)) fun om á h_=>bW h_ fun tt fx e_ Ņ s_=>?_;subst e_;have hT:s.TypeIs (.ref m) "map" := ⟨_,á,rfl⟩;refine wpAny_pyIter_slot hT Bf (d6 Bf hT Uz ?_ (VN _));show ZS _ _ (ret (.ref m)) _ _ s;exact Zs ⟨_,rfl, "map",_,hT,lK.lookup,h⟩
theorem XT{f:AV}{led:aa}(h:∀m it,R (.ref m) ⟨loc,fZ m it f xs 0 []++led⟩):FC C0 w A B C1 (.typ "map") [f,.lst xs] [] ⟨loc,led⟩ R:=FC.t fun s Z S Q E hQ=>Vals.un <| fun fv h0=>Vals.un <| fun O h1=>Vals.un0 <| by
 refine bv (ex h1) fun a items n qv e hv=>?_;subst qv;have hl:s.heap.IsList a items.toArray:=⟨_,S.frozen _ _ e,rfl,n,rfl⟩;refine callType_new Vl (by decide) (Jj _ _) (OW _ _) (fun obj=>F.args_object_init_3 obj _ _) Uy
  (Meets.of_wp (S:=fun O R s=>s.heap.IsList a items.toArray/\R (.ok (.ret (.ref (s.heap.objs.size+2)))) {s with heap:=((s.heap.push {cls:=.type "list_iterator",data:=.fields #[.ref a,.int 0 0]}).push {cls:=.type "tuple",data:=.seq #[.ref s.heap.objs.size]}).push {cls:=.type "map",data:=.fields #[.ref (s.heap.objs.size+1),fv]} })
   fun C0 w A R s hs=>LA hs.1 ⟨_,rfl,hs.2⟩) ⟨hl,?_⟩
 have P1:=S.toC7.push (o:={ cls:=.type "list_iterator",data:=.fields #[.ref a,.int 0 0]}) (ao:=.obj (jo xs 0) oq) rfl s.toks ⟨_,ZB _ rfl,a,items,n,rfl,rfl,e,hv⟩;have P2:=P1.1.pushZ (o:={ cls:=.type "tuple",data:=.seq #[.ref s.heap.objs.size]}) rfl s.toks;have e1:(s.heap.push {cls:=.type "list_iterator",data:=.fields #[.ref a,.int 0 0]}).objs.size=s.heap.objs.size+1:=z5 ..;have e2:((s.heap.push {cls:=.type "list_iterator",data:=.fields #[.ref a,.int 0 0]}).push {cls:=.type "tuple",data:=.seq #[.ref s.heap.objs.size]}).objs.size=s.heap.objs.size+2:=by rw[z5,e1]
 have P3:=P2.1.push (o:={ cls:=.type "map",data:=.fields #[.ref (s.heap.objs.size+1),fv]}) (ao:=.obj (kH f s.heap.objs.size) rX) rfl s.toks ⟨_,ZB _ rfl,s.heap.objs.size+1,fv,rfl,by rw[← e1];exact D3.add_at ..,h0.mono (P1.2.le.trans P2.2.le)⟩;have X:=(P1.2.trans P2.2).trans P3.2;have hq:=hQ _ (.ref (((s.heap.push {cls:=.type "list_iterator",data:=.fields #[.ref a,.int 0 0]}).push {cls:=.type "tuple",data:=.seq #[.ref s.heap.objs.size]}).objs.size)) _ _ ⟨loc,fZ _ s.heap.objs.size f xs 0 []++led⟩ (h _ _) (S.after P3.1 X) (.ref _) X.toF;refine⟨⟨_,by rw[← e2];exact ZB _ rfl,rfl⟩,?_⟩;rw[← e2];exact hq
end
section
variable{K:Frag}
theorem Uu:entryFor table "tuple.__len__" = some Builtin.«tuple.__len__» := s8 @_
theorem XV(L6:f1 K ⟨C0,w.params⟩ (y8 (.ref C) (.type "tuple"))=some true)(hln:f1 K ⟨C0,w.params⟩ (k8 (.ref C) "__len__")=some (some (.builtin "tuple.__len__")))
  (h1:xs.length<2^62) (h:R (.int xs.length) st):FC C0 w A (am K) C1 (.blt "len") [.mat C xs] [] st R:=FC.b fun s Z S Q E hQ=>Vals.un <| fun O hv0=>Vals.un0 <| by
 refine dq (sm hv0) fun a d items n qv e hv=>?_;clear hv0;subst qv;have X:=dg S.base S.frozen;have ha:=S.frozen _ _ e;have tl:Looks (ZP C0 w) s.heap (typeOf (.ref a)) (.ref C):=(Looks.ld ha).andThen .now;have E3:items.length=xs.length:=hv.length;refine Calls.call_function_entry kind_len plain_len entry_len (args_len1 _) ?_;unfold Builtin.«len»;refine Zq (m:=oneArg "len" _) (Zs ?_);refine Zq ?_;unfold callSpecial? specialOf;refine Zq (Zq (tl.here (cN X hln ?_)));dsimp only;refine ZF ?_;refine Zq (f9 (F.slot_tuple_len.bind _) ?_);refine Zq (t8 (p6 F.slot_tuple_len.plain Uu (check_slot (i := "tuple.__len__") (owner := "tuple") (n := "__len__") (by decide +kernel) (by decide +kernel) (tl.andThen (y5 X L6)) (F.args_tuple_len_1 _) ?_)));show ZS _ _ (do retInt (← Builtin.Tuple.tupleItemsOf (.ref a)).size) _ _ s;unfold Builtin.Tuple.tupleItemsOf;refine Zq (Zq (n9 ha rfl (Zs ?_)));refine Zq (wpAny_mkInt (Zs ?_));refine Zs ?_;dsimp only;refine Zq (ZF (Zs ?_));refine Zq (wpAny_letGo ?_);have hz:((items.toArray.size:Nat):Int)=(xs.length:Int):=by simp[E3]
 show ZS _ _ (if ((items.toArray.size:Nat):Int)<0 then _ else _) _ _ _;refine cS ⋯ ?_;show ZS _ _ (if ((items.toArray.size:Nat):Int) ≥ 2^63 then _ else _) _ _ _;refine cS ⋯ ?_;refine Zq (wpAny_mkInt (Zs ⟨_,rfl,hQ _ _ _ Z st h (S.toks _) ?_ (.toks _)⟩));rw[hz];exact .int _ _
theorem YY{p f:b0}{rest:List Value}{led:aa}{R3:Bool}(hr:readsIn K C (.type "type")=true)
  (e:findCls K (.ref C) (.type "type") name=some (.get (.builtin "classmethod.__get__") (.ref p) .none (.ref C))) (hp:recIn K p "classmethod" = some (.ref f::rest))
  (h:∀q,R (.ref q) ⟨loc,(q,.raw (methodObj (.ref f) (.ref C)))::led⟩):F1 C0 w A (am K) C1 Val (fun x=>getAttr x name R3) (.ref C) ⟨loc,led⟩ R:=F1.of fun s Z S Q E hQ=>Val.eRef <| by
 have X:=dg S.base S.frozen;refine cls_bind X hr e (t8 (cm_get (s:={ s with toks:=s.toks+1}) X hp (handed_on rfl ?_)));have P:=S.toC7.push (o:=methodObj (.ref f) (.ref C)) (ao:=.raw (methodObj (.ref f) (.ref C))) rfl (s.toks+1) (ZB _ rfl);exact hQ _ _ _ _ _ (h _) (S.after P.1 P.2) (.ref _) P.2.toF
theorem WO{q f:b0}{led:aa}{R:AV->aa->Prop}(hm:(q,.raw (methodObj (.ref f) (.ref C)))∈led)(h:TC C0 w A B (.ref f) (.ref C::args) [] led R):TC C0 w A B (.ref q) args [] led R:=fun s Z fx xs ks S hf hx hk Q hQ=>by
 cases hf
 cases hk
 have hq:s.heap.get? q=some (methodObj (.ref f) (.ref C)):=S.own _ hm;refine codeAny_of_tree ?_;show ZS _ A.in1 (callAny (.ref q) ⟨xs,[]⟩) _ _ s;dsimp only[callAny];refine Zq (wpAny_load hq ?_);dsimp only;refine KFB.if_so (by decide) ?_;refine Zs ⟨rfl,?_⟩;exact h s Z (.ref f) (.ref C::xs) [] S (.ref f) (.cons (.ref C) hx) .nil Q hQ
end
theorem yd(w:ZQ):E_ af w (KB w.params) 135:=⟨@_,@_⟩
noncomputable def vE(P:Zv):b0:=match findCls (KB P) (.ref 135) (.type "type") iD with |some (.get _ (.ref p) _ _)=>p |_=>0
noncomputable def LX(P:Zv):List Value:=((recIn (KB P) (vE P) "classmethod").getD []).tail
theorem Uc(P:Zv):findCls (KB P) (.ref 135) (.type "type") iD=some (.get (.builtin "classmethod.__get__") (.ref (vE P)) .none (.ref 135)):=@_
theorem Sj(P:Zv):recIn (KB P) (vE P) "classmethod" = some (.ref 89::LX P):=@_
theorem Qa{x y z:Int}{led:aa}(hA:D6 A 20) :
  TC af w A (ak w) (.ref 89) [.ref 135,.tup [.int x,.int y,.int z]] [] led fun v led'=>v=.mat 135 [.int x,.int y,.int z]/\led'=led:=by
 refine dD [(Cl,.tup [.int x,.int y,.int z]),(Cm,.ref 135),(uQ,.any)] (bA w) hA.lt (fun O O=>@_) @_ @_ (Tk _) fun L hL=>?_;have hG:=((gk w (A.deeper (bf (ap (gR w.params)) L 89 88)) (ap (gR w.params)) L 89 88 @_ @_ hA.h).g (FI w) @_ @_).g (gY w) @_ @_;refine bx hG 60 (C6.mk (HH (name:=jU) (T' := "tuple") (id := "tuple.__new__") @_ @_ @_ (by decide +kernel) @_ @_ @_ @_ @_ (ad hG 5 ⟨rfl,ds @_ jh (bP hG 20 (HZ (EA w) (by decide:3<=c9) (fun O=>@_) ?_))⟩)));exact C6.mk (XV @_ @_ (by decide:3<2^62) ⟨rfl,rfl⟩)
theorem RG{s:(Int->Nat)×ab}(h:H7 alo C8 C9 i s)(hi:alo<=i)(js:List Nat):∀(s2:(Int->Nat)×ab),(∀j∈js,C8<=j/\j<C9)->H7 alo C8 C9 (i+1) s2->H7 alo C8 C9 (i+1) (js.foldl (dl s.1 i) s2):=by
 induction js with
 |nil=>exact fun O O h2=>h2
 |cons j js ih=>exact fun s2 hj h2=>ih _ (fun j' h'=>hj j' (Zt _ h')) (h.step h2 hi (hj j (Zr ..)).1 (hj j (Zr ..)).2)
theorem Al{js:List Nat}(h:j∈within C8 C9 js):C8<=j/\j<C9:=by
 have:=(o8.mp h).2;simpa using this
theorem BC{s:(Int->Nat)×ab}(js:List Nat)(h:H7 alo C8 C9 i s)(hi:alo<=i):H7 alo C8 C9 (i+1) (fA js C8 C9 i s) :=
 RG h hi _ _ (fun j hj=>Al hj) h.row
theorem Bt{idx:Nat->List Nat}(n:Nat):∀(i:Nat) (s:(Int->Nat)×ab),alo<=i->H7 alo C8 C9 i s->H7 alo C8 C9 (i+n) (en idx C8 C9 (g9 i n) s):=by
 induction n with
 |zero=>exact fun O O O h=>h
 |succ n ih=>exact fun i s hi h=>(Nat.succ_add_eq_add_succ i n)▸ih (i+1) (fA (idx i) C8 C9 i s) (Nat.le_succ_of_le hi) (BC (idx i) h hi)
def LB(alo C8 i j:Nat)(t:ab):Prop:=alo<=t.1/\C8<=t.2.1/\t.1+t.2.2=i/\t.2.1+t.2.2=j
theorem Uq(i:Nat):∀(j k:Nat),alo<=i->C8<=j->LB alo C8 (i+k) (j+k) (bO e alo C8 i j k):=by
 induction i with
 |zero=>exact fun j k h1 h2=>⟨h1,h2,rfl,rfl⟩
 |succ i ih =>
  intro j k h1 h2;cases j with
  |zero=>exact⟨h1,h2,rfl,rfl⟩
  |succ j=>exact iteInduction (motive:=LB alo C8 (i+1+k) (j+1+k)) (fun hc=>(Nat.succ_add_eq_add_succ i k).symm▸(Nat.succ_add_eq_add_succ j k).symm▸ih j (k+1) (Nat.le_of_lt_succ (of_decide_eq_true (Bool.and_eq_true_iff.mp hc).1)) (Nat.le_of_lt_succ (of_decide_eq_true (Bool.and_eq_true_iff.mp (Bool.and_eq_true_iff.mp hc).2).1))) fun O=>⟨h1,h2,rfl,rfl⟩
theorem Ui{D1:Nat}(f:Nat):∀(k:Nat),i+k<=D1->j+k<=C9->k<=cI e D1 C9 i j f k/\i+cI e D1 C9 i j f k<=D1/\j+cI e D1 C9 i j f k<=C9:=by
 induction f with
 |zero=>exact fun k h1 h2=>⟨ZZ _,h1,h2⟩
 |succ f ih =>
  intro k h1 h2;exact iteInduction (motive:=fun x=>k<=x/\i+x<=D1/\j+x<=C9) (fun hc=>(ih (k+1) (of_decide_eq_true (Bool.and_eq_true_iff.mp hc).1) (of_decide_eq_true (Bool.and_eq_true_iff.mp (Bool.and_eq_true_iff.mp hc).2).1)).imp_left Nat.le_of_succ_le) fun O=>⟨ZZ _,h1,h2⟩
def cw(fl:Nat->Nat->Nat->Nat->ab):Prop:=∀alo D1 C8 C9,alo<=D1->C8<=C9->alo<=(fl alo D1 C8 C9).1/\(fl alo D1 C8 C9).1+(fl alo D1 C8 C9).2.2<=D1/\C8<=(fl alo D1 C8 C9).2.1/\(fl alo D1 C8 C9).2.1+(fl alo D1 C8 C9).2.2<=C9
theorem dH(e:Nat->Nat->Bool)(idx:Nat->List Nat):cw (bZ e idx):=fun alo D1 C8 C9 h1 h2=>by
 have hs:=Bt (idx:=idx) (C9:=C9) (D1-alo) alo (fun O=>0,(alo,C8,0)) (ZZ _) (H7.start h2);rw[Nat.add_sub_cancel' h1] at hs;unfold bZ;dsimp only;generalize (en idx C8 C9 (g9 alo (D1-alo)) (fun O=>0,(alo,C8,0)))=s at hs;obtain⟨D,si,sj,sk⟩:=s;have q:=Uq (e:=e) si sj sk hs.b1 hs.b3;have c2:=hs.b2;have c4:=hs.b4;dsimp only at c2 c4 q ⊢;generalize bO e alo C8 si sj sk=u at q;have f:=Ui (e:=e) (D1:=D1) (C9:=C9) (i:=u.1) (j:=u.2.1) (D1-(u.1+u.2.2)) u.2.2 (q.2.2.1▸c2) (q.2.2.2▸c4);exact⟨q.1,f.2.1,q.2.1,f.2.2⟩
noncomputable def cH(fl:Nat->Nat->Nat->Nat->ab):Nat->Nat->Nat->Nat->Nat->List ab
 |0,_,_,_,_=>[]
 |f+1,alo,D1,C8,C9 =>
  let r:=fl alo D1 C8 C9
  if r.2.2=0 then [] else
   (if alo<r.1/\C8<r.2.1 then cH fl f alo r.1 C8 r.2.1 else [])++r::(if r.1+r.2.2<D1/\r.2.1+r.2.2<C9 then cH fl f (r.1+r.2.2) D1 (r.2.1+r.2.2) C9 else [])
theorem Ey{fl:Nat->Nat->Nat->Nat->ab}(ok:cw fl){D1:Nat}(h1:alo<=D1)(h2:C8<=C9)(h3:D1<=alo):∀f,cH fl f alo D1 C8 C9=[]
 |0=>rfl
 |f+1=>if_pos (Nat.le_zero.mp (Nat.le_of_add_le_add_left (d7 (ok alo D1 C8 C9 h1 h2).2.1 (d7 h3 (ok alo D1 C8 C9 h1 h2).1))))
theorem sg{c:Prop}[Decidable c]{x y:List α}(h:x=y):(if c then x else [])=if c then y else []:=h▸rfl
theorem Hh{x y u v:List α}{t:α}(h:x=y)(h':u=v):x++t::u=y++t::v:=h▸h'▸rfl
theorem yP{D1 f:Nat}(a2:i+k<=D1)(hk : ¬ k=0)(h:D1<=alo+(f+1)):i<=alo+f:=Nat.le_of_lt_succ (Nat.lt_of_lt_of_le (Nat.lt_of_lt_of_le (Nat.lt_add_of_pos_right (Nat.pos_of_ne_zero hk)) a2) h)
theorem yO{D1 f:Nat}(a1:alo<=i)(hk : ¬ k=0)(h:D1<=alo+(f+1)):D1<=i+k+f:=d7 h (d7 (Nat.le_of_eq (Nat.add_right_comm alo f 1)) (Nat.add_le_add_right (Nat.add_le_add a1 (Nat.pos_of_ne_zero hk)) f))
noncomputable def xZ(fl:Nat->Nat->Nat->Nat->ab)(f alo D1 C8 C9:Nat)(r:ab):List ab :=
 if r.2.2=0 then [] else (if alo<r.1/\C8<r.2.1 then cH fl f alo r.1 C8 r.2.1 else [])++r::(if r.1+r.2.2<D1/\r.2.1+r.2.2<C9 then cH fl f (r.1+r.2.2) D1 (r.2.1+r.2.2) C9 else [])
theorem PF{fl:Nat->Nat->Nat->Nat->ab}{f g D1:Nat}{r:ab}(hl : ¬ r.2.2=0->cH fl f alo r.1 C8 r.2.1=cH fl g alo r.1 C8 r.2.1)(hr : ¬ r.2.2=0->cH fl f (r.1+r.2.2) D1 (r.2.1+r.2.2) C9=cH fl g (r.1+r.2.2) D1 (r.2.1+r.2.2) C9):xZ fl f alo D1 C8 C9 r=xZ fl g alo D1 C8 C9 r :=
 if hk:r.2.2=0 then (if_pos hk).trans (if_pos hk).symm else (if_neg hk).trans ((Hh (sg (hl hk)) (sg (hr hk))).trans (if_neg hk).symm)
theorem yc{fl:Nat->Nat->Nat->Nat->ab}(ok:cw fl)(f:Nat):∀(g alo D1 C8 C9:Nat),alo<=D1->C8<=C9->D1<=alo+f->D1<=alo+g->cH fl f alo D1 C8 C9=cH fl g alo D1 C8 C9:=by
 induction f with
 |zero=>exact fun g alo D1 C8 C9 h1 h2 h3 O=>(Ey ok h1 h2 h3 g).symm
 |succ f ih =>
  intro g alo D1 C8 C9 h1 h2 h3 h4;cases g with
  |zero=>exact Ey ok h1 h2 h4 _
  |succ g =>
   have a:=ok alo D1 C8 C9 h1 h2;exact PF (fun hk=>ih g _ _ _ _ a.1 a.2.2.1 (yP a.2.1 hk h3) (yP a.2.1 hk h4)) fun hk=>ih g _ _ _ _ a.2.1 a.2.2.2 (yO a.1 hk h3) (yO a.1 hk h4)
theorem nP{fl:Nat->Nat->Nat->Nat->ab}(ok:cw fl){P:Nat->Nat->Nat->Nat->List ab->Prop}(nil:∀alo D1 C8 C9,alo<=D1->C8<=C9->P alo D1 C8 C9 [])
  (node:∀alo D1 C8 C9 i j k l r,alo<=D1->C8<=C9->fl alo D1 C8 C9=(i,j,k+1)->alo<=i->i+(k+1)<=D1->C8<=j->j+(k+1)<=C9->P alo i C8 j l->P (i+(k+1)) D1 (j+(k+1)) C9 r->P alo D1 C8 C9 (l++(i,j,k+1)::r))
  (f:Nat):∀alo D1 C8 C9:Nat,alo<=D1->C8<=C9->P alo D1 C8 C9 (cH fl f alo D1 C8 C9):=by
 induction f with
 |zero=>exact nil
 |succ f ih =>
  intro alo D1 C8 C9 h1 h2;have a:=ok alo D1 C8 C9 h1 h2;have n:=node alo D1 C8 C9;show P _ _ _ _ (xZ fl f alo D1 C8 C9 (fl alo D1 C8 C9));generalize fl alo D1 C8 C9=r at a n;obtain⟨i,j,k⟩:=r;cases k with
  |zero=>exact nil _ _ _ _ h1 h2
  |succ k=>exact n i j k _ _ h1 h2 rfl a.1 a.2.1 a.2.2.1 a.2.2.2 (iteInduction (motive:=P alo i C8 j) (fun O=>ih _ _ _ _ a.1 a.2.2.1) fun O=>nil _ _ _ _ a.1 a.2.2.1) (iteInduction (motive:=P (i+(k+1)) D1 (j+(k+1)) C9) (fun O=>ih _ _ _ _ a.2.1 a.2.2.2) fun O=>nil _ _ _ _ a.2.1 a.2.2.2)
noncomputable abbrev cZ:=Nat×Nat×Nat×Nat
noncomputable def aY(fl:Nat->Nat->Nat->Nat->ab)(q:cZ):List ab:=cH fl (q.2.1-q.1) q.1 q.2.1 q.2.2.1 q.2.2.2
def zt(la lb:Nat)(q:cZ):Prop:=q.1<=q.2.1/\q.2.1<=la/\q.2.2.1<=q.2.2.2/\q.2.2.2<=lb
theorem Eu{fl:Nat->Nat->Nat->Nat->ab}{q:cZ}(hk:(fl q.1 q.2.1 q.2.2.1 q.2.2.2).2.2=0):aY fl q=[]:=by
 unfold aY;cases q.2.1-q.1 with
 |zero=>rfl
 |succ g=>exact if_pos hk
theorem iv(n m:Nat):n<=m+(n-m):=Nat.sub_le_iff_le_add'.mp (ZZ _)
theorem Ev{fl:Nat->Nat->Nat->Nat->ab}(ok:cw fl){q:cZ}(h1:q.1<=q.2.1)(h2:q.2.2.1<=q.2.2.2)(hk:(fl q.1 q.2.1 q.2.2.1 q.2.2.2).2.2≠0) :
  aY fl q=(if q.1<(fl q.1 q.2.1 q.2.2.1 q.2.2.2).1/\q.2.2.1<(fl q.1 q.2.1 q.2.2.1 q.2.2.2).2.1 then aY fl (q.1,(fl q.1 q.2.1 q.2.2.1 q.2.2.2).1,q.2.2.1,(fl q.1 q.2.1 q.2.2.1 q.2.2.2).2.1) else [])++fl q.1 q.2.1 q.2.2.1 q.2.2.2 ::
   (if (fl q.1 q.2.1 q.2.2.1 q.2.2.2).1+(fl q.1 q.2.1 q.2.2.1 q.2.2.2).2.2<q.2.1/\(fl q.1 q.2.1 q.2.2.1 q.2.2.2).2.1+(fl q.1 q.2.1 q.2.2.1 q.2.2.2).2.2<q.2.2.2 then aY fl ((fl q.1 q.2.1 q.2.2.1 q.2.2.2).1+(fl q.1 q.2.1 q.2.2.1 q.2.2.2).2.2,q.2.1,(fl q.1 q.2.1 q.2.2.1 q.2.2.2).2.1+(fl q.1 q.2.1 q.2.2.1 q.2.2.2).2.2,q.2.2.2) else []):=by
 obtain⟨alo,D1,C8,C9⟩:=q;dsimp only at *;have a:=ok alo D1 C8 C9 h1 h2;unfold aY;dsimp only;refine(yc ok _ (D1-alo+1) alo D1 C8 C9 h1 h2 (iv D1 alo) (Nat.le_succ_of_le (iv D1 alo))).trans ?_;refine(if_neg hk).trans ?_;exact Hh (sg (yc ok _ _ _ _ _ _ a.1 a.2.2.1 (yP a.2.1 hk (Nat.le_succ_of_le (iv D1 alo))) (iv _ alo))) (sg (yc ok _ _ _ _ _ _ a.2.1 a.2.2.2 (yO a.1 hk (Nat.le_succ_of_le (iv D1 alo))) (iv D1 _)))
noncomputable def cD(s:ab×List ab)(t:ab):ab×List ab :=
 if s.1.1+s.1.2.2=t.1/\s.1.2.1+s.1.2.2=t.2.1 then ((s.1.1,s.1.2.1,s.1.2.2+t.2.2),s.2) else (t,if s.1.2.2=0 then s.2 else s.2++[s.1])
noncomputable def fm(s:ab×List ab):List ab:=if s.1.2.2=0 then s.2 else s.2++[s.1]
noncomputable def aQ(fl:Nat->Nat->Nat->Nat->ab)(la lb:Nat):List ab:=fm ((aY fl (0,la,0,lb)).foldl cD ((0,0,0),[]))++[(la,lb,0)]
def zI(alo D1 C8 C9:Nat)(t:ab):Prop:=alo<=t.1/\t.1+t.2.2<=D1/\C8<=t.2.1/\t.2.1+t.2.2<=C9/\0<t.2.2
theorem rT{P:α->Prop}{l r:List α}{x:α}(hl:∀t∈l,P t)(hx:P x)(hr:∀t∈r,P t)(t:α)(h:t∈l++x::r):P t :=
 (d8.mp h).elim (hl t) fun h=>(Zy.mp h).elim (fun e=>e▸hx) (hr t)
theorem yb{fl:Nat->Nat->Nat->Nat->ab}(ok:cw fl):∀(f alo D1 C8 C9:Nat),alo<=D1->C8<=C9->∀t∈cH fl f alo D1 C8 C9,zI alo D1 C8 C9 t :=
 nP ok (P:=fun alo D1 C8 C9 L=>∀t∈L,zI alo D1 C8 C9 t) (fun O O O O O O=>bC) fun alo D1 C8 C9 i j k l r O O O a1 a2 a3 a4 hl hr =>
  rT (fun t h=>⟨(hl t h).1,d7 (hl t h).2.1 (d7 (Nat.le_add_right ..) a2),(hl t h).2.2.1,d7 (hl t h).2.2.2.1 (d7 (Nat.le_add_right ..) a4),(hl t h).2.2.2.2⟩) ⟨a1,a2,a3,a4,Nat.succ_pos _⟩
   fun t h=>⟨d7 (d7 a1 (Nat.le_add_right ..)) (hr t h).1,(hr t h).2.1,d7 (d7 a3 (Nat.le_add_right ..)) (hr t h).2.2.1,(hr t h).2.2.2⟩
def zu(s t:ab):Prop:=s.1+s.2.2<=t.1/\s.2.1+s.2.2<=t.2.1
theorem Ex{fl:Nat->Nat->Nat->Nat->ab}(ok:cw fl)(f alo D1 C8 C9:Nat)(h1:alo<=D1)(h2:C8<=C9):(cH fl f alo D1 C8 C9).Pairwise zu :=
 (nP ok (P:=fun alo D1 C8 C9 L=>(∀t∈L,zI alo D1 C8 C9 t)/\L.Pairwise zu) (fun O O O O O O=>⟨bC,.nil⟩) (fun alo D1 C8 C9 i j k l r O O O a1 a2 a3 a4 hl hr =>
  ⟨rT (fun t h=>⟨(hl.1 t h).1,d7 (hl.1 t h).2.1 (d7 (Nat.le_add_right ..) a2),(hl.1 t h).2.2.1,d7 (hl.1 t h).2.2.2.1 (d7 (Nat.le_add_right ..) a4),(hl.1 t h).2.2.2.2⟩) ⟨a1,a2,a3,a4,Nat.succ_pos _⟩
   fun t h=>⟨d7 (d7 a1 (Nat.le_add_right ..)) (hr.1 t h).1,(hr.1 t h).2.1,d7 (d7 a3 (Nat.le_add_right ..)) (hr.1 t h).2.2.1,(hr.1 t h).2.2.2⟩,
  List.pairwise_append.mpr ⟨hl.2,u8.mpr ⟨fun t h=>⟨(hr.1 t h).1,(hr.1 t h).2.2.1⟩,hr.2⟩,fun s hs=>rT (x:=(i,j,k+1)) (l:=[]) bC ⟨(hl.1 s hs).2.1,(hl.1 s hs).2.2.2.1⟩
   fun t h=>⟨d7 (hl.1 s hs).2.1 (d7 (Nat.le_add_right ..) (hr.1 t h).1),d7 (hl.1 s hs).2.2.2.1 (d7 (Nat.le_add_right ..) (hr.1 t h).2.2.1)⟩⟩⟩) f alo D1 C8 C9 h1 h2).2
theorem PH{fl:Nat->Nat->Nat->Nat->ab}(ok:cw fl):∀(f alo D1 C8 C9:Nat),alo<=D1->C8<=C9->(cH fl f alo D1 C8 C9).length+alo<=D1 :=
 nP ok (P:=fun alo D1 O O L=>L.length+alo<=D1) (fun O O O O h O=>(Nat.zero_add _).symm▸h) fun alo D1 C8 C9 i j k l r O O O a1 a2 a3 a4 hl hr=>by
  rw[ZA,Zz];clear a1 a2 a3 a4;omega
theorem Ez{fl:Nat->Nat->Nat->Nat->ab}(ok:cw fl)(f alo D1 C8 C9:Nat)(h1:alo<=D1)(h2:C8<=C9):(cH fl f alo D1 C8 C9).length<=D1-alo:=Nat.le_sub_of_add_le (PH ok f alo D1 C8 C9 h1 h2)
noncomputable def eo(qs:List cZ):Nat:=(qs.map fun q=>2 * (q.2.1-q.1)+1).sum
theorem BO(qs:List cZ):qs.length<=eo qs:=by
 unfold eo;induction qs with
 |nil=>exact ZM _
 |cons q qs ih=>rw[ZD,List.sum_cons,Zz];omega
theorem LY(qs:List cZ)(q:cZ):eo (qs++[q])=eo qs+(2 * (q.2.1-q.1)+1):=by
 unfold eo;rw[ZT,List.sum_append];simp
theorem BQ(qs rs:List cZ):eo (qs++rs)=eo qs+eo rs:=by
 unfold eo;rw[ZT,List.sum_append]
theorem NW{ms qs lw rw T:List ab}{t:ab}(h:((ms++qs)++(lw++t::rw)).Perm T):((ms++[t])++((qs++lw)++rw)).Perm T:=by
 refine List.Perm.trans (List.perm_iff_count.mpr fun x=>?_) h;simp only[List.count_append,List.count_cons,List.count_nil];omega
theorem Ge{c:Prop}[Decidable c](f:α->List β)(x:α):(if c then [x] else []).flatMap f=if c then f x else []:=by
 split <;> simp
theorem PE{fl:Nat->Nat->Nat->Nat->ab}(ok:cw fl){q:cZ}(h1:q.1<=q.2.1)(h2:q.2.2.1<=q.2.2.2):(aY fl q).Pairwise fun s t=>s.1<t.1 :=
 (Ex ok (q.2.1-q.1) q.1 q.2.1 q.2.2.1 q.2.2.2 h1 h2).imp_of_mem fun{s t} hs _ h=>by
  exact Nat.lt_of_lt_of_le (Nat.lt_add_of_pos_right (yb ok _ _ _ _ _ h1 h2 s hs).2.2.2.2) h.1
theorem zp(s:ab×List ab)(t:ab):(cD s t).2.length<=s.2.length+1:=by
 unfold cD;split
 ·exact Nat.le_succ _
 ·dsimp only;split
  ·exact Nat.le_succ _
  ·simp
section
open PySem PyProof.Rows
section
variable{a0:Array Keyed}{key:Keyed->Nat}
def gz(C0:ZJ)(w:ZQ)(A:ZI)(E:Value->Zx->Prop)(s:Zx)(a0:Array Keyed)(key:Keyed->Nat):Prop :=
 ∀x∈a0.toList,∀y∈a0.toList,∀(Q:Option Bool->SortSt->Prop) (st:SortSt),kindOf st=oneType'->Q (some (decide (key x<key y))) st->wpS (ZP C0 w) A E s (lt' x y) Q st
noncomputable def aR(key:Keyed->Nat)(xs:Array Keyed)(i:Nat):Nat:=match xs[i]? with
 |some p=>key p
 |none=>0
theorem oG{xs ys:Array Keyed}(h:xs[i]?=ys[j]?):aR key xs i=aR key ys j:=by unfold aR;rw[h]
def Up(key:Keyed->Nat)(xs:Array Keyed)(k:Nat):Prop:=∀i j,i<j->j<k->aR key xs i<aR key xs j
def Q3(key:Keyed->Nat)(xs:Array Keyed)(k:Nat):Prop:=∀i j,i<j->j<k->aR key xs j<aR key xs i
def eI(key:Keyed->Nat)(xs:Array Keyed):Prop:=∀i j,i<j->j<xs.size->aR key xs i≠aR key xs j
theorem Hi{xs:Array Keyed}:eI key xs↔(xs.toList.map key).Nodup:=by
 have hk:∀i (h:i<xs.size),aR key xs i=key xs[i]:=fun i h=>by unfold aR;rw[getElem?_pos xs i h]
 have hm:∀i (h:i<(xs.toList.map key).length),∃h':i<xs.size,(xs.toList.map key)[i]=aR key xs i:=fun i h =>
  have h':i<xs.size:=Nat.lt_of_lt_of_eq h (Zu _)
  ⟨h',(List.getElem_map key).trans (hk i h').symm⟩
 have hs:(xs.toList.map key).length=xs.size:=Zu _;refine⟨fun h=>List.pairwise_iff_getElem.mpr fun i j hi hj L8=>?_,fun h i j L8 hj=>?_⟩
 ·exact aw (hm i hi) fun h1 e1=>aw (hm j hj) fun h2 e2=>e1▸e2▸h i j L8 h2
 ·exact aw (hm i (hs▸Nat.lt_trans L8 hj)) fun h1 e1=>aw (hm j (hs▸hj)) fun h2 e2=>e1▸e2▸List.pairwise_iff_getElem.mp h i j _ _ L8
theorem SBase.apart{st:SortSt}(h:SBase a0 st)(hd:eI key a0):eI key (arrOf st):=by
 rw[Hi] at hd ⊢;exact((t7.mp h.perm).map key).nodup_iff.mpr hd
theorem lB{st:SortSt}{Q:Option Bool->SortSt->Prop}(hL:gz C0 w A E s a0 key)(hB:SBase a0 st)(hi:i<a0.size)(hj:j<a0.size)
  (h:Q (some (decide (aR key (arrOf st) i<aR key (arrOf st) j))) st):wpS (ZP C0 w) A E s (ltAt' i j) Q st:=by
 have hi':i<(arrOf st).size:=by rw[hB.size];exact hi
 have X_:j<(arrOf st).size:=by rw[hB.size];exact hj
 have mi:(arrOf st)[i]∈a0.toList:=(t7.mp hB.perm).mem_iff.mp (by simp);have mj:(arrOf st)[j]∈a0.toList:=(t7.mp hB.perm).mem_iff.mp (by simp);have e1:(arrOf st)[i]?=some (arrOf st)[i]:=getElem?_pos _ i hi';have e2:(arrOf st)[j]?=some (arrOf st)[j]:=getElem?_pos _ j X_;unfold aR at h;rw[e1,e2] at h;rw[ltAt'_eq];refine wpS_bind (wpS_get ?_);show wpS _ _ _ _ (do let x ← elem' (arrOf st) i;let y ← elem' (arrOf st) j;lt' x y) Q st;rw[elem'_eq,elem'_eq,e1,e2];exact wpS_bind (wpS_pure (wpS_bind (wpS_pure (hL _ mi _ mj _ _ hB.kind h))))
theorem Xe{xs:Array Keyed}{N_ d:Nat}(hs:N_<xs.size)(hd:d<=N_)(k:Nat) :
  aR key (bubble xs N_ d) k=if k=N_-d then aR key xs N_ else if N_-d<k/\k<=N_ then aR key xs (k-1) else aR key xs k:=by
 by_cases h1:k=N_-d
 ·rw[if_pos h1];exact oG ((getElem?_bubble hs d hd k).trans (if_pos h1))
 ·rw[if_neg h1];by_cases h2:N_-d<k/\k<=N_
  ·rw[if_pos h2];exact oG ((getElem?_bubble hs d hd k).trans ((if_neg h1).trans (if_pos h2)))
  ·rw[if_neg h2];exact oG ((getElem?_bubble hs d hd k).trans ((if_neg h1).trans (if_neg h2)))
theorem HU{xs:Array Keyed}(hj:j<=xs.size)(k:Nat):aR key (mirror xs i j ((j-i) / 2)) k=if i<=k/\k<j then aR key xs (i+j-1-k) else aR key xs k:=by
 by_cases h1:i<=k/\k<j
 ·rw[if_pos h1];exact oG ((getElem?_mirror_all hj k).trans (if_pos h1))
 ·rw[if_neg h1];exact oG ((getElem?_mirror_all hj k).trans (if_neg h1))
theorem Je{f g:Nat->Nat}{l x:Nat}(lo:∀i,i<l->g i=f i)(at_:g l=x)(hi:∀i,l<=i->i<k->g (i+1)=f i)(hu:∀i j,i<j->j<k->f i<f j)
  (h1:∀i,i<l->f i<x) (h2:∀i,l<=i->i<k->x<f i) (hl:l<=k) (i j:Nat) (L8:i<j) (hj:j<k+1):g i<g j:=by
 have up:∀m,l<m->m<k+1->∃n,m=n+1/\l<=n/\n<k:=fun m a b=>by
  cases m with
  |zero=>exact absurd a (Nat.not_lt_zero _)
  |succ n=>exact⟨n,rfl,Nat.le_of_lt_succ a,Nat.lt_of_succ_lt_succ b⟩
 refine(Nat.lt_trichotomy i l).elim (fun a=>?_) fun a=>a.elim (fun a=>?_) fun a=>?_
 ·rw[lo i a];refine(Nat.lt_trichotomy j l).elim (fun b=>?_) fun b=>b.elim (fun b=>?_) fun b=>?_
  ·rw[lo j b];exact hu i j L8 (Nat.lt_of_lt_of_le b hl)
  ·rw[b,at_];exact h1 i a
  ·exact aU (up j b hj) fun n e c d=>e▸(hi n c d).symm▸hu i n (Nat.lt_of_lt_of_le a c) d
 ·subst a;rw[at_];exact aU (up j L8 hj) fun n e c d=>e▸(hi n c d).symm▸h2 n c d
 ·exact aU (up i a (Nat.lt_trans L8 hj)) fun m e c d=>aU (up j (Nat.lt_trans a L8) hj) fun n e' c' d'=>by
   subst e;subst e';rw[hi m c d,hi n c' d'];exact hu m n (Nat.lt_of_succ_lt_succ L8) d'
theorem Up.bubble{xs:Array Keyed}{l:Nat}(hk:k<xs.size)(hl:l<=k)(hu:Up key xs k)(h1:∀i,i<l->aR key xs i<aR key xs k)(h2:∀i,l<=i->i<k->aR key xs k<aR key xs i):Up key (bubble xs k (k-l)) (k+1):=by
 have e:=fun m=>Xe (key:=key) hk (Nat.sub_le k l) m;rw[Nat.sub_sub_self hl] at e;refine Je (f:=aR key xs) (x:=aR key xs k) (l:=l) (fun i a=>?_) ((e l).trans (if_pos rfl)) (fun i a b=>?_) hu h1 h2 hl
 ·exact(e i).trans ((if_neg (j9 a)).trans (if_neg fun q=>Nat.lt_asymm a q.1))
 ·exact(e (i+1)).trans ((if_neg (Nat.ne_of_gt (Nat.lt_succ_of_le a))).trans (if_pos ⟨Nat.lt_succ_of_le a,b⟩))
structure ψ (f:Nat->Nat) (x k m l r:Nat):Prop where
 le:l<=r
 rk:r<=k
 rm:r<=l+m
 lo:∀i,i<l->f i<x
 hi:∀i,r<=i->i<k->x<f i
theorem je{l r:Nat}(h:l<r):l<=(l+r) / 2/\(l+r) / 2<r :=
 ⟨(Nat.le_div_iff_mul_le (Nat.succ_pos 1)).mpr (Nat.mul_two l▸Nat.add_le_add_left (n7 h) l),Nat.div_lt_of_lt_mul (Nat.two_mul r▸Nat.add_lt_add_right h r)⟩
theorem ψ.low{f:Nat->Nat}{x m l r:Nat}(h:ψ f x k (m+1) l r)(G8:l<r)(hu:∀i j,i<j->j<k->f i<f j)(hc:x<f ((l+r) / 2)):ψ f x k m l ((l+r) / 2) :=
 ⟨(je G8).1,d7 (n7 (je G8).2) h.rk,Nat.le_of_lt_succ (Nat.lt_of_lt_of_le (je G8).2 h.rm),h.lo,fun i a b=>(Nat.eq_or_lt_of_le a).elim (fun e=>e▸hc) fun a=>Nat.lt_trans hc (hu _ _ a b)⟩
theorem ψ.high{f:Nat->Nat}{x m l r:Nat}(h:ψ f x k (m+1) l r)(G8:l<r)(hu:∀i j,i<j->j<k->f i<f j)(hc:f ((l+r) / 2)<x):ψ f x k m ((l+r) / 2+1) r :=
 ⟨(je G8).2,h.rk,d7 h.rm (Nat.succ_add_eq_add_succ l m▸Nat.add_le_add_right (Nat.succ_le_succ (je G8).1) m),fun i a=>(Nat.eq_or_lt_of_le (Nat.le_of_lt_succ a)).elim (fun e=>e▸hc) fun a=>Nat.lt_trans (hu _ _ a (Nat.lt_of_lt_of_le (je G8).2 h.rk)) hc,h.hi⟩
theorem ψ.fin{f:Nat->Nat}{x m l r:Nat}(h:ψ f x k m l r)(r_:r<=l)(m':Nat):ψ f x k m' l r:=⟨h.le,h.rk,d7 r_ (Nat.le_add_right ..),h.lo,h.hi⟩
theorem IG{st:SortSt}{ok:Nat}{Q:Bool->SortSt->Prop}(hL:gz C0 w A E s a0 key)(hd:eI key a0)(hn:n<=a0.size)(G_:1<=ok)(hokn:ok<=n)(hB:SBase a0 st)(hs:Up key (arrOf st) ok)
  (h:∀C4,SBase a0 C4->Up key (arrOf C4) n->Q true C4):wpS (ZP C0 w) A E s (binarySort' 0 n ok) Q st:=by
 rw[binarySort'_eq,Nat.max_eq_left G_];refine wpS_bind (wpS_mono (wpS_forRange (β:=Option Bool×Unit) (fun k c C4=>c=(none,())/\SBase a0 C4/\Up key (arrOf C4) k) (Q:=fun c C4=>c=(none,())/\SBase a0 C4/\Up key (arrOf C4) n) ?_ (fun c C4 Y=>Nat.max_eq_right hokn▸Y) ⟨rfl,hB,hs⟩)
  fun c C4 Y=>di Y fun e D_ hu=>by subst e;exact wpS_pure (h C4 D_ hu))
 intro k c C4 hk1 hk2 Y;refine di Y fun e D_ hu=>?_;clear Y;subst e;have Ĩ:=SBase.apart D_ hd;have hk:=Nat.lt_of_lt_of_le hk2 hn;refine wpS_bind (wpS_mono (wpS_forRange (β:=Option Bool×Nat×Nat) (fun t c F0=>∃l r,c=(none,l,r)/\F0=C4/\ψ (aR key (arrOf C4)) (aR key (arrOf C4) k) k (k-t) l r)
  (Q:=fun c F0=>∃l r,c=(none,l,r)/\F0=C4/\ψ (aR key (arrOf C4)) (aR key (arrOf C4) k) k 0 l r) ?_ ?_ ?_) ?_)
 ·intro t c F0 ht1 ht2 Y;refine bW Y fun l r e e' b=>?_;clear Y;subst e;subst e';dsimp only;rw[show k-t=k-(t+1)+1 from(Nat.succ_pred_eq_of_pos (Nat.sub_pos_of_lt ht2)).symm] at b;split
  ·rename_i r_
   exact wpS_pure ⟨l,r,rfl,rfl,b.fin r_ 0⟩
  ·rename_i G8
   have G8:=Nat.not_le.mp G8;have hm:=je G8;have Δ:=Nat.lt_of_lt_of_le hm.2 b.rk;rw[Nat.zero_add,Nat.zero_add];refine wpS_bind (lB hL D_ hk (Nat.lt_trans Δ hk) ?_);by_cases hc:aR key (arrOf F0) k<aR key (arrOf F0) ((l+r) / 2)
   ·rw[decide_eq_true hc];exact wpS_pure ⟨l,_,rfl,rfl,b.low G8 hu hc⟩
   ·rw[decide_eq_false hc];exact wpS_pure ⟨_,r,rfl,rfl,b.high G8 hu (Nat.lt_of_le_of_ne (Nat.not_lt.mp hc) (Ĩ _ _ Δ (D_.size.symm▸hk)))⟩
 ·exact fun c F0 Y=>bW Y fun l r e e' b=>⟨l,r,e,e',Nat.sub_eq_zero_of_le (Nat.le_max_right 0 k)▸b⟩
 ·exact⟨0,k,rfl,rfl,ZM _,ZZ _,Nat.le_of_eq (Nat.zero_add _).symm,fun O=>nofun,fun i a b=>absurd b (Nat.not_lt.mpr a)⟩
 ·intro c F0 Y;refine bW Y fun l r e e' b=>?_;clear Y;subst e;subst e';have q:=Nat.le_antisymm b.le b.rm;subst q;dsimp only;rw[moveDown'_eq,Nat.zero_add,Nat.zero_add];exact wpS_bind (wpS_modify (wpS_pure ⟨rfl,D_.setArr (bubble_perm ..),Up.bubble (D_.size.symm▸hk) b.rk hu b.lo b.hi⟩))
end
end
section
open PySem PyProof.Rows
section
variable{a0:Array Keyed}{key:Keyed->Nat}
theorem Up.one{xs:Array Keyed}:Up key xs 1:=fun i j h1 h2=>absurd h1 (Nat.lt_one_iff.mp h2▸Nat.not_lt_zero i)
theorem Up.more{xs:Array Keyed}{x:Nat}(hu:Up key xs (x+1))(h:aR key xs x<aR key xs (x+1)):Up key xs (x+2):=fun i j L8 hj =>
 (Nat.lt_succ_iff_lt_or_eq.mp hj).elim (hu i j L8) fun e=>by
  subst e;exact(Nat.lt_succ_iff_lt_or_eq.mp L8).elim (fun a=>Nat.lt_trans (hu i x a (t9 x)) h) fun a=>a▸h
theorem Q3.more{xs:Array Keyed}{x:Nat}(hu:Q3 key xs (x+1))(h:aR key xs (x+1)<aR key xs x):Q3 key xs (x+2):=fun i j L8 hj =>
 (Nat.lt_succ_iff_lt_or_eq.mp hj).elim (hu i j L8) fun e=>by
  subst e;exact(Nat.lt_succ_iff_lt_or_eq.mp L8).elim (fun a=>Nat.lt_trans h (hu i x a (t9 x))) fun a=>a▸h
theorem Et(h1:i<j)(h2:j<n):0+n-1-j<0+n-1-i/\0+n-1-i<n:=by
 rw[Nat.zero_add];exact⟨Nat.sub_lt_sub_left (Nat.lt_sub_of_add_lt (Nat.lt_of_le_of_lt h1 h2)) h1,Nat.lt_of_le_of_lt (Nat.sub_le ..) (Nat.sub_one_lt (Nat.ne_of_gt (Nat.zero_lt_of_lt h2)))⟩
theorem Q3.mirror{xs:Array Keyed}(hn:n<=xs.size)(h:Q3 key xs n):Up key (mirror xs 0 n ((n-0) / 2)) n:=fun i j L8 hj=>by
 rw[HU hn,HU hn,if_pos ⟨ZM _,Nat.lt_trans L8 hj⟩,if_pos ⟨ZM _,hj⟩];exact h _ _ (Et L8 hj).1 (Et L8 hj).2
theorem Ah{st:SortSt}{a H4:Nat}{Q:AscSt->SortSt->Prop}(hL:gz C0 w A E s a0 key)(hd:eI key a0)(hn:H4<=a0.size)(ha:1<=a)(han:a<=H4)(hB:SBase a0 st)(hs:Up key (arrOf st) a)
  (h:∀n,a<=n->n<=H4->Up key (arrOf st) n->(n=H4∨aR key (arrOf st) n<aR key (arrOf st) (n-1))->Q (none,n) st):wpS (ZP C0 w) A E s (ascLoop a H4) Q st:=by
 have Ĩ:=SBase.apart hB hd;unfold ascLoop;refine wpS_forRange (fun x c C4=>c=(none,x)/\C4=st/\Up key (arrOf st) x) ?_ ?_ ⟨rfl,rfl,hs⟩
 ·intro x c C4 h1 h2 Y6;refine di Y6 fun e e' hu=>?_;clear Y6;subst e;subst e';cases x with
  |zero=>exact absurd (d7 ha h1) (Nat.not_succ_le_zero 0)
  |succ x =>
   have hx:=Nat.lt_of_lt_of_le h2 hn;refine wpS_bind (lB hL hB hx (Nat.lt_of_succ_lt hx) ?_);rw[Nat.add_sub_cancel];dsimp only;by_cases hc:aR key (arrOf C4) (x+1)<aR key (arrOf C4) x
   ·rw[decide_eq_true hc];exact wpS_pure (h (x+1) h1 (n7 h2) hu (.inr hc))
   ·rw[decide_eq_false hc];exact wpS_pure ⟨rfl,rfl,hu.more (Nat.lt_of_le_of_ne (Nat.not_lt.mp hc) (Ĩ x (x+1) (t9 x) (hB.size.symm▸hx)))⟩
 ·intro c C4 Y3;refine di Y3 fun e e' hu=>?_;rw[Nat.max_eq_right han] at e hu;subst e;subst e';exact h H4 han (ZZ _) hu (.inl rfl)
theorem IB{st:SortSt}{H4:Nat}{Q:Option Nat->SortSt->Prop}(hL:gz C0 w A E s a0 key)(hd:eI key a0)(hn:H4<=a0.size)(h1:1<=n)(m_:n<=H4)(hB:SBase a0 st)(hs:Q3 key (arrOf st) n)
  (h:∀m C4,SBase a0 C4->1<=m->m<=H4->Up key (arrOf C4) m->Q (some m) C4):wpS (ZP C0 w) A E s (tail3 n H4) Q st:=by
 unfold tail3;have D_:SBase a0 (setArr st (mirror (arrOf st) 0 n ((n-0) / 2))):=hB.setArr (mirror_perm _ _ _ _);exact wpS_bind (wpS_reverse (wpS_bind (Ah hL hd hn h1 m_ D_ (Q3.mirror (hB.size.symm▸d7 m_ hn) hs) fun m a b c O=>wpS_pure (h m _ D_ (d7 h1 a) b c))))
theorem IE{st:SortSt}{H4:Nat}{Q:DescSt->SortSt->Prop}(hL:gz C0 w A E s a0 key)(hd:eI key a0)(hn:H4<=a0.size)(h1:1<=n)(m_:n<=H4)(hB:SBase a0 st)(hs:Q3 key (arrOf st) n)
  (h:∀m,n<=m->m<=H4->Q3 key (arrOf st) m->Q (none,m,0) st):wpS (ZP C0 w) A E s (descLoop n H4) Q st:=by
 have Ĩ:=SBase.apart hB hd;unfold descLoop;refine wpS_forRange (fun x c C4=>c=(none,x,0)/\C4=st/\Q3 key (arrOf st) x) ?_ ?_ ⟨rfl,rfl,hs⟩
 ·intro x c C4 h2 h3 Y6;refine di Y6 fun e e' hu=>?_;clear Y6;subst e;subst e';cases x with
  |zero=>exact absurd (d7 h1 h2) (Nat.not_succ_le_zero 0)
  |succ x =>
   have hx:=Nat.lt_of_lt_of_le h3 hn;refine wpS_bind (lB hL hB hx (Nat.lt_of_succ_lt hx) ?_);rw[Nat.add_sub_cancel];dsimp only;by_cases hc:aR key (arrOf C4) (x+1)<aR key (arrOf C4) x
   ·rw[decide_eq_true hc,if_pos rfl,if_neg (r6 0)];exact wpS_pure ⟨rfl,rfl,hu.more hc⟩
   ·rw[decide_eq_false hc,if_neg d3];refine wpS_bind (lB hL hB (Nat.lt_of_succ_lt hx) hx ?_);rw[decide_eq_true (Nat.lt_of_le_of_ne (Nat.not_lt.mp hc) (Ĩ x (x+1) (t9 x) (hB.size.symm▸hx)))];exact wpS_pure (h (x+1) h2 (n7 h3) hu)
 ·intro c C4 Y3;refine di Y3 fun e e' hu=>?_;rw[Nat.max_eq_right m_] at e hu;subst e;subst e';exact h H4 m_ (ZZ _) hu
theorem ID{st:SortSt}{H4:Nat}{Q:Option Nat->SortSt->Prop}(hL:gz C0 w A E s a0 key)(hd:eI key a0)(hn:H4<=a0.size)(m_:n+1<=H4)(hB:SBase a0 st)(hs:Q3 key (arrOf st) (n+1))
  (h:∀m C4,SBase a0 C4->1<=m->m<=H4->Up key (arrOf C4) m->Q (some m) C4):wpS (ZP C0 w) A E s (descPart n H4) Q st:=by
 unfold descPart;refine wpS_bind (wpS_lift (l6 ⟨rfl,wpS_bind (IE hL hd hn (Nat.succ_pos n) m_ hB hs fun m a b c=>?_)⟩));dsimp only;rw[if_neg (r6 0)];exact IB hL hd hn (d7 (Nat.succ_pos n) a) b hB c h
theorem IF{st:SortSt}{H4:Nat}{Q:Option Nat->SortSt->Prop}(hL:gz C0 w A E s a0 key)(hd:eI key a0)(hn:H4<=a0.size)(h1:1<=H4)(hB:SBase a0 st)
  (h:∀m C4,SBase a0 C4->1<=m->m<=H4->Up key (arrOf C4) m->Q (some m) C4):wpS (ZP C0 w) A E s (countRun' 0 H4) Q st:=by
 rw[countRun0_eq];refine wpS_bind (Ah hL hd hn (ZZ _) h1 hB Up.one fun n a b c e=>?_);dsimp only;by_cases m_:n=H4
 ·rw[if_pos (beq_iff_eq.mpr m_)];exact wpS_pure (h n st hB a b c)
 ·rw[if_neg fun q=>m_ (beq_iff_eq.mp q)];have G8:=e.resolve_left m_;have W':=Nat.lt_of_lt_of_le (Nat.lt_of_le_of_ne b m_) hn;by_cases Ŏ:n > 1
  ·rw[if_pos Ŏ];have h0:=Nat.sub_lt (Nat.lt_of_lt_of_le Nat.one_pos a) Nat.one_pos;refine wpS_bind (lB hL hB (Nat.lt_of_le_of_lt (ZM _) W') (Nat.lt_trans h0 W') ?_);rw[decide_eq_true (c 0 (n-1) (Nat.sub_pos_of_lt Ŏ) h0)];exact wpS_pure (h n st hB a b c)
  ·rw[if_neg Ŏ];have q:=Nat.le_antisymm (Nat.not_lt.mp Ŏ) a;subst q;exact ID hL hd hn (Nat.lt_of_le_of_ne b m_) hB (Q3.more (fun i j h1 h2=>absurd h1 (Nat.lt_one_iff.mp h2▸Nat.not_lt_zero i)) G8) h
def W1(key:Keyed->Nat)(a0:Array Keyed)(st:SortSt):Prop:=(arrOf st).Perm a0/\failedOf st=none/\pendingOf st=#[(0,a0.size,0)]/\Up key (arrOf st) a0.size
theorem W1.of{st:SortSt}(hB:SBase a0 st)(hs:Up key (arrOf st) a0.size):W1 key a0 (setPending st ((pendingOf st).push (0,a0.size,0))):=⟨hB.perm,hB.failed,by
 show (pendingOf st).push (0,a0.size,0)=_;rw[hB.pend];rfl,hs⟩
theorem Pk(h2:2<=n)(h64:n<64):minRun' n n 0=n:=by
 cases n with
 |zero=>omega
 |succ f=>rw[minRun'_succ,if_pos h64]
theorem IC{st:SortSt}{Q:Unit->SortSt->Prop}(hL:gz C0 w A E s a0 key)(hd:eI key a0)(hB:SBase a0 st)(h2:2<=a0.size)(h64:a0.size<64)
  (h:∀C4,(arrOf C4).Perm a0->failedOf C4=none->Up key (arrOf C4) a0.size->Q () C4):wpS (ZP C0 w) A E s sortRuns' Q st:=by
 rw[sortRuns'_eq];refine wpS_bind (wpS_get ?_);rw[hB.size];dsimp only;rw[Pk h2 h64];refine wpS_bind (wpS_mono (wpS_forRange (Q:=fun c C4=>c=(none,a0.size)/\W1 key a0 C4)
  (fun x c C4=>(c=(none,0)/\x=0/\SBase a0 C4)∨(c=(none,a0.size)/\1<=x/\W1 key a0 C4)) ?_ ?_ (.inl ⟨rfl,rfl,hB⟩)) ?_)
 ·rintro x c C4 _ hx (⟨rfl,rfl,D_⟩ |⟨rfl,hx1,hO⟩)
  ·dsimp only;rw[if_neg (Nat.not_le.mpr (Nat.lt_of_lt_of_le (by decide) h2)),Nat.sub_zero,Nat.min_self];refine wpS_bind (IF hL hd (ZZ _) (d7 (by decide) h2) D_ fun m aE ĭ m1 m2 W4=>?_);dsimp only;by_cases G8:m<a0.size
   ·rw[if_pos G8];refine wpS_bind (wpS_lift (l6 ⟨rfl,wpS_bind (IG hL hd (ZZ _) m1 m2 ĭ W4 fun az hB2 É=>?_)⟩));rw[if_neg (by decide)];refine wpS_bind (wpS_get ?_);rw[show (pendingOf az).back?=none from by rw[hB2.pend];rfl];exact wpS_bind (wpS_modify (wpS_pure (.inr ⟨congrArg (Prod.mk none) (Nat.zero_add _),Nat.succ_pos _,.of hB2 É⟩)))
   ·rw[if_neg G8]
    have:m=a0.size:=Nat.le_antisymm m2 (Nat.not_lt.mp G8);subst this;refine wpS_bind (wpS_get ?_);rw[show (pendingOf aE).back?=none from by rw[ĭ.pend];rfl];exact wpS_bind (wpS_modify (wpS_pure (.inr ⟨congrArg (Prod.mk none) (Nat.zero_add _),Nat.succ_pos _,.of ĭ W4⟩)))
  ·dsimp only;rw[if_pos (ZZ _)];exact wpS_pure ⟨rfl,hO⟩
 ·rintro c C4 (⟨_,hx,_⟩ |⟨hc,_,hO⟩)
  ·exact absurd ((Nat.max_eq_right (ZM _)).symm.trans hx▸h2) (by decide)
  ·exact⟨hc,hO⟩
 ·intro c C4 Y3;refine aA Y3 fun ð hO=>?_;clear Y3;subst ð;dsimp only;refine wpS_bind (wpS_mono (wpS_forRange (Q:=fun c F0=>c=(none,())/\F0=C4) (fun O c F0=>c=(none,())/\F0=C4) ?_ (fun O O q=>q) ⟨rfl,rfl⟩) ?_)
  ·intro x c F0 _ _ Y6;refine aA Y6 fun Y61 Y62=>?_;clear Y6;subst Y61;subst Y62;refine wpS_bind (wpS_get ?_);rw[if_pos (by rw[hO.2.2.1];exact ZZ 1)];exact wpS_pure ⟨rfl,rfl⟩
  ·intro c F0 Y3;refine aA Y3 fun ð Y32=>?_;clear Y3;subst ð;subst Y32;exact wpS_pure (h _ hO.1 hO.2.1 hO.2.2.2)
end
end
section
open PySem PySem.W PyProof.Rows
structure φ (C0:ZJ) (w:ZQ) (K:Frag) (C:b0):Prop where
 lt:f1 K ⟨C0,w.params⟩ (k8 (.ref C) "__lt__")=some (some (.builtin "tuple.__lt__"))
 sub:f1 K ⟨C0,w.params⟩ (y8 (.ref C) (.type "tuple"))=some true
theorem Jl(x y:Value):Builtin.«tuple.__lt__» ⟨[x,y],[]⟩=(do
  if !(← isInstance y (.type "tuple")) then return ← ret .notImplemented
  let xs ← Builtin.Tuple.tupleItemsOf x
  let ys ← Builtin.Tuple.tupleItemsOf y
  for (p,q) in xs.toList.zip ys.toList do
   if !(← eqBool p q) then
    rule "tuple.compare.by-the-first-pair-that-differs";return ← ret (← richCompare .Lt p q)
  ret (Builtin.Tuple.tupleCompareSizes .Lt xs.size ys.size)):=rfl
section
variable{K:Frag}
theorem PL{b e:b0}{i j k i' j' k':Int}{t1 t2 t3 u1 u2 u3:Tok}{m:Nat}{Q:Bool->Zx->Prop}(ok:φ C0 w K C)(X:K.In s.heap)(hu:A.units<cLine)
  (ha:s.heap.get? a=some {cls:=.ref C,dict:=some d,data:=.seq #[.int i t1,.int j t2,.int k t3] n})
  (hb:s.heap.get? b=some {cls:=.ref C,dict:=some e,data:=.seq #[.int i' u1,.int j' u2,.int k' u3] m})
  (I3:i=i'->j=j'/\k=k') (hQ:Q (decide (i<i')) s):ZS (ZP C0 w) A (oneLt' true (.ref a) (.ref b)) Q E s:=by
 have tl:Looks (ZP C0 w) s.heap (typeOf (.ref a)) (.ref C):=(Looks.ld ha).andThen .now;have tb:Looks (ZP C0 w) s.heap (typeOf (.ref b)) (.ref C):=(Looks.ld hb).andThen .now;have hc:ZS (ZP C0 w) A (call (.builtin "tuple.__lt__") [.ref a,.ref b]) (fun v s'=>v=.bool (decide (i<i'))/\s'=s) (fun O O=>False) s:=by
  refine t8 (p6 F.slot_tuple_lt.plain F.entry_tuple_lt (check_slot (i := "tuple.__lt__") (owner := "tuple") (n := "__lt__") (by decide +kernel) (by decide +kernel) (tl.andThen (y5 X ok.sub)) (F.args_tuple_lt_2 _ _) ?_));rw[Jl];refine Zq ?_;unfold isInstance;refine Zq (tb.here (cN X ok.sub ?_));refine g8 rfl ?_;refine Zq (wpAny_tupleItemsOf ha rfl (Zq (wpAny_tupleItemsOf hb rfl ?_)));dsimp only[u7,List.zip_nil_right,List.forIn_cons,List.forIn_nil];refine Zq (Zq (Zq (wpAny_eqBool_int ?_)));by_cases q:i=i'
  ·refine aA (I3 q) fun O1 O2=>?_;subst O1;subst O2;subst q;simp only[beq_self_eq_true,Bool.not_true,c7,if_false];refine Zs ?_;dsimp only;refine Zq (Zq (wpAny_eqBool_int ?_));simp only[beq_self_eq_true,Bool.not_true,c7,if_false];refine Zs ?_;dsimp only;refine Zq (Zq (wpAny_eqBool_int ?_));simp only[beq_self_eq_true,Bool.not_true,c7,if_false];refine Zs ?_;dsimp only;refine Zs (Zs ⟨?_,rfl⟩);rw[decide_eq_false ⋯];rfl
  ·have hq:(i==i')=false:=beq_eq_false_iff_ne.mpr q;simp only[hq,Bool.not_false,if_true];refine Zq (l6 (Zq (PyProof.Rows.lt_int ?_)));exact Zq (Zs (Zs (Zs (Zs ⟨rfl,rfl⟩))))
 rw[oneLt'_eq];dsimp only[if_true];refine Zq (wpAny_cRoomFor hu ?_);dsimp only[callSpecialIfBound?,bindSpecialIfBound?];refine Zq (ZF (Zq ?_));unfold specialOf;refine Zq (Zq (tl.here (cN X ok.lt ?_)));dsimp only[F.slot_tuple_lt.bind];refine Zq (wpAny_askSetting (wpAny_ite ?_));split
 ·refine Zq (Zs (Zs ?_));refine Zq (e9 hc (fun v s' h'=>?_) fun O O h'=>h'.elim);refine aA h' fun O1 O2=>?_;clear h';subst O1;subst O2;exact Zs (wpAny_truthy_bool hQ)
 ·refine wpAny_tryCatch (Zq (Zs (Zs ?_)));refine Zq (e9 hc (fun v s' h'=>?_) fun O O h'=>h'.elim);refine aA h' fun O1 O2=>?_;clear h';subst O1;subst O2;exact Zs (wpAny_truthy_bool hQ)
end
end
section
open PySem PySem.W PyProof.Rows
section
variable{key:Keyed->Nat}
def ls(a:b0)(h h':Heap):Prop:=∀b o,b≠a->h.get? b=some o->h'.get? b=some o
theorem Km{h:Heap}{out:Array Value}:ls a h (sortedHeap h a vs out):=fun b o hb e=>by
 unfold sortedHeap;rw[Heap.get?_update_ne _ _ _ _ hb];refine ZC _ (ZC _ ?_);rw[Heap.get?_update_ne _ _ _ _ hb];exact e
theorem Qv{P:PySem.Fin->Zx->Prop}(ho:s.heap.get? a=some (seqObj "list" vs.toArray n))(hsz:vs.length<64)(hd:eI key (pairsOf vs))
  (hL:∀h',ls a s.heap h'->gz C0 w A E {s with heap:=h' } (pairsOf vs) key)
  (hK:∀h',ls a s.heap h'->2<=vs.length->∀Q:SortKind->Zx->Prop,Q oneType' { s with heap:=h' }->ZS (ZP C0 w) A (keyKind' vs.toArray) Q E {s with heap:=h' })
  (h:∀out:Array Keyed,out.Perm (pairsOf vs)->Up key out (pairsOf vs).size->P (.done (.ret .none)) {s with heap:=sortedHeap s.heap a vs (out.map (·.2))}) :
  ZS (ZP C0 w) A (Builtin.«list.sort» ⟨[.ref a],[]⟩) P E s:=by
 have G8:=e8 ho;have hps:(pairsOf vs).size=vs.length:=pairsOf_size vs;rw[list_sort_plain];refine Zq (listItems_at ho rfl (Zq (listUpdate_at ho rfl ?_ (by rw[List.size_toArray,j7];omega) (ZM _))));obtain⟨e,he⟩:∃e,(s.heap.update a (d9 fun O=>(#[]:Array Value))).get? a=some (seqObj "list" #[] e):=⟨_,get?_update_seq ho _⟩;refine Zq (seqEpoch_at he rfl (Zq (wpAny_newTuple (Zq (wpAny_newList (ZF ?_) (ZM _))) (by show vs.length<=_;rw[j7];omega))));have hk:ls a s.heap (((s.heap.update a (d9 fun O=>(#[]:Array Value))).push (seqObj "tuple" vs.toArray 0)).push (seqObj "list" #[] 0)):=fun b o hb q=>by
  refine ZC _ (ZC _ ?_);exact(Eq.symm (Heap.get?_update_ne _ _ _ _ hb))▸q
 have Œ:(((s.heap.update a (d9 fun O=>(#[]:Array Value))).push (seqObj "tuple" vs.toArray 0)).push (seqObj "list" #[] 0)).get? a=some (seqObj "list" #[] e):=ZC _ (ZC _ he);show ZS (ZP C0 w) A _ P E {s with heap:=((s.heap.update a (d9 fun O=>(#[]:Array Value))).push (seqObj "tuple" vs.toArray 0)).push (seqObj "list" #[] 0)};have fin:∀C4:SortSt,failedOf C4=none->(arrOf C4).Perm (pairsOf vs)->Up key (arrOf C4) (pairsOf vs).size ->
   ZS (ZP C0 w) A (do
    let Κ:=(← seqEpoch a) != e
    Builtin.List.listUpdate (.ref a) fun O=>(arrOf C4).map (·.2)
    if let some x:=failedOf C4 then rule "list.sort.comparison-raised";throw x
    if Κ then rule "list.sort.modified";raiseError "ValueError" "list modified during sort"
    ret .none) P E {s with heap:=((s.heap.update a (d9 fun O=>(#[]:Array Value))).push (seqObj "tuple" vs.toArray 0)).push (seqObj "list" #[] 0)}:=fun C4 hf hp hu=>by
  refine Zq (seqEpoch_at Œ rfl (Zq (listUpdate_at Œ rfl ?_ (ZM _) (by rw[Array.size_map,hp.size_eq,hps,j7];omega))));rw[hf];simp only[bne_self_eq_false,c7,if_false];exact Zs (h _ hp hu)
 dsimp only at fin ⊢;by_cases h2:vs.length<2
 ·have į:vs.toArray.size<2:=by exact(Eq.symm (List.size_toArray))▸h2
  rw[if_pos į,if_pos į];refine Zq (Zs ?_);rw[StateT.run_pure];exact Zq (Zs (fin (SortSt.mk' general' (pairsOf vs) #[] 7 none) rfl (Array.Perm.refl _) fun i j L8 hj=>by omega))
 ·have į : ¬ vs.toArray.size<2:=by exact(Eq.symm (List.size_toArray))▸h2
  rw[if_neg į,if_neg į];refine Zq (hK _ hk ⋯ _ ?_);refine Zq (e9 (IC (st:=SortSt.mk' oneType' (pairsOf vs) #[] 7 none) (Q:=fun O C4=>failedOf C4=none/\(arrOf C4).Perm (pairsOf vs)/\Up key (arrOf C4) (pairsOf vs).size)
   (hL _ hk) hd ⟨Array.Perm.refl _,rfl,rfl,rfl⟩ ⋯ ⋯ fun C4 a1 a2 a3=>⟨a2,a1,a3⟩) ?_ fun O O q=>q)
  intro Y1;obtain⟨⟨⟩,C4⟩:=Y1;intro s' Y3;refine tv Y3 fun ð hf hp hu=>?_;clear Y3;subst ð;exact fin C4 hf hp hu
end
theorem vC(vs:List Value):(pairsOf vs).toList=vs.map fun v=>(v,v):=by
 rw[pairsOf_toList];induction vs with
 |nil=>rfl
 |cons v vs ih=>rw[u7,ZD,ih]
theorem Vals.mem(h:Vals Z xs vs):∀v∈vs,∃x∈xs,Val Z x v :=
 h.ind (P:=fun xs vs=>∀v∈vs,∃x∈xs,Val Z x v) bC fun h O t v hv=>(Zy.mp hv).elim (fun e=>bB _ (Zr ..) (e▸h)) fun hv=>ae (t v hv) fun x hx q=>bB x (Zt _ hx) q
theorem Vals.mapcons{f:α->AV}{x:Value}{ts:List α}(h:Vals Z (ts.map f) (x::vs)):∃t ts',ts=t::ts'/\Val Z (f t) x/\Vals Z (ts'.map f) vs:=by
 cases ts with
 |nil=>exact nomatch h.inv
 |cons t ts=>exact bW h.inv fun y ys e h1 h2=>sX t ts rfl ((p5 e).1▸h1) ((p5 e).2▸h2)
theorem Vals.perm{f:α->AV}{us:List Value}(p:vs.Perm us):∀ {ts:List α},Vals Z (ts.map f) vs->∃rs:List α,rs.Perm ts/\Vals Z (rs.map f) us:=by
 induction p with
 |nil=>exact fun h=>bB _ (.refl _) h
 |cons x p ih=>exact fun h=>bW h.mapcons fun t ts e h1 h2=>ae (ih h2) fun rs pr hr=>bB (t::rs) (e▸pr.cons _) (.cons h1 hr)
 |swap x y l=>exact fun h=>bW h.mapcons fun t ts e h1 h2=>bW h2.mapcons fun r rs e' h3 h4=>bB (r::t::rs) (e▸e'▸.swap ..) (.cons h3 (.cons h1 h4))
 |trans p q ih1 ih2=>exact fun h=>ae (ih1 h) fun rs pr hr=>ae (ih2 hr) fun qs pq hq=>bB qs (pq.trans pr) hq
theorem Ta{ts:List ab}(hn:(ts.map (·.1)).Nodup):∀ {t r:ab},t∈ts->r∈ts->t.1=r.1->t=r:=by
 induction ts with
 |nil=>intro t r ht;cases ht
 |cons x xs ih =>
  intro t r ht hr e;rw[ZD,ZL] at hn;rcases Zy.mp ht with rfl |ht' <;> rcases Zy.mp hr with rfl |hr'
  ·rfl
  ·exact absurd (e▸ZO hr') hn.1
  ·exact absurd (e▸ZO ht') hn.1
  ·exact ih hn.2 ht' hr' e
noncomputable def dS(C:b0)(t:ab):AV:=.mat C [.int t.1,.int t.2.1,.int t.2.2]
noncomputable def eY(Z:D3)(p:Keyed):Nat:=match p.1 with
 |.ref x=>match Z x with
  |some o=>match o.data with
   |Data.seq items _=>match items[0]? with
    |some (Value.int i _)=>i.toNat
    |_=>0
   |_=>0
  |none=>0
 |_=>0
theorem Zj{α0:Sort _}{α1:Sort _}{α2:Sort _}{p0:α0->α1->α2->Prop}(h:∃a0 a1 a2,p0 a0 a1 a2)(c:∀a0 a1 a2,p0 a0 a1 a2->P):P:=h.elim fun a0 h=>h.elim fun a1 h=>h.elim fun a2 h=>c a0 a1 a2 h
theorem Vals.int3{i j k:Int}(vs:List Value)(h:Vals Z [.int i,.int j,.int k] vs):∃t1 t2 t3,vs=[.int i t1,.int j t2,.int k t3] :=
 Vals.un (P:=fun vs=>∃t1 t2 t3,vs=[.int i t1,.int j t2,.int k t3]) (Val.eInt fun t1=>Vals.un (Val.eInt fun t2=>Vals.un (Val.eInt fun t3=>Vals.un0 ⟨t1,t2,t3,rfl⟩))) vs h
theorem rV{t:ab}{v:Value}(h:Val Z (dS C t) v):∃a d n t1 t2 t3,v=.ref a/\Z a=some {cls:=.ref C,dict:=some d,data:=.seq #[.int t.1 t1,.int t.2.1 t2,.int t.2.2 t3] n} :=
 dq (sm h) fun a d items n qv e hv=>Zj (Vals.int3 items hv) fun t1 t2 t3 q=>⟨a,d,n,t1,t2,t3,qv,q▸e⟩
theorem yn{t:ab}{v u:Value}(h:Val Z (dS C t) v):eY Z (v,u)=t.1:=by
 refine tr (rV h) fun a d n t1 t2 t3 O7 e=>?_;subst O7;unfold eY;dsimp only;rw[e];rfl
theorem EX(rs:List ab):∀ul:List Value,Vals Z (rs.map (dS C)) ul->ul.map (fun v=>eY Z (v,v))=rs.map (·.1):=by
 induction rs with
 |nil=>exact fun ul h=>Vals.un0 (P:=fun ul=>ul.map (fun v=>eY Z (v,v))=[]) rfl ul h
 |cons r rs ih=>exact fun ul h=>Vals.un (P:=fun ul=>ul.map (fun v=>eY Z (v,v))=r.1::rs.map (·.1)) (fun x h1 ys h2=>congr (congrArg List.cons (yn h1)) (ih ys h2)) ul h
theorem vD{ts:List ab}{vl:List Value}(vs:Vals Z (ts.map (dS C)) vl){p:Keyed}(hp:p∈(pairsOf vl).toList):∃v t,p=(v,v)/\t∈ts/\Val Z (dS C t) v:=by
 rw[vC vl] at hp;exact ae (ZV.mp hp) fun v hv e=>ae (vs.mem v hv) fun x hx q=>ae (ZV.mp hx) fun t ht e'=>sX v t e.symm ht (e'▸q)
theorem Ob{ts:List ab}{vl:List Value}(vs:Vals Z (ts.map (dS C)) vl)(hn:(ts.map (·.1)).Nodup):eI (eY Z) (pairsOf vl):=by
 rw[Hi,vC,m4];exact EX ts vl vs▸hn
theorem Kn{ts us:List ab}{vl:List Value}{out:Array Keyed}(vs:Vals Z (ts.map (dS C)) vl)(hp:us.Perm ts)(hs:us.Pairwise fun s t=>s.1<t.1)(I4:out.Perm (pairsOf vl))(hup:Up (eY Z) out (pairsOf vl).size) :
  Vals Z (us.map (dS C)) (out.map (·.2)).toList:=by
 have hl:=t7.mp I4;have e1:(pairsOf vl).toList.map (·.2)=vl:=by rw[vC,m4];exact List.map_id vl
 have e2:(out.map (·.2)).toList=out.toList.map (·.2):=Array.toList_map;have e3:(out.toList.map (·.2)).map (fun v=>eY Z (v,v))=out.toList.map (eY Z):=by
  rw[m4];exact p9 fun p Ë=>bW (vD vs (hl.mem_iff.mp Ë)) fun v t e O O=>e▸rfl
 rw[e2];refine ae (Vals.perm (f:=dS C) (e1▸hl.map (fun p:Keyed=>p.2)).symm vs) fun rs pr hr=>?_;have hk:=(EX rs _ hr).symm.trans e3;have hr':rs.Pairwise fun s t=>s.1<t.1:=by
  refine(List.pairwise_map (f:=fun t:ab=>t.1) (R:=(· < ·))).mp (hk▸(List.pairwise_map (f:=eY Z) (R:=(· < ·))).mpr (List.pairwise_iff_getElem.mpr fun i j hi hj L8=>?_));have q:=hup i j L8 (I4.size_eq▸hj);unfold aR at q;rw[getElem?_pos out i hi,getElem?_pos out j hj] at q;exact q
 exact List.Perm.eq_of_pairwise (le:=fun s t:ab=>s.1<t.1) (fun a b O O h1 h2=>absurd h1 (Nat.lt_asymm h2)) hr' hs (pr.trans hp.symm)▸hr
section
variable{K:Frag}
theorem XG{ts us:List ab}{led led':aa}(ok:φ C0 w K C)(hA:D6 A (k+10))(hp:us.Perm ts)(hs:us.Pairwise fun s t=>s.1<t.1)(hsz:ts.length<64)
  (U:Upd a (.list (ts.map (dS C))) (.list (us.map (dS C))) led led') (h:R .none ⟨loc,led'⟩):FC C0 w A (am K) C1 (.blt "list.sort") [.ref a] [] ⟨loc,led⟩ R:=FC.b fun s Z S Q E hQ=>Vals.un <| Val.eRef <| Vals.un0 <| by
 refine bI (S.own _ U.mem) fun arr n g vs=>?_;dsimp only at g;have hn:(ts.map (·.1)).Nodup:=by
  have:(us.map (·.1)).Nodup:=by
   rw[List.nodup_iff_pairwise_ne,List.pairwise_map];exact hs.imp fun h=>j9 h
  exact(hp.map _).nodup_iff.mp this
 generalize Ń:arr.toList=vl at vs;have harr:arr=vl.toArray:=by rw[← Ń]
 subst harr;have hvl:vl.length=ts.length:=vs.length.trans (Zu _);have haZ:Z a=none:=S.apart _ U.mem;have I':∀h',ls a s.heap h'->∀b o,Z b=some o->h'.get? b=some o:=fun h' hk b o e=>hk b o (fun q=>by rw[q,haZ] at e;cases e) (S.frozen b o e);refine d6 slot_list_sort ⟨_,g,rfl⟩ entry_list_sort (Qv (key:=eY Z) g (hvl▸hsz) ?_ ?_ ?_ ?_) (args_list_sort _)
 ·exact Ob vs hn
 ·intro h' hk x hx y hy Q' st hkd hq;refine bW (vD vs hx) fun v t O3 ht hv=>?_;subst O3;refine bW (vD vs hy) fun u r O3 hr hu=>?_;subst O3;rw[yn hv,yn hu] at hq;refine tr (rV hv) fun a1 d1 n1 q1 q2 q3 O7 e1=>?_;subst O7;refine tr (rV hu) fun a2 d2 n2 p1 p2 p3 O7 e2=>?_;subst O7;rw[lt'_eq];refine wpS_bind (wpS_get ?_);dsimp only;rw[hkd,keyLt'_oneType];refine wpS_bind (wpS_lift (s9 (PL ok (dg S.base (I' h' hk)) ?_ (I' h' hk _ _ e1) (I' h' hk _ _ e2) (fun q=>?_) ⟨rfl,?_⟩)))
  ·have:=hA.u;show A.units+1<cLine;omega
  ·have:t=r:=Ta hn ht hr (Int.ofNat.inj q);subst this;exact⟨rfl,rfl⟩
  ·have e:decide ((t.1:Int)<(r.1:Int))=decide (t.1<r.1):=decide_eq_decide.mpr Int.ofNat_lt;exact(Eq.symm (e))▸wpS_pure hq
 ·intro h' hk h2 Q' hq;refine kas_kind (T:=.ref C) h2 (fun v hv=>?_) rfl (by simp) hq;exact ae (vs.mem v hv) fun x hx q=>ae (ZV.mp hx) fun t ht O3=>by
   subst O3;exact tr (rV q) fun a1 d1 n1 q1 q2 q3 O7 e1=>by subst O7;exact(Looks.ld (I' h' hk _ _ e1)).andThen .now
 ·intro out I4 hup;have hr:=Kn vs hp hs I4 hup;have K3:∃n',(sortedHeap s.heap a vl (out.map (·.2))).get? a=some {cls:=.type "list",data:=.seq (out.map (·.2)) n' }:=by
   obtain⟨e,he⟩:∃e,(s.heap.update a (d9 fun O=>(#[]:Array Value))).get? a=some (seqObj "list" #[] e):=⟨_,get?_update_seq g _⟩;exact⟨_,get?_update_seq (ZC _ (ZC _ he)) _⟩
  refine aw K3 ?_;clear K3;intro n' K3;have hkp:ls a s.heap (sortedHeap s.heap a vl (out.map (·.2))):=Km;generalize sortedHeap s.heap a vl (out.map (·.2))=h' at K3 hkp ⊢;generalize out.map (·.2)=ov at K3 hr;have hh:Holds Z {s with heap:=h',toks:=s.toks} a (.list (us.map (dS C))):=⟨ov,n',K3,hr⟩;have P:=S.toC7.upd U (h':=h') (tk:=s.toks) hkp rfl rfl hh;exact bB _ rfl (hQ .none .none _ Z ⟨loc,led'⟩ h (S.after P.1 P.2) .none P.2.toF)
end
end
noncomputable abbrev ck(t:ab):AV:=dS 135 t
theorem PN(w:ZQ):φ af w (KB w.params) 135:=⟨@_,@_⟩
theorem XF{ts us:List ab}{led led':aa}(hA:D6 A (k+10))(hp:us.Perm ts)(hs:us.Pairwise fun s t=>s.1<t.1)(hsz:ts.length<64)
  (U:Upd a (.list (ts.map ck)) (.list (us.map ck)) led led') (h:K .none ⟨loc,led'⟩):FC af w A (ak w) C1 (.blt "list.sort") [.ref a] [] ⟨loc,led⟩ K:=XG (PN w) hA hp hs hsz U h
section
noncomputable abbrev ip(q:cZ):AV:=.tup [.int (q.1:Nat),.int (q.2.1:Nat),.int (q.2.2.1:Nat),.int (q.2.2.2:Nat)]
noncomputable abbrev fU(t:ab):AV:=.mat 135 [.int (t.1:Nat),.int (t.2.1:Nat),.int (t.2.2:Nat)]
noncomputable abbrev tX(t:ab):AV:=.tup [.int (t.1:Nat),.int (t.2.1:Nat),.int (t.2.2:Nat)]
structure y_ (fl:Nat->Nat->Nat->Nat->ab) (la lb:Nat) (xs ws:List AV) (n:Nat):Prop where
 run:∃(ms:List ab) (qs:List cZ),xs=ms.map fU/\ws=qs.map ip/\eo qs<=n/\n<=2 * la+1/\(∀q∈qs,zt la lb q)/\(ms++qs.flatMap (aY fl)).Perm (aY fl (0,la,0,lb))
structure σ (fl:Nat->Nat->Nat->Nat->ab) (la lb:Nat) (xs ws:List AV) (q:cZ) (n:Nat):Prop where
 w:zt la lb q
 run:∃(ms:List ab) (qs:List cZ),xs=ms.map fU/\ws=qs.map ip/\eo qs+(2 * (q.2.1-q.1)+1)<=n/\n<=2 * la+1/\(∀q∈qs,zt la lb q)/\((ms++qs.flatMap (aY fl))++aY fl q).Perm (aY fl (0,la,0,lb))
variable{fl:Nat->Nat->Nat->Nat->ab}{la lb n:Nat}{xs ws:List AV}{q:cZ}
theorem y_.start:y_ fl la lb [] [.tup [.int 0,.int la,.int 0,.int lb]] (2 * la+1) :=
 ⟨[],[(0,la,0,lb)],rfl,rfl,ZZ _,ZZ _,fun q hq=>by rw[ZK.mp hq];exact⟨ZM _,ZZ _,ZM _,ZZ _⟩,by rw[List.flatMap_cons,List.flatMap_nil,g7];exact List.Perm.refl _⟩
theorem y_.room(h:y_ fl la lb xs ws n):ws.length<=2 * la+1:=by
 refine Ir h.run fun ms qs O3 O4 h1 h2 O7=>?_;clear O3;subst O4;clear O7;rw[Zu];exact d7 (BO qs) (d7 h1 h2)
theorem y_.pop(h:y_ fl la lb xs ws n)(c:(!ws.isEmpty)=true):∃Õ q,ws=Õ++[ip q]/\σ fl la lb xs Õ q n:=by
 refine lz h.run fun ms qs O3 O4 h1 h2 h3 h4=>?_;subst O3;subst O4;rcases B5 qs with rfl |⟨qs',q,rfl⟩
 ·cases c
 rw[B6] at *;rw[LY] at h1;refine⟨qs'.map ip,q,by rw[ZT];rfl,h3 q (ZY _ (List.mem_singleton_self _)),ms,qs',rfl,rfl,h1,h2,fun q hq=>h3 q (f8 _ hq),?_⟩;rw[List.flatMap_append,← ZW,List.flatMap_cons,List.flatMap_nil,g7] at h4;exact h4
theorem y_.done(h:y_ fl la lb xs ws n)(c:(!ws.isEmpty)=false):ws=[]/\∃ms:List ab,xs=ms.map fU/\(aY fl (0,la,0,lb)).Perm ms:=by
 refine lz h.run fun ms qs O3 O4 O5 O6 O7 h4=>?_;subst O3;subst O4;clear O5;clear O6;clear O7;cases qs with
 |nil=>rw[List.flatMap_nil,g7] at h4;exact⟨rfl,ms,rfl,h4.symm⟩
 |cons q qs=>cases c
theorem σ.room(ok:cw fl)(h:σ fl la lb xs ws q n):ws.length<=2 * la/\xs.length<=la:=by
 refine lz h.run fun ms qs O3 O4 h1 h2 O7 h4=>?_;subst O3;subst O4;clear O7;have e:=h4.length_eq;have f:(cH fl (la-0) 0 la 0 lb).length<=la-0:=Ez ok (la-0) 0 la 0 lb (ZM _) (ZM _);have g:=BO qs;rw[ZA,ZA] at e;rw[Zu,Zu];exact⟨Nat.le_of_succ_le_succ (d7 (Nat.succ_le_succ (d7 g (Nat.le_add_right _ _))) (d7 h1 h2)),d7 (d7 (Nat.le_add_right _ _) (Nat.le_add_right _ _)) (d7 (Nat.le_of_eq e) f)⟩
theorem EG{a b:Nat}(h:a+(b+1)<=n):n-1<n:=Nat.sub_one_lt (Nat.ne_of_gt (Nat.lt_of_lt_of_le (Nat.succ_pos _) h))
theorem QE{a b:Nat}(h:a+(b+1)<=n):a<=n-1:=Nat.le_sub_one_of_lt (Nat.lt_of_le_of_lt (Nat.le_add_right _ b) h)
theorem σ.zero(h:σ fl la lb xs ws q n)(c:(((fl q.1 q.2.1 q.2.2.1 q.2.2.2).2.2:Nat):Int)=0):n-1<n/\y_ fl la lb xs ws (n-1):=by
 refine lz h.run fun ms qs O3 O4 h1 h2 h3 h4=>?_;subst O3;subst O4;rw[Eu (Int.ofNat_eq_zero.mp c),g7] at h4;exact⟨EG h1,ms,qs,rfl,rfl,QE h1,d7 (Nat.sub_le ..) h2,h3,h4⟩
noncomputable def fu(q:cZ)(r:ab):List AV:=if q.1<r.1/\q.2.2.1<r.2.1 then [ip (q.1,r.1,q.2.2.1,r.2.1)] else []
noncomputable def jC(q:cZ)(r:ab):List AV:=if r.1+r.2.2<q.2.1/\r.2.1+r.2.2<q.2.2.2 then [ip (r.1+r.2.2,q.2.1,r.2.1+r.2.2,q.2.2.2)] else []
variable{r:ab}
theorem IV(c1:(q.1:Int)<r.1)(c2:(q.2.2.1:Int)<r.2.1):fu q r=[ip (q.1,r.1,q.2.2.1,r.2.1)]:=if_pos ⟨Int.ofNat_lt.mp c1,Int.ofNat_lt.mp c2⟩
theorem IX(c1 : ¬ (q.1:Int)<r.1):fu q r=[]:=if_neg fun h=>c1 (Int.ofNat_lt.mpr h.1)
theorem IW(c1 : ¬ (q.2.2.1:Int)<r.2.1):fu q r=[]:=if_neg fun h=>c1 (Int.ofNat_lt.mpr h.2)
theorem IS(c1:((r.1:Nat):Int)+(r.2.2:Nat)<(q.2.1:Nat))(c2:((r.2.1:Nat):Int)+(r.2.2:Nat)<(q.2.2.2:Nat)):jC q r=[.tup [.int ((r.1:Nat)+(r.2.2:Nat)),.int (q.2.1:Nat),.int ((r.2.1:Nat)+(r.2.2:Nat)),.int (q.2.2.2:Nat)]] :=
 if_pos ⟨Int.ofNat_lt.mp c1,Int.ofNat_lt.mp c2⟩
theorem IU(c1 : ¬ ((r.1:Nat):Int)+(r.2.2:Nat)<(q.2.1:Nat)):jC q r=[]:=if_neg fun h=>c1 (Int.ofNat_lt.mpr h.1)
theorem IT(c1 : ¬ ((r.2.1:Nat):Int)+(r.2.2:Nat)<(q.2.2.2:Nat)):jC q r=[]:=if_neg fun h=>c1 (Int.ofNat_lt.mpr h.2)
theorem IY:(fu q r).length<=1:=by unfold fu;split <;> exact j5 rfl
theorem Fg{c:Prop}[Decidable c](f:α->β)(x:α):(if c then [x] else []).map f=if c then [f x] else []:=by split <;> rfl
theorem BP{c:Prop}[Decidable c](q:cZ):eo (if c then [q] else [])<=2 * (q.2.1-q.1)+1:=by
 split
 ·exact ZZ _
 ·exact ZM _
theorem KF{S X Y a b:Nat}(h:S+(2 * (b-a)+1)<=n)(hx:X<=2 * (c-a)+1)(hy:Y<=2 * (b-(c+k))+1)(h1:a<=c)(h2:c+k<=b)(hk:k≠0):S+X+Y<=n-1:=by
 obtain⟨d,rfl⟩:=Nat.le.dest h1;obtain⟨e,rfl⟩:=Nat.le.dest h2;rw[Nat.add_sub_cancel_left] at hx hy;rw[Nat.add_assoc,Nat.add_assoc,Nat.add_sub_cancel_left] at h;refine Nat.le_sub_one_of_lt (Nat.lt_of_le_of_lt ?_ h);rw[Nat.add_assoc];refine Nat.add_le_add_left (d7 (Nat.add_le_add hx hy) ?_) S;rw[Nat.add_add_add_comm,← Nat.mul_add];exact Nat.mul_le_mul_left 2 (Nat.add_le_add_left (Nat.add_comm k e▸Nat.add_le_add_left (Nat.pos_of_ne_zero hk) e) d)
theorem σ.go(ok:cw fl)(h:σ fl la lb xs ws q n)(c:(((fl q.1 q.2.1 q.2.2.1 q.2.2.2).2.2:Nat):Int)≠0) :
  n-1<n/\y_ fl la lb (xs++[fU (fl q.1 q.2.1 q.2.2.1 q.2.2.2)]) (ws++fu q (fl q.1 q.2.1 q.2.2.1 q.2.2.2)++jC q (fl q.1 q.2.1 q.2.2.1 q.2.2.2)) (n-1):=by
 have hk:(fl q.1 q.2.1 q.2.2.1 q.2.2.2).2.2≠0:=fun e=>c (by rw[e];rfl);refine tv h.w fun w1 w2 w3 w4=>?_;refine tv (ok q.1 q.2.1 q.2.2.1 q.2.2.2 w1 w3) fun b1 b2 b3 b4=>?_;have hs:=Ev (fl:=fl) ok w1 w3 hk;refine lz h.run fun ms qs O3 O4 h1 h2 h3 h4=>?_;subst O3;subst O4;rw[hs] at h4;clear hs;generalize fl q.1 q.2.1 q.2.2.1 q.2.2.2=r at *;refine⟨EG h1,ms++[r],(qs++if q.1<r.1/\q.2.2.1<r.2.1 then [(q.1,r.1,q.2.2.1,r.2.1)] else [])++(if r.1+r.2.2<q.2.1/\r.2.1+r.2.2<q.2.2.2 then [(r.1+r.2.2,q.2.1,r.2.1+r.2.2,q.2.2.2)] else []),?_,?_,?_,d7 (Nat.sub_le ..) h2,?_,?_⟩
 ·rw[ZT];rfl
 ·rw[ZT,ZT,Fg,Fg];rfl
 ·rw[BQ,BQ];have e1:=BP (c:=q.1<r.1/\q.2.2.1<r.2.1) (q.1,r.1,q.2.2.1,r.2.1);have e2:=BP (c:=r.1+r.2.2<q.2.1/\r.2.1+r.2.2<q.2.2.2) (r.1+r.2.2,q.2.1,r.2.1+r.2.2,q.2.2.2);exact KF h1 e1 e2 b1 b2 hk
 ·intro x hx;rcases d8.mp hx with hx |hx
  ·rcases d8.mp hx with hx |hx
   ·exact h3 x hx
   ·split at hx
    ·rw[ZK.mp hx];exact⟨b1,d7 (d7 (Nat.le_add_right _ _) b2) w2,b3,d7 (d7 (Nat.le_add_right _ _) b4) w4⟩
    ·cases hx
  ·split at hx
   ·rw[ZK.mp hx];exact⟨b2,w2,b4,w4⟩
   ·cases hx
 ·rw[List.flatMap_append,List.flatMap_append,Ge,Ge];exact NW h4
theorem σ.goR(ok:cw fl)(h:σ fl la lb xs ws q n)(e:fl q.1 q.2.1 q.2.2.1 q.2.2.2=r)(c:((r.2.2:Nat):Int)≠0):n-1<n/\y_ fl la lb (xs++[fU r]) (ws++fu q r++jC q r) (n-1):=by
 subst e;exact h.go ok c
theorem σ.zeroR(h:σ fl la lb xs ws q n)(e:fl q.1 q.2.1 q.2.2.1 q.2.2.2=r)(c:((r.2.2:Nat):Int)=0):n-1<n/\y_ fl la lb xs ws (n-1):=by
 subst e;exact h.zero c
structure R9 (us ts:List ab) (s:ab×List ab) (i j k:Int) (xs:List AV):Prop where
 e1:i=s.1.1
 e2:j=s.1.2.1
 e3:k=s.1.2.2
 e4:xs=s.2.map tX
 fold:ts.foldl cD s=us.foldl cD ((0,0,0),[])
 len:s.2.length+ts.length<=us.length
variable{us ts:List ab}{s:ab×List ab}{i j k:Int}{t:ab}
theorem R9.start:R9 us us ((0,0,0),[]) 0 0 0 []:=⟨rfl,rfl,rfl,rfl,rfl,Nat.le_of_eq (Nat.zero_add _)⟩
theorem R9.room(h:R9 us ts s i j k xs):xs.length<=us.length:=by
 rw[h.e4,Zu];exact d7 (Nat.le_add_right _ _) h.len
theorem R9.step(h:R9 us (t::ts) s i j k xs):(cD s t).2.length+ts.length<=us.length :=
 d7 (Nat.add_le_add_right (zp s t) _) (d7 (Nat.le_of_eq (Nat.succ_add_eq_add_succ ..)) h.len)
theorem R9.join(h:R9 us (t::ts) s i j k xs)(c1:i+k=(t.1:Nat))(c2:j+k=(t.2.1:Nat)):R9 us ts (cD s t) i j (k+(t.2.2:Nat)) xs:=by
 have e:cD s t=((s.1.1,s.1.2.1,s.1.2.2+t.2.2),s.2):=if_pos ⟨Int.ofNat_inj.mp (by rw[Int.natCast_add,← h.e1,← h.e3];exact c1),Int.ofNat_inj.mp (by rw[Int.natCast_add,← h.e2,← h.e3];exact c2)⟩;refine⟨?_,?_,?_,?_,h.fold,h.step⟩
 ·rw[e];exact h.e1
 ·rw[e];exact h.e2
 ·rw[e,h.e3];rfl
 ·rw[e];exact h.e4
structure L_ (s:ab×List ab) (ys:List AV):Prop where
 e:ys=(fm s).map tX
theorem R9.put(h:R9 us ts s i j k xs)(c:k≠0):L_ s (xs++[.tup [.int i,.int j,.int k]]):=by
 have e:fm s=s.2++[s.1]:=if_neg fun q=>c (by rw[h.e3,q];rfl);exact⟨by rw[e,ZT,h.e1,h.e2,h.e3,h.e4];rfl⟩
theorem R9.skip(h:R9 us ts s i j k xs)(c:k=0):L_ s xs:=by
 have e:fm s=s.2:=if_pos (Int.ofNat_eq_zero.mp (h.e3▸c));exact⟨by rw[e,h.e4]⟩
theorem R9.roomM(h:R9 us ts s i j k xs)(m:L_ s ys):ys.length<=us.length+1:=by
 have:=h.len;rw[m.e,Zu];unfold fm;split
 ·omega
 ·rw[ZA,r8];omega
theorem GW{fl:Nat->Nat->Nat->Nat->ab}(la lb:Nat):(aQ fl la lb).length<=(aY fl (0,la,0,lb)).length+2:=by
 have h2:∀(ts:List ab) (s:ab×List ab),(ts.foldl cD s).2.length<=s.2.length+ts.length:=by
  intro ts;induction ts with
  |nil=>intro s;exact ZZ _
  |cons t ts ih =>
   intro s;have h1:=ih (cD s t);have h3:=zp s t;rw[g6,Zz];omega
 have h2:=h2 (aY fl (0,la,0,lb)) ((0,0,0),[]);unfold aQ fm;rw[ZA];simp only[ZR,Zz] at h2 ⊢;split
 ·omega
 ·rw[ZA,r8];omega
theorem R9.new(h:R9 us (t::ts) s i j k xs)(c : ¬ (i+k=(t.1:Nat)/\j+k=(t.2.1:Nat)))(m:L_ s ys):R9 us ts (cD s t) (t.1:Nat) (t.2.1:Nat) (t.2.2:Nat) ys:=by
 have e:cD s t=(t,fm s):=if_neg fun q=>c ⟨by rw[h.e1,h.e3,← q.1];rfl,by rw[h.e2,h.e3,← q.2];rfl⟩;refine⟨?_,?_,?_,?_,h.fold,h.step⟩
 ·rw[e]
 ·rw[e]
 ·rw[e]
 ·rw[e];exact m.e
theorem R9.last(h:R9 (aY fl (0,la,0,lb)) [] s i j k xs)(m:L_ s ys):ys++[.tup [.int la,.int lb,.int 0]]=(aQ fl la lb).map tX:=by
 have f:s=_:=h.fold;rw[m.e,f];unfold aQ;rw[ZT];rfl
end
noncomputable def Az(t:ab):AV:=.tup [.int t.1,.int t.2.1,.int t.2.2]
noncomputable abbrev bN(w:ZQ)(d dj jk pp:b0)(a b:List Str)(mm:List (Str×AV))(vm vo:AV)(led:aa):aa:=(d,bh (ji a b dj jk pp vm vo))::(dj,au (a8 af w) mm)::(jk,cn)::led
noncomputable abbrev aM(a b:List Str):Nat->Nat->Nat->Nat->ab:=bZ (ay a b) (aO a b)
noncomputable abbrev sb(d:b0)(v1 v2 v3 v4 v5 v6 v7 v8 v9 Q8 Q7 lb la qu mb i1 j1 k1 na:AV:=.any):List (Str×AV) :=
 [(q6,.inst 242 d),(uI,v1),(uH,v2),(uG,v3),(uF,v4),(lX,v5),(pH,v6),(q1,v7),(vy,v8),(mc,v9),(lZ,Q8),(CH,Q7),(CL,lb),(CM,la),(CK,qu),(uK,mb),(mf,i1),(me,j1),(CJ,k1),(CI,na)]
section
variable(d qa ma:b0)(la lb:Nat)(rest:aa)(fl:Nat->Nat->Nat->Nat->ab)
noncomputable abbrev nS(v1 v2 v3 v4 v5 v6 v7 v8:AV:=.any):List (Str×AV):=sb d v1 v2 v3 v4 v5 v6 v7 v8 .any .any .any (.int lb) (.int la) (.ref qa) (.ref ma)
def JQ(n:Nat)(P:St->Prop):Prop:=∀xs ws,y_ fl la lb xs ws n->P ⟨nS d qa ma la lb,(ma,.list xs)::(qa,.list ws)::rest⟩
def KQ(P:St->Prop):Prop:=∀ms,(aY fl (0,la,0,lb)).Perm ms->P ⟨nS d qa ma la lb,(ma,.list (ms.map ck))::(qa,.list [])::rest⟩
variable{d qa ma la lb rest fl}
theorem KQ.of{ws:List AV}(h:y_ fl la lb xs ws n)(c:(!ws.isEmpty)=false):Nx (KQ d qa ma la lb rest fl) .next ⟨nS d qa ma la lb,(ma,.list xs)::(qa,.list ws)::rest⟩:=by
 obtain⟨rfl,ms,rfl,p⟩:=h.done c;exact .mk (fun O y=>y _ p) @_
end
section
variable(d qa na:b0)(la lb:Nat)(us:List ab)(rest:aa)
noncomputable abbrev yg(v9 Q8 Q7:AV)(i j k:Int):List (Str×AV):=sb d .any .any .any .any .any .any .any .any v9 Q8 Q7 (.int lb) (.int la) (.ref qa) (.lst (us.map ck)) (.int i) (.int j) (.int k) (.ref na)
def JA(ts:List ab)(P:St->Prop):Prop:=∀s i j k xs,R9 us ts s i j k xs->P ⟨yg d qa na la lb us .any .any .any i j k,(na,.list xs)::rest⟩
def HW(v9 Q8 Q7:AV)(i j k:Int)(s:ab×List ab)(P:St->Prop):Prop:=∀ys,L_ s ys->P ⟨yg d qa na la lb us v9 Q8 Q7 i j k,(na,.list ys)::rest⟩
end
def KW(loc:List (Str×AV))(led:D9->aa)(E:List AV)(P:St->Prop):Prop:=P ⟨loc,led (.list E)⟩
theorem KW.mk{led:D9->aa}{G0:aa}{E ws:List AV}(e:ws=E)(h:fg D8 loc=loc)(h2:G0=led (.list ws)):Nx (KW loc led E) .next ⟨D8,G0⟩:=h2▸.ld (C4:=⟨loc,led (.list ws)⟩) (fun O y=>e▸y) h
theorem Vu{dj jk pp:b0}{vo:AV}{a b:List Str}{mm:List (Str×AV)}{led:aa}(hA:D6 A 80)(ha:a.length<10^5)(hb:b.length<10^5)(L7:(aY (aM a b) (0,a.length,0,b.length)).length<64)
  (L4:(dj==p8)=false) (W_:∀k,(aP mm k).getD (.lst [])=.lst (cX (bq b k))) :
  TC af w A (ak w) (.ref 203) [.inst 242 d] [] (bN w d dj jk pp a b mm .none vo led) fun v led' =>
   v=.lst ((aQ (aM a b) a.length b.length).map ck)/\led'=bN w d dj jk pp a b mm (.lst ((aQ (aM a b) a.length b.length).map ck)) vo led:=by
 refine TC.weak (dD (sb d) (bA w) hA.lt (fun O=>@_) @_ @_ (TB _) fun L hL=>?_);have D0:=hA.deeper (k:=77) (C1:=bf (ap (iV w.params)) L 203 202);have hh:=D0.h;have hG:=(((((((gk w (A.deeper _) (ap (iV w.params)) L 203 202 @_ @_ hh).g (gY w) @_ @_).g (sp w) @_ @_).g (SI w) @_ @_).g (FQ w) @_ @_).m ⟨Mg,1, "list.append"⟩ F.plainAttrs_list jH F.type_list_append).m ⟨Ml,1, "list.pop"⟩ F.plainAttrs_list Kx F.type_list_pop).m ⟨ND,1, "list.sort"⟩ F.plainAttrs_list Kv F.type_list_sort;have Ő:=dH (ay a b) (aO a b);refine aB (aF hG 20 ?_);refine aB (aF hG 20 (C6.mk (dJ (bd _) @_ (Zr ..) (v:=.none) @_ rfl ?_)));refine aB (aF hG 20 (C6.mk (dJ (bd _) @_ (Zr ..) (v:=.lst (a.map .str)) @_ rfl (C6.mk (gB .frz (by rw[Zu];omega) (C6.mk (dJ (bd _) @_ (Zr ..) (v:=.lst (b.map .str)) @_ rfl (C6.mk (gB .frz (by rw[Zu];omega) ?_)))))))));rw[Zu,Zu];refine aB (ie (jq (bP hG 20 ⟨(by decide:1<=c9),fun qa hqa=>bp rfl ?_⟩)) @_);refine aB (aF hG 20 (C6.mk (cR rfl fun ma hma=>?_)));refine aB (T.join (KQ d qa ma a.length b.length (bN w d dj jk pp a b mm .none vo led) (aM a b)) (lp (JQ d qa ma a.length b.length (bN w d dj jk pp a b mm .none vo led) (aM a b)) (fun n xs ws h=>?_) (.mk (fun O y=>y _ _ y_.start) @_)) fun ms h=>?_)
 ·refine cb hG 20 (C6.mk (oP (.own (Zt _ (Zr ..))) (Nat.lt_of_le_of_lt h.room ⋯) (yr (fun c=>?_) fun c=>KQ.of h c)));refine(h.pop c).elim fun Õ hp=>hp.elim fun q p=>?_;have hr:=p.2.room Ő;have hw:=p.2.w;refine aB (ec rfl rfl rfl (ad hG 20 ⟨bz (Zt _ (Zr ..)),C6.mk (XR p.1 (.there .here) (by rw[j7];omega) (dK (by assumption) @_ @_ @_ (cY _ rfl _ _ rfl rfl ?_)))⟩));refine aB (fQ rfl rfl rfl (ik (name:=jM) (C:=242) (f:=196) @_ @_ @_ (bd _) @_ @_ (ad hG 20 (.mk (Zt _ (Zt _ (Zr ..))) @_ (ds @_ (bS @_) (bP hG 20 ?_))))));refine XN (I1:=bN w d dj jk pp a b mm .none vo ((ma,.list xs)::(qa,.list Õ)::led)) (List.perm_append_comm_assoc [_,_] [_,_,_] _) (TS (D0.mono ⋯) ⋯ ⋯ hw.1 hw.2.1 hw.2.2.1 hw.2.2.2 L4 W_) fun v hv=>?_;rw[hv];clear hv v;generalize ņ:bZ (ay a b) (aO a b) q.1 q.2.1 q.2.2.1 q.2.2.2=r;refine zX (by assumption) (yd _) @_ @_ @_ (cY _ rfl _ _ rfl rfl (cx (bp rfl ?_)));refine aB (ic (cb hG 20 (yr (fun c=>?_) fun c=>cu (cu ⟨_,(p.2.zeroR ņ (bne_eq_false_iff_eq.mp c)).1,.mk (fun O y=>y _ _ (p.2.zeroR ņ (bne_eq_false_iff_eq.mp c)).2) @_⟩))));have hk:=bne_iff_ne.mp c;refine aB (aF hG 20 ⟨bz (Zr ..),C6.mk (dn .here (by rw[j7];omega) ?_)⟩);refine aB (T.join (KW (nS d qa ma a.length b.length (.int q.1) (.int q.2.1) (.int q.2.2.1) (.int q.2.2.2) (.int r.1) (.int r.2.1) (.int r.2.2) (fU r)) (fun o=>(ma,.list (xs++[fU r]))::(qa,o)::bN w d dj jk pp a b mm .none vo led) (Õ++fu q r)) (aF hG 20 (bL (fun c1=>bL (fun c2=>⟨bz (Zt _ (Zr ..)),C6.mk (dn (.there .here) (by rw[j7];omega) (KW.mk (by rw[IV c1 c2]) @_ rfl))⟩) fun c2=>kj (KW.mk (by rw[IW c2,g7]) @_ rfl)) fun c1=>kj (KW.mk (by rw[IX c1,g7]) @_ rfl))) ?_);have o_:(Õ++fu q r).length<=2 * a.length+1:=by have:=IY (q:=q) (r:=r);rw[ZA];omega
  refine aB (T.join (KW (nS d qa ma a.length b.length (.int q.1) (.int q.2.1) (.int q.2.2.1) (.int q.2.2.2) (.int r.1) (.int r.2.1) (.int r.2.2) (fU r)) (fun o=>(ma,.list (xs++[fU r]))::(qa,o)::bN w d dj jk pp a b mm .none vo led) (Õ++fu q r++jC q r)) (aF hG 20 (bL (fun c1=>bL (fun c2=>⟨bz (Zt _ (Zr ..)),C6.mk (dn (.there .here) (by rw[j7];omega) (KW.mk (by rw[IS c1 c2]) @_ rfl))⟩) fun c2=>kj (KW.mk (by rw[IT c2,g7]) @_ rfl)) fun c1=>kj (KW.mk (by rw[IU c1,g7]) @_ rfl))) ?_);exact cu (cu ⟨_,(p.2.goR Ő ņ hk).1,.mk (fun O y=>y _ _ (p.2.goR Ő ņ hk).2) @_⟩)
 ·have hus:=PE Ő (q:=(0,a.length,0,b.length)) (ZM _) (ZM _);refine aB (aF hG 20 ⟨bz (Zr ..),C6.mk (XF (k:=20) (ts:=ms) (us:=aY (aM a b) (0,a.length,0,b.length)) (D0.mono ⋯) h hus (h.length_eq▸L7) .here ?_)⟩);refine aB (Wx rfl rfl rfl (ad hG 20 (cx (bp rfl (cx (bp rfl (cx (bp rfl ?_))))))));refine aB (aF hG 20 (C6.mk (cR rfl fun na hna=>?_)));refine T.perm (o5 _ _ _) (T.freeze (D8:=yg d qa na a.length b.length (aY (aM a b) (0,a.length,0,b.length)) .any .any .any 0 0 0) (by repeat constructor) ?_);refine aB (oD (k:=5) ck (JA d qa na a.length b.length (aY (aM a b) (0,a.length,0,b.length)) ((qa,.list [])::bN w d dj jk pp a b mm .none vo led)) (D0.mono ⋯) (ad hG 20 (eH (k:=5) fun it gl hI => .mk hI (.mk (fun O y=>y _ _ _ _ _ R9.start) @_))) ?_ ?_ fun O=>@_)
  ·intro gl t ts s i j k xs h;have hr:=h.room;refine zX (by assumption) (yd _) @_ @_ @_ (cY _ rfl _ _ rfl rfl ?_);refine aB (ic (T.bool (p:=i+k=(t.1:Nat)/\j+k=(t.2.1:Nat)) (cb hG 20 (mh (fun c1=>mh (fun c2=>⟨rfl,iff_of_true rfl ⟨c1,c2⟩⟩) fun c2=>⟨rfl,iff_of_false d3 fun q=>c2 q.2⟩) fun c1=>⟨rfl,iff_of_false d3 fun q=>c1 q.1⟩)) (fun c=>?_) fun c=>?_))
   ·exact aB (aF hG 20 (cu (cu (.next (l:=(na,.list xs)::(qa,.list [])::bN w d dj jk pp a b mm .none vo led) (.mk (fun O y=>y _ _ _ _ _ (h.join c.1 c.2)) @_)))))
   ·refine aB (T.join (HW d qa na a.length b.length (aY (aM a b) (0,a.length,0,b.length)) (((qa,.list [])::bN w d dj jk pp a b mm .none vo led)++gl) (.int (t.1:Nat)) (.int (t.2.1:Nat)) (.int (t.2.2:Nat)) i j k s) (aF hG 20 (pO (fun c=>⟨bz (Zr ..),C6.mk (dn .here (by rw[j7];omega) (.mk (fun O y=>y _ (h.put c)) @_))⟩) fun c => .mk (fun O y=>y _ (h.skip c)) @_)) fun ys m=>?_);refine aB (aF hG 20 ?_);exact cu (cu (.next (l:=(na,.list ys)::(qa,.list [])::bN w d dj jk pp a b mm .none vo led) (.mk (fun O y=>y _ _ _ _ _ (h.new c m)) @_)))
  ·intro s i j k xs h;have hr:=h.room;refine aB (T.join (HW d qa na a.length b.length (aY (aM a b) (0,a.length,0,b.length)) ((qa,.list [])::bN w d dj jk pp a b mm .none vo led) .any .any .any i j k s) (aF hG 20 (pO (fun c=>⟨bz (Zr ..),C6.mk (dn .here (by rw[j7];omega) (.mk (fun O y=>y _ (h.put c)) @_))⟩) fun c => .mk (fun O y=>y _ (h.skip c)) @_)) fun ys m=>?_);have Β:=h.roomM m;refine aB (aF hG 20 ⟨bz (Zr ..),C6.mk (Yk (h.last m) .here (by rw[j7];omega) ?_)⟩);have T9:=GW (fl:=aM a b) a.length b.length;generalize aQ (aM a b) a.length b.length=bs at *;refine T.freeze (D8:=sb d .any .any .any .any .any .any .any .any .any .any .any (.int b.length) (.int a.length) (.ref qa) (.lst ((aY (aM a b) (0,a.length,0,b.length)).map ck)) (.int i) (.int j) (.int k) (.lst (bs.map Az))) (by repeat constructor) ?_;refine aB (ec rfl rfl rfl (ad hG 20 (C6.mk (YY (f:=89) @_ (Uc _) (Sj _) fun q=>C6.mk (XT fun m it=>C6.mk ?_)))));refine Ia (k:=31) (T' := "map") (items:=bs.map ck) (gl:=fZ m it (.ref q) (bs.map Az) 0 [(q,.raw (methodObj (.ref 89) (.ref 135)))]) (led:=(qa,.list [])::bN w d dj jk pp a b mm .none vo led) (N:=[]) (D0.mono ⋯) .nil
    (D5.map (N:=[]) (k:=30) (ys:=bs.map ck) (by rw[Zu,Zu]) (fun i x y hx hy A' w_ led' O=>?_) bs.length 0 (by rw[Zu,Nat.zero_add])) (by rw[Zu,j7];omega) (fun s Z S=>?_) (by decide) (by decide) (fun A s Z S Q E h=>PU S h) PV PW ?_
   ·rw[d4] at hx hy;refine ae (k0.mp hx) fun t ht O3=>?_;subst O3;refine ae (k0.mp hy) fun t' ht' O3=>?_;subst O3;rw[ht] at ht';cases ht'
    exact WO (by repeat constructor) (Qa (w_.mono ⋯))
   ·exact PZ S
   ·refine dp (ad hG 20 (ef (m':=ji a b dj jk pp (.lst (bs.map ck)) vo) (bd _) @_ (.there .here) rfl (j5 rfl) ?_));refine bx hG 20 (C6.mk (dJ (bd _) @_ (Zt _ (Zr ..)) (v:=.lst (bs.map ck)) @_ rfl ?_));exact eF _ ⟨[(qa,.list [])],.refl _⟩ rfl rfl
set_option genSizeOf false in
structure Op where
 tag:Str
 i1:Nat
 i2:Nat
 j1:Nat
 j2:Nat
noncomputable abbrev ah:Str:=Nz
noncomputable abbrev ba:Str:=NC
noncomputable abbrev bc:Str:=NB
noncomputable abbrev bb:Str:=NA
noncomputable def aT(o:Op):AV:=.tup [.str o.tag,.int o.i1,.int o.i2,.int o.j1,.int o.j2]
noncomputable def bG(i ai j bj:Nat):List Op :=
 if i<ai/\j<bj then [⟨ba,i,ai,j,bj⟩] else if i<ai then [⟨bc,i,ai,j,bj⟩] else if j<bj then [⟨bb,i,ai,j,bj⟩] else []
noncomputable def cV(t:ab):List Op:=if t.2.2=0 then [] else [⟨ah,t.1,t.1+t.2.2,t.2.1,t.2.1+t.2.2⟩]
noncomputable def cz(s:(Nat×Nat)×List Op)(t:ab):(Nat×Nat)×List Op:=((t.1+t.2.2,t.2.1+t.2.2),s.2++bG s.1.1 t.1 s.1.2 t.2.1++cV t)
noncomputable def bR(bs:List ab):List Op:=(bs.foldl cz ((0,0),[])).2
theorem GO(i ai j bj:Nat):(bG i ai j bj).length<=1:=by
 unfold bG;split
 ·simp
 ·split
  ·simp
  ·split <;> simp
theorem Ro(t:ab):(cV t).length<=1:=by unfold cV;split <;> simp
theorem Df(s:(Nat×Nat)×List Op)(t:ab):(cz s t).2.length<=s.2.length+2:=by
 have h1:=GO s.1.1 t.1 s.1.2 t.2.1;have h2:=Ro t;unfold cz;simp only[ZA];omega
theorem Hk:∀(ts:List ab) (s:ab×List ab),(ts.foldl cD s).2.length<=s.2.length+ts.length
 | [],s=>ZZ _
 |t::ts,s=>by
  have h1:=Hk ts (cD s t);have h2:=zp s t;rw[g6,Zz];omega
theorem zh{fl:Nat->Nat->Nat->Nat->ab}(ok:cw fl)(la lb:Nat):(aQ fl la lb).length<=la+2:=by
 have h1:(aY fl (0,la,0,lb)).length<=la:=Ez ok (la-0) 0 la 0 lb (ZM _) (ZM _);have h2:=Hk (aY fl (0,la,0,lb)) ((0,0,0),[]);unfold aQ fm;rw[ZA];simp only[ZR,Zz] at h2 ⊢;split
 ·omega
 ·rw[ZA];simp only[Zz,ZR];omega
theorem oO{K:Bool->St->Prop}(hl:x.length<2^62)(h:K ((x.length:Int) != 0) st):F1 C0 w A B C1 aK truthy (.str x) st K:=F1.of fun s Z S Q E hQ=>Val.eStr fun O=>PySem.P.truthy_str ⋯ (hQ _ _ _ Z st h (S.toks _) rfl (.toks _))
theorem Ie{f:AV}{led I1:aa}{K0:AV->aa->Prop}(p:led.Perm I1)(h:TC C0 w A B f args kw I1 K0)(hk:∀v l,K0 v l->∃l',Q1 l l'/\K v ⟨loc,l'⟩):FC C0 w A B C1 f args kw ⟨loc,led⟩ K :=
 FC.weak (K0:=fun v C4=>K0 v C4.led/\C4.loc=loc) (zL ((TC.perm p h).mono fun v l h'=>⟨h',rfl⟩)) fun v D8 l h'=>by
  refine aA h' fun h1 h2=>?_;clear h';dsimp only at h1 h2;subst h2;exact hk v l h1
section
structure I0 (bs ts:List ab) (s:(Nat×Nat)×List Op) (i j:Int) (xs:List AV):Prop where
 e1:i=s.1.1
 e2:j=s.1.2
 e3:xs=s.2.map aT
 fold:ts.foldl cz s=bs.foldl cz ((0,0),[])
 len:s.2.length+2 * ts.length<=2 * bs.length
inductive K8 (s:Nat×Nat) (t:ab):Str->Prop where
 |no (h:bG s.1 t.1 s.2 t.2.1=[]):K8 s t ⟨⟨[]⟩⟩
 |yes {tag:Str} (h0:0<tag.length) (h1:tag.length<2^62) (h:bG s.1 t.1 s.2 t.2.1=[⟨tag,s.1,t.1,s.2,t.2.1⟩]):K8 s t tag
variable{bs ts:List ab}{s:(Nat×Nat)×List Op}{i j:Int}{t:ab}{tag:Str}{l:List Op}
theorem I0.rep(h:I0 bs (t::ts) s i j xs)(c1:i<(t.1:Int))(c2:j<(t.2.1:Int)):K8 s.1 t ba :=
 .yes (by decide) (by decide) (if_pos ⟨Int.ofNat_lt.mp (h.e1▸c1),Int.ofNat_lt.mp (h.e2▸c2)⟩)
theorem I0.del(h:I0 bs (t::ts) s i j xs)(c1:i<(t.1:Int))(c2 : ¬ j<(t.2.1:Int)):K8 s.1 t bc :=
 .yes (by decide) (by decide) ((if_neg fun q=>c2 (h.e2▸Int.ofNat_lt.mpr q.2)).trans (if_pos (Int.ofNat_lt.mp (h.e1▸c1))))
theorem I0.ins(h:I0 bs (t::ts) s i j xs)(c1 : ¬ i<(t.1:Int))(c2:j<(t.2.1:Int)):K8 s.1 t bb :=
 have n : ¬ s.1.1<t.1:=fun q=>c1 (h.e1▸Int.ofNat_lt.mpr q)
 .yes (by decide) (by decide) ((if_neg fun q=>n q.1).trans ((if_neg n).trans (if_pos (Int.ofNat_lt.mp (h.e2▸c2)))))
theorem I0.none(h:I0 bs (t::ts) s i j xs)(c1 : ¬ i<(t.1:Int))(c2 : ¬ j<(t.2.1:Int)):K8 s.1 t ⟨⟨[]⟩⟩ :=
 have n : ¬ s.1.1<t.1:=fun q=>c1 (h.e1▸Int.ofNat_lt.mpr q)
 .no ((if_neg fun q=>n q.1).trans ((if_neg n).trans (if_neg fun q=>c2 (h.e2▸Int.ofNat_lt.mpr q))))
theorem K8.small(h:K8 s.1 t tag):tag.length<2^62:=by
 induction h with
 |no _=>decide
 |yes _ h1 _=>exact h1
structure z_ (s:(Nat×Nat)×List Op) (t:ab) (ys:List AV):Prop where
 e:ys=(s.2++bG s.1.1 t.1 s.1.2 t.2.1).map aT
theorem I0.put(h:I0 bs (t::ts) s i j xs)(g:K8 s.1 t tag)(c:((tag.length:Int) != 0)=true):z_ s t (xs++[.tup [.str tag,.int i,.int (t.1:Nat),.int j,.int (t.2.1:Nat)]]):=by
 cases g with
 |no _=>cases c
 |yes _ _ q=>exact⟨by rw[q,ZT,h.e1,h.e2,h.e3];rfl⟩
theorem I0.skip(h:I0 bs (t::ts) s i j xs)(g:K8 s.1 t tag)(c:((tag.length:Int) != 0)=false):z_ s t xs:=by
 cases g with
 |no q=>exact⟨by rw[q,g7,h.e3]⟩
 |yes h0 _ _=>exact absurd (Int.ofNat_eq_zero.mp (bne_eq_false_iff_eq.mp c)) (Nat.ne_of_gt h0)
theorem I0.room(h:I0 bs (t::ts) s i j xs):xs.length+2<=2 * bs.length:=by
 have:=h.len;rw[h.e3,Zu];rw[Zz] at this;omega
theorem z_.room(h:I0 bs (t::ts) s i j xs)(m:z_ s t ys):ys.length+1<=2 * bs.length:=by
 have:=h.len
 have:=GO s.1.1 t.1 s.1.2 t.2.1;rw[m.e,Zu,ZA];rw[Zz] at *;omega
theorem I0.step(h:I0 bs (t::ts) s i j xs):(cz s t).2.length+2 * ts.length<=2 * bs.length:=by
 have:=h.len
 have:=Df s t;rw[Zz] at *;omega
theorem I0.keep(h:I0 bs (t::ts) s i j xs)(m:z_ s t ys)(c:(((t.2.2:Nat):Int) != 0)=true) :
  I0 bs ts (cz s t) ((t.1:Nat)+(t.2.2:Nat)) ((t.2.1:Nat)+(t.2.2:Nat)) (ys++[.tup [.str ah,.int (t.1:Nat),.int ((t.1:Nat)+(t.2.2:Nat)),.int (t.2.1:Nat),.int ((t.2.1:Nat)+(t.2.2:Nat))]]):=by
 have k:cV t=[⟨ah,t.1,t.1+t.2.2,t.2.1,t.2.1+t.2.2⟩]:=if_neg fun q=>bne_iff_ne.mp c (by rw[q];rfl);refine⟨rfl,rfl,?_,h.fold,h.step⟩;show _=List.map aT (s.2++_++cV t);rw[k,ZT,m.e];rfl
theorem I0.pass(h:I0 bs (t::ts) s i j xs)(m:z_ s t ys)(c:(((t.2.2:Nat):Int) != 0)=false) :
  I0 bs ts (cz s t) ((t.1:Nat)+(t.2.2:Nat)) ((t.2.1:Nat)+(t.2.2:Nat)) ys:=by
 have k:cV t=[]:=if_pos (Int.ofNat_eq_zero.mp (bne_eq_false_iff_eq.mp c));refine⟨rfl,rfl,?_,h.fold,h.step⟩;show _=List.map aT (s.2++_++cV t);rw[k,g7,m.e]
theorem I0.last(h:I0 bs [] s i j xs):xs=(bR bs).map aT:=by
 have f:s=_:=h.fold;rw[h.e3,f];rfl
end
section
variable(d oa:b0)(bs:List ab)(l0:aa)
noncomputable abbrev yh(v1 v2 v3 v4:AV)(i j:Int):List (Str×AV):=[(q6,.inst 242 d),(CF,v1),(CE,v2),(iE,v3),(kd,v4),(lX,.int i),(pH,.int j),(CG,.ref oa)]
def JO(ts:List ab)(P:St->Prop):Prop:=∀s i j xs,I0 bs ts s i j xs->P ⟨yh d oa .any .any .any .any i j,(oa,.list xs)::l0⟩
def KT(s:(Nat×Nat)×List Op)(t:ab)(i j:Int)(xs:List AV)(P:St->Prop):Prop:=∀tag,K8 s.1 t tag->P ⟨yh d oa (.int (t.1:Nat)) (.int (t.2.1:Nat)) (.int (t.2.2:Nat)) (.str tag) i j,(oa,.list xs)::l0⟩
def KM(s:(Nat×Nat)×List Op)(t:ab)(i j:Int)(tag:Str)(P:St->Prop):Prop:=∀ys,z_ s t ys->P ⟨yh d oa (.int (t.1:Nat)) (.int (t.2.1:Nat)) (.int (t.2.2:Nat)) (.str tag) i j,(oa,.list ys)::l0⟩
end
theorem Ol{dj jk pp:b0}{a b:List Str}{mm:List (Str×AV)}{led:aa}(hA:D6 A 90)(ha:a.length<10^5)(hb:b.length<10^5)(L7:(aY (aM a b) (0,a.length,0,b.length)).length<64)
  (L4:(dj==p8)=false) (W_:∀k,(aP mm k).getD (.lst [])=.lst (cX (bq b k))) :
  TC af w A (ak w) (.ref 210) [.inst 242 d] [] (bN w d dj jk pp a b mm .none .none led) fun v led' =>
   ∃oa,v=.ref oa/\led'=(oa,.list ((bR (aQ (aM a b) a.length b.length)).map aT))::bN w d dj jk pp a b mm (.lst ((aQ (aM a b) a.length b.length).map ck)) (.ref oa) led:=by
 refine TC.weak (dD [(q6,.inst 242 d),(CF,.any),(CE,.any),(iE,.any),(kd,.any),(lX,.any),(pH,.any),(CG,.any)] (bA w) hA.lt (fun O=>@_) @_ @_ (TA _) fun L hL=>?_);have D0:=hA.deeper (k:=87) (C1:=bf (ap (iU w.params)) L 210 209);have hh:=D0.h;have hG:=((gk w (A.deeper _) (ap (iU w.params)) L 210 209 @_ @_ hh)).m ⟨Mg,1, "list.append"⟩ F.plainAttrs_list jH F.type_list_append;have T9:=zh (dH (ay a b) (aO a b)) a.length b.length;generalize Ζ:aQ (aM a b) a.length b.length=bs at *;refine bx hG 100 ?_;refine C6.mk (dJ (bd _) @_ (Zr ..) (v:=.none) @_ rfl ?_);refine C6.mk (fQ rfl rfl rfl (ad hG 20 (cx (bp rfl (cx (bp rfl ?_))))));refine C6.mk (fQ rfl rfl rfl (C6.mk (cR rfl fun oa hoa=>?_)).out);refine dp (ad hG 20 ?_);refine ef (m':=ji a b dj jk pp .none (.ref oa)) (bd _) @_ (.there .here) rfl (j5 rfl) ?_;refine cx (bp rfl ?_);refine C6.mk (oD (k:=5) ck (JO d oa bs (bN w d dj jk pp a b mm (.lst (bs.map ck)) (.ref oa) led)) (D0.mono ⋯) ?_ ?_ ?_ fun O=>@_)
 ·refine ik (name:=kf) (C:=242) (f:=203) @_ @_ @_ (bd _) @_ @_ (ad hG 20 (.mk (Zt _ (Zr ..)) @_ (ds @_ (bS @_) (sW ?_))));refine Ie (I1:=bN w d dj jk pp a b mm .none (.ref oa) ((oa,.list [])::led)) (List.perm_append_comm_assoc [_] [_,_,_] _) (Vu (D0.mono ⋯) ha hb L7 L4 W_) fun v l h=>?_;rw[h.1,h.2,Ζ];refine bB ((oa,.list [])::bN w d dj jk pp a b mm (.lst (bs.map ck)) (.ref oa) led) (.perm (List.perm_append_comm_assoc [_,_,_] [_] _)) ?_;exact eH (k:=5) fun it gl hI => .mk hI (.mk (fun O y=>y ((0,0),[]) _ _ _ ⟨rfl,rfl,rfl,rfl,Nat.le_of_eq (Nat.zero_add _)⟩) @_)
 ·intro gl t ts s i j xs h;have hr:=h.room;refine zX (by assumption) (yd _) @_ @_ @_ (cY _ rfl _ _ rfl rfl ?_);refine aB (aF hG 60 ?_);refine aB (T.join (KT d oa (bN w d dj jk pp a b mm (.lst (bs.map ck)) (.ref oa) led++gl) s t i j xs) (aF hG 60 (bL (fun c1=>bL (fun c2 => .mk (fun O y=>y _ (h.rep c1 c2)) @_) fun c2=>kj (bL (fun O => .mk (fun O y=>y _ (h.del c1 c2)) @_) fun c=>(c c1).elim)) fun c1=>kj (bL (fun c=>(c1 c).elim) fun O=>bL (fun c2 => .mk (fun O y=>y _ (h.ins c1 c2)) @_) fun c2 => .mk (fun O y=>y _ (h.none c1 c2)) @_))) fun tag g=>?_);refine aB (T.join (KM d oa (bN w d dj jk pp a b mm (.lst (bs.map ck)) (.ref oa) led++gl) s t i j tag) (aF hG 60 (C6.mk (oO g.small (bK (fun c=>⟨bz (Zr ..),C6.mk (dn .here (by rw[j7];omega) (.mk (fun O y=>y _ (h.put g c)) @_))⟩) fun c => .mk (fun O y=>y _ (h.skip g c)) @_)))) fun ys m=>?_);have hr:=m.room h;refine bx hG 60 (bK (fun c=>⟨bz (Zr ..),C6.mk (dn .here (by rw[j7];omega) (.next (l:=(oa,.list _)::bN w d dj jk pp a b mm (.lst (bs.map ck)) (.ref oa) led) (.mk (fun O y=>y _ _ _ _ (h.keep m c)) @_)))⟩) fun c => .next (l:=(oa,.list _)::bN w d dj jk pp a b mm (.lst (bs.map ck)) (.ref oa) led) (.mk (fun O y=>y _ _ _ _ (h.pass m c)) @_))
 ·intro s i j xs h;exact⟨_,.refl _,oa,rfl,h.last▸rfl⟩
noncomputable def br(n:Nat)(o:Op):Op:=if o.tag=ah then ⟨o.tag,max o.i1 (o.i2-n),o.i2,max o.j1 (o.j2-n),o.j2⟩ else o
noncomputable def aZ(n:Nat)(o:Op):Op:=if o.tag=ah then ⟨o.tag,o.i1,min o.i2 (o.i1+n),o.j1,min o.j2 (o.j1+n)⟩ else o
noncomputable def iR(f:Op->Op):List Op->List Op
 | []=>[]
 |o::os=>f o::os
noncomputable def ce(f:Op->Op):List Op->List Op
 | []=>[]
 | [o]=>[f o]
 |o::p::os=>o::ce f (p::os)
noncomputable def eK(n:Nat)(codes:List Op):List Op:=ce (aZ n) (iR (br n) (if codes.isEmpty then [⟨ah,0,1,0,1⟩] else codes))
noncomputable def bt(n:Nat):List Op->List Op->List (List Op)
 |group,[]=>if group.isEmpty then [] else if group.length=1/\(group.head?.map (·.tag))=some ah then [] else [group]
 |group,o::os =>
  if o.tag=ah/\o.i1+(n+n)<o.i2 then
   (group++[⟨o.tag,o.i1,min o.i2 (o.i1+n),o.j1,min o.j2 (o.j1+n)⟩])::bt n [⟨o.tag,max o.i1 (o.i2-n),o.i2,max o.j1 (o.j2-n),o.j2⟩] os
  else bt n (group++[o]) os
theorem fi{g:List Op}{P:List (List Op)->Prop}(a:g.isEmpty=true->P [])(b:g.length=1/\(g.head?.map (·.tag))=some ah->P [])(c : ¬ g.isEmpty=true -> ¬ (g.length=1/\(g.head?.map (·.tag))=some ah)->P [g]):P (bt n g []):=iteInduction (motive:=P) a fun h=>iteInduction (motive:=P) b (c h)
theorem nZ{g:List Op}{o:Op}{P:List (List Op)->Prop}(a:o.tag=ah/\o.i1+(n+n)<o.i2->P ((g++[⟨o.tag,o.i1,min o.i2 (o.i1+n),o.j1,min o.j2 (o.j1+n)⟩])::bt n [⟨o.tag,max o.i1 (o.i2-n),o.i2,max o.j1 (o.j2-n),o.j2⟩] os))(b : ¬ (o.tag=ah/\o.i1+(n+n)<o.i2)->P (bt n (g++[o]) os)):P (bt n g (o::os)):=iteInduction (motive:=P) a b
noncomputable def aI(n:Nat)(codes:List Op):List (List Op):=bt n [] (eK n codes)
noncomputable def bU(g:List Op):AV:=.lst (g.map aT)
theorem Da:∀(ts:List ab) (s:(Nat×Nat)×List Op),(ts.foldl cz s).2.length<=s.2.length+2 * ts.length
 | [],s=>ZZ _
 |t::ts,s=>by
  have h1:=Da ts (cz s t);have h2:=Df s t;rw[g6,Zz];omega
theorem vH(bs:List ab):(bR bs).length<=2 * bs.length:=by
 have:=Da bs ((0,0),[]);unfold bR;simp only[ZR] at this;omega
section
variable{N:aa}{n m:Nat}{K:D4->St->List AV->Prop}{t:Sem Flow}{l l':aa}
theorem TG.freeze(hr:H2 a xs loc D8)(h:TG C0 w B N n m C1 t ⟨D8,l⟩ C5 K):TG C0 w B N n m C1 t ⟨loc,(a,.list xs)::l⟩ C5 K :=
 fun c fs Kc H gd lv hs hg hK A hA led hN H0 G9 Z0 s Z S X=>by
  refine aU (D7.freeze (led:=l++led) S hr) fun Z' S' V X'=>?_;exact h c fs Kc H gd lv hs hg hK A hA led hN H0 G9 Z0 s Z' S' (X.trans X')
theorem TG.weak(hw:Q1 l l')(h:TG C0 w B N n m C1 t ⟨loc,l'⟩ C5 K):TG C0 w B N n m C1 t ⟨loc,l⟩ C5 K :=
 fun c fs Kc H gd lv hs hg hK A hA led hN H0 G9 Z0 s Z S X=>by
  refine aw hw fun r p=>?_;clear hw;have hw':Q1 (l++led) (l'++led):=⟨r,by rw[← ZW];exact p.append_right led⟩;exact h c fs Kc H gd lv hs hg hK A hA led hN H0 G9 Z0 s Z (S.weak hw') (X.weakF hw')
theorem TG.mono{K':D4->St->List AV->Prop}(h:TG C0 w B N n m C1 t st C5 K)(hk:∀f C4 E2,K f C4 E2->K' f C4 E2):TG C0 w B N n m C1 t st C5 K' :=
 fun c fs Kc H gd lv hs hg hK=>h c fs Kc H gd lv hs hg fun f x C4 E2 k=>hK f x C4 E2 (hk f C4 E2 k)
theorem Wy(h:∀A,D6 A m->∀led,G5 N led->T C0 w A B C1 E1 t ⟨st.loc,st.led++led⟩ fun f C4=>f=.next/\∃D8 l,C4=⟨D8,l++led⟩/\K .next ⟨D8,l⟩ C5):TG C0 w B N n m C1 t st C5 K :=
 HA fun A hA led hN=>(h A hA led hN).mono fun f C4 k=>by
  obtain⟨rfl,D8,l,rfl,k⟩:=k;exact eF l rfl trivial k
end
theorem fq{i:Int}{x:AV}(h0:0<=i)(h1:i<2^63)(hx:xs[i.toNat]?=some x)(h:K x st) :
  F2 C0 w A B C1 Val getItem (.tup xs) (.int i) st K:=fun s Z G2 x2 V1 V2 S Q E hQ=>by
 refine bv (kP V1) fun O O O qv e vs=>?_;subst qv
 (refine aw V2.inv fun t_ e_=>?_;subst e_)
 refine ae (vs.get hx) fun u e' hu=>?_;have G8:=(w6.mp e').1;exact P.getItem_tuple (k:=i.toNat) (S.frozen _ _ e) (Int.le_trans (by decide) h0) h1 (seqIndex_of h0 ((Int.toNat_lt h0).mp G8)) (by simpa using e') (hQ x u s Z st h S hu .refl)
theorem Lg{l:b0}{items:Array Value}{k:Int}{t:Tok}{v:Value}{Q:Unit->Zx->Prop}(ho:s.heap.get? l=some {cls:=.type "list",data:=.seq items n})
  (hk:k=j∨(k<0/\k+items.size=j)) (hj:j<items.size) (hsz:items.size<2^62)
  (h:Q () {s with heap:=s.heap.update l (d9 (·.setIfInBounds j v))}) :
  ZS (ZP C0 w) A (setItem (.ref l) (.int k t) v) Q E s:=by
 have hl:s.heap.IsList l items:=⟨_,ho,rfl,n,rfl⟩;have hd:({cls:=.type "list",data:=.seq items n}:Obj).data=.seq items n:=rfl;unfold setItem;try with_reducible refine ZF ?_
 first |refine Zq (Zs ?_) |skip
 refine Zq (wpAny_sequenceKey hl.typeIs (by decide) ?_);refine Zq (f2 (name:=Zw "__setitem__") hl.typeIs slot_list_setitem
  (d6 slot_list_setitem hl.typeIs entry_list_setitem ?_ (args_list_setitem _ _ _)))
 have ł:items[j]?=some items[j]:=m7 hj;have ğ:Builtin.List.listFitsIndex k=true:=by
  rcases hk with h |h
  ·exact fitsIndex_of ⋯ ⋯
  ·exact fitsIndex_neg h.1 ⋯
 show ZS _ _ (Builtin.List.listSubscript? (.int k t)>>=_) _ _ s;refine Zq (wpAny_listSubscript_int ğ ?_);clear ğ hsz;rcases hk with rfl |⟨h0,h1⟩
 ·skip
  show ZS _ _ ((seqItemAt l j>>=fun r=>o4 (r.map (j,·)))>>=_) _ _ s;refine Zq (Zq (wpAny_seqItemAt ho hd (Zs ?_)));rw[ł];show ZS _ _ (setSeqItemAt l j v>>=_) _ _ s;refine Zq (wpAny_setSeqItemAt ho hd ?_);first
   |exact Zq (Zs (Zs ⟨.none,rfl,Zs h⟩))
   |exact Zs ⟨.none,rfl,Zs h⟩
 ·have è:=seqIndex_neg (n:=items.size) h0 ⋯;have X_:(k+items.size).toNat=j:=by omega
  obtain⟨m,rfl⟩:∃j:Nat,k=Int.negSucc j:=by
   cases k with
   |ofNat n=>exact absurd h0 (Int.not_lt.mpr (Int.natCast_nonneg n))
   |negSucc n=>exact⟨n,rfl⟩
  show ZS _ _ ((Builtin.List.listItems (.ref l)>>=fun xs=>o4 ((seqIndex? (Int.negSucc m) xs.size).bind fun i=>xs[i]?.map (i,·)))>>=_) _ _ s;refine Zq (Zq ?_);show ZS _ _ (seqItems? (.ref l)>>=_) _ _ s;refine Zq (n9 ho hd (Zs (Zs ?_)));rw[è,X_];simp only[Option.bind_some,ł,B3];show ZS _ _ (setSeqItemAt l j v>>=_) _ _ s;refine Zq (wpAny_setSeqItemAt ho hd ?_);first
   |exact Zq (Zs (Zs ⟨.none,rfl,Zs h⟩))
   |exact Zs ⟨.none,rfl,Zs h⟩
theorem Vals.set{ys:List Value}(h:Vals Z xs ys){x:AV}{y:Value}(hv:Val Z x y):∀(j:Nat),Vals Z (xs.set j x) (ys.set j y):=by
 intro j;induction xs generalizing ys j with
 |nil=>cases h;exact .nil
 |cons a xs ih =>
  cases h with
  |cons h1 h2=>cases j with
   |zero=>exact .cons hv h2
   |succ j=>exact .cons h1 (ih h2 j)
theorem Ih{k:Int}{u:AV}{led led':aa}{R:Unit->St->Prop}(U:Upd a (.list xs) (.list ys) led led')(hy:ys=xs.set j u)
  (hk:k=j∨(k<0/\k+xs.length=j)) (hj:j<xs.length) (hsz:xs.length<2^62) (h:R () ⟨loc,led'⟩):F3 C0 w A B C1 setItem (.ref a) (.int k) u ⟨loc,led⟩ R:=fun s Z G2 x2 x3 V1 V2 V3 S Q E hQ=>by
 (have e_:=V1.inv;subst e_)
 (refine aw V2.inv fun t_ e_=>?_;subst e_)
 subst hy;refine bI (S.own _ U.mem) fun items n g vs=>?_;dsimp only at g;have E3:items.size=xs.length:=by have:=vs.length;simpa using this
 refine Lg (j:=j) g (by exact(Eq.symm (E3))▸hk) ⋯ ⋯ ?_;have K3:∃n',(s.heap.update a (d9 (·.setIfInBounds j x3))).get? a=some {cls:=.type "list",data:=.seq (items.setIfInBounds j x3) n' }:=⟨_,c6 (d9 (·.setIfInBounds j x3)) g rfl⟩;refine aw K3 ?_;clear K3;intro n' K3;have P_:Vals Z (xs.set j u) (items.setIfInBounds j x3).toList:=by
  exact(Eq.symm (Array.toList_setIfInBounds))▸vs.set V3 j
 have P:=S.toC7.upd U (h':=s.heap.update a (d9 (·.setIfInBounds j x3))) (tk:=s.toks) (fun b ob hb e=>(c0 ..).extBut b ob hb e) rfl rfl ⟨_,n',K3,P_⟩;exact hQ () _ _ Z _ h (S.after P.1 P.2) trivial P.2.toF
theorem ly{x:AV}(hl:F4 st.led v ys)(hy:ys=xs++[x])(h2:xs.length<10^9)(h:K x st):F2 C0 w A B C1 Val getItem v (.int (-1)) st K:=by
 have e:ys.length=xs.length+1:=hy▸ZA;refine Yz hl ⋯ ⋯ ⋯ ?_ h;rw[e,hy,show (-1+((xs.length+1:Nat):Int)).toNat=xs.length from congrArg Int.toNat (show -1+((xs.length:Int)+1)=xs.length by rw[Int.add_comm,Int.add_neg_cancel_right])];exact List.getElem?_concat_length
section
noncomputable abbrev bg(o:Op):AV:=.tup [.str o.tag,.int (o.i1:Nat),.int (o.i2:Nat),.int (o.j1:Nat),.int (o.j2:Nat)]
theorem Di(f:Op->Op)(z:Op):∀(xs:List Op),ce f (xs++[z])=xs++[f z]
 | []=>rfl
 | [x]=>rfl
 |x::y::xs=>congrArg (x :: ·) (Di f z (y::xs))
variable{o z:Op}{os ini:List Op}
theorem rU(a b n:Nat):max (a:Int) (b-n)=((max a (b-n):Nat):Int):=by
 rcases Nat.le_total n b with h |h
 ·rw[← Int.ofNat_sub h];rcases Nat.le_total a (b-n) with q |q
  ·rw[Nat.max_eq_right q];exact Int.max_eq_right (Int.ofNat_le.mpr q)
  ·rw[Nat.max_eq_left q];exact Int.max_eq_left (Int.ofNat_le.mpr q)
 ·rw[Nat.sub_eq_zero_of_le h,Nat.max_eq_left (ZM a)];exact Int.max_eq_left (Int.le_trans (Int.sub_nonpos_of_le (Int.ofNat_le.mpr h)) (Int.natCast_nonneg a))
theorem rS(a b n:Nat):min (a:Int) (b+n)=((min a (b+n):Nat):Int):=by
 rcases Nat.le_total a (b+n) with q |q
 ·rw[Nat.min_eq_left q];exact Int.min_eq_left (Int.ofNat_le.mpr q)
 ·rw[Nat.min_eq_right q];exact Int.min_eq_right (Int.ofNat_le.mpr q)
theorem RY(h:o.tag=ah):bg (br n o)=.tup [.str o.tag,.int (max (o.i1:Nat) ((o.i2:Nat)-(n:Nat))),.int (o.i2:Nat),.int (max (o.j1:Nat) ((o.j2:Nat)-(n:Nat))),.int (o.j2:Nat)]:=by
 unfold br;rw[if_pos h,rU,rU]
theorem RZ(h:o.tag≠ah):br n o=o:=if_neg h
theorem QW(h:z.tag=ah):bg (aZ n z)=.tup [.str z.tag,.int (z.i1:Nat),.int (min (z.i2:Nat) ((z.i1:Nat)+(n:Nat))),.int (z.j1:Nat),.int (min (z.j2:Nat) ((z.j1:Nat)+(n:Nat)))]:=by
 unfold aZ;rw[if_pos h,rS,rS]
theorem QY(h:z.tag≠ah):aZ n z=z:=if_neg h
noncomputable def oB(J6:List Op):List Op:=if J6.isEmpty then [Op.mk ah 0 1 0 1] else J6
theorem US(J6:List Op):∃o os,oB J6=o::os/\os.length<=J6.length:=by
 cases J6 with
 |nil=>exact ed _ _ rfl (ZZ _)
 |cons o os=>exact ed o os rfl (Nat.le_succ _)
theorem Ko(o:Op)(os:List Op):∃ini z,o::os=ini++[z]/\ini.length=os.length:=by
 rcases B5 (o::os) with h |⟨l,x,h⟩
 ·cases h
 ·rw[B6] at h;exact ed l x h (by have:=congrArg y6 h;simp only[Zz,ZA,ZR] at this;omega)
theorem Jm{J6:List Op}(h:oB J6=o::os)(h':br n o::os=ini++[z]):eK n J6=ini++[aZ n z]:=by
 show ce (aZ n) (iR (br n) (oB J6))=_;rw[h];show ce (aZ n) (br n o::os)=_;rw[h',Di]
structure W2 (n:Nat) (ps:List Op) (xs C5:List AV):Prop where
 run:∃g:List Op,xs=g.map bg/\C5=(bt n g ps).map bU/\xs.length+2 * ps.length<10^7
structure B_ (n:Nat) (p:Op) (ps:List Op) (qi qj:Int) (xs C5:List AV):Prop where
 run:∃(g:List Op) (a b:Nat),qi=a/\qj=b/\xs=g.map bg/\C5=(bt n (g++[⟨p.tag,a,p.i2,b,p.j2⟩]) ps).map bU/\xs.length+2+2 * ps.length<10^7
variable{p:Op}{ps:List Op}{qi qj:Int}
abbrev yy(n:Nat)(p:Op):Prop:=p.tag=ah/\((n:Nat):Int)+(n:Nat)<(p.i2:Nat)-(p.i1:Nat)
theorem W2.start{cs:List Op}(h:cs.length<10^6+10):W2 n cs [] ((bt n [] cs).map bU):=⟨[],rfl,rfl,by rw[ZR];omega⟩
theorem W2.room(h:W2 n ps xs C5):xs.length<10^7:=by
 refine aU h.run fun g O2 O3 h=>?_;clear O2;clear O3;omega
theorem B_.room(h:B_ n p ps qi qj xs C5):xs.length<10^7:=by
 refine oS h.run fun g a b O4 O5 O6 O7 h=>?_;clear O4;clear O5;clear O6;clear O7;omega
theorem W2.cut(h:W2 n (p::ps) xs C5)(c:yy n p):∃rest,C5=.lst (xs++[.tup [.str p.tag,.int (p.i1:Nat),.int (min (p.i2:Nat) ((p.i1:Nat)+(n:Nat))),.int (p.j1:Nat),.int (min (p.j2:Nat) ((p.j1:Nat)+(n:Nat)))]])::rest /\
  B_ n p ps (max (p.i1:Nat) ((p.i2:Nat)-(n:Nat))) (max (p.j1:Nat) ((p.j2:Nat)-(n:Nat))) [] rest:=by
 refine aU h.run fun g O2 O3 hl=>?_;subst O2;subst O3;refine⟨(bt n ([]++[⟨p.tag,max p.i1 (p.i2-n),p.i2,max p.j1 (p.j2-n),p.j2⟩]) ps).map bU,?_,[],_,_,rU ..,rU ..,rfl,rfl,by rw[Zz] at hl;rw[ZR];omega⟩;have c2:=c.2;rw[show bt n g (p::ps)=_ from if_pos ⟨c.1,by omega⟩,ZD,rS,rS];show AV.lst (List.map aT (g++_))::_=_;rw[ZT];rfl
theorem W2.same(h:W2 n (p::ps) xs C5)(c : ¬ yy n p):B_ n p ps (p.i1:Nat) (p.j1:Nat) xs C5:=by
 refine aU h.run fun g O2 O3 hl=>?_;subst O2;subst O3;refine⟨g,p.i1,p.j1,rfl,rfl,rfl,?_,by rw[Zz] at hl;omega⟩;exact congrArg (List.map bU) (if_neg fun q=>c ⟨q.1,by have:=q.2;omega⟩)
theorem B_.put(h:B_ n p ps qi qj xs C5):W2 n ps (xs++[.tup [.str p.tag,.int qi,.int (p.i2:Nat),.int qj,.int (p.j2:Nat)]]) C5:=by
 refine oS h.run fun g a b O4 O5 O6 O7 h=>?_;subst O4;subst O5;subst O6;subst O7;exact⟨g++[⟨p.tag,a,p.i2,b,p.j2⟩],by rw[ZT];rfl,rfl,by rw[ZA,r8];omega⟩
theorem W2.none(h:W2 n [] xs C5)(c:(!xs.isEmpty)=false):C5=[]:=by
 refine aU h.run fun g O2 O3 O4=>?_;subst O2;subst O3;clear O4;cases g with
 |nil=>rfl
 |cons q qs=>cases c
theorem W2.one(h:W2 n [] xs C5)(c:((xs.length:Nat):Int)=1):∃q:Op,xs=[bg q]/\(q.tag=ah->C5=[])/\(q.tag≠ah->C5=[.lst xs]):=by
 refine aU h.run fun g O2 O3 O4=>?_;subst O2;subst O3;clear O4;rw[Zu] at c;refine aw (List.length_eq_one_iff.mp (Int.ofNat_inj.mp c)) fun q O2=>?_;subst O2;exact eF q rfl (fun e=>fi (P:=fun l=>l.map bU=[]) (fun O=>rfl) (fun O=>rfl) fun O c=>(c ⟨rfl,congrArg some e⟩).elim) fun e=>fi (P:=fun l=>l.map bU=[.lst [bg q]]) (fun c=>nomatch c) (fun c=>(e (r7 c.2)).elim) fun O O=>rfl
theorem W2.many(h:W2 n [] xs C5)(c:(!xs.isEmpty)=true)(c':((xs.length:Nat):Int)≠1):C5=[.lst xs]:=by
 refine aU h.run fun g O2 O3 O4=>?_;subst O2;subst O3;clear O4;rw[Zu] at c';cases g with
 |nil=>cases c
 |cons q qs =>
  have : ¬ (qs.length=0):=fun e=>c' (by rw[Zz,e];rfl);exact fi (P:=fun l=>l.map bU=[.lst ((q::qs).map bg)]) (fun c=>nomatch c) (fun c=>(this (Nat.succ.inj c.1)).elim) fun O O=>rfl
theorem W2.last(h:W2 n [] xs C5):C5=[]∨C5=[.lst xs]:=by
 cases c : !xs.isEmpty with
 |false=>exact .inl (h.none c)
 |true =>
  by_cases c':((xs.length:Nat):Int)=1
  ·refine aU (h.one c') fun q O2 h1 h2=>?_;clear O2;by_cases e:q.tag=ah
   ·exact .inl (h1 e)
   ·exact .inr (h2 e)
  ·exact .inr (h.many c c')
theorem UQ{J6:List Op}(c:(!!(J6.map aT).isEmpty)=true)(hc:oB J6=o::os):[AV.tup [.str ah,.int 0,.int 1,.int 0,.int 1]]=(o::os).map aT:=by
 cases J6 with
 |nil=>rw[← hc];rfl
 |cons p ps=>cases c
theorem UR{J6:List Op}(c:(!!(J6.map aT).isEmpty)=false)(hc:oB J6=o::os):J6.map aT=(o::os).map aT:=by
 cases J6 with
 |nil=>cases c
 |cons p ps=>rw[← hc];rfl
theorem Ld(o o':Op)(os:List Op){u:AV}(e:bg o'=u):(o'::os).map aT=((o::os).map aT).set 0 u:=by rw[← e];rfl
theorem Lc(z z':Op)(ini:List Op){u:AV}(e:bg z'=u):(ini++[z']).map aT=((ini++[z]).map aT).set ini.length u:=by
 rw[← e,ZT,ZT,List.set_append_right _ _ (by simp)];simp[aT]
end
section
variable{N:aa}{n m:Nat}{K:D4->St->List AV->Prop}{t:Sem Flow}
inductive ò (K:D4->St->List AV->Prop) (C5:List AV) (led:aa):D4->St->Prop where
 |mk {loc:List (Str×AV)} (l:aa) (h:K .next ⟨loc,l⟩ C5):ò K C5 led .next ⟨loc,l++led⟩
theorem dI(h:∀A,D6 A m->∀led,G5 N led->T C0 w A B C1 E1 t ⟨st.loc,st.led++led⟩ (ò K C5 led)):TG C0 w B N n m C1 t st C5 K :=
 Wy fun A hA led hN=>(h A hA led hN).mono fun f C4 k=>by
  cases k with
  |mk l h=>exact⟨rfl,_,l,rfl,h⟩
inductive Yld (K:D4->St->List AV->Prop) (led:aa):List AV->AV->St->Prop where
 |mk {loc:List (Str×AV)} {v:AV} {rest:List AV} (l:aa) (h:K .next ⟨loc,l⟩ rest):Yld K led (v::rest) v ⟨loc,l++led⟩
theorem zz{e:Expr}{Q6:Pos}(h:∀A,D6 A m->∀led,G5 N led->T C0 w A B C1 Val (k7 e C1) ⟨st.loc,st.led++led⟩ (Yld K led C5))
  (Q4:C1.scope.isCoroutine=false) (hi:interactive C1=false):TG C0 w B N n m C1 (exec (.Expr (.Yield (some e) Q6) pos) C1) st C5 K :=
 Wz (fun A hA led hN=>(h A hA led hN).mono fun v C4 k =>
  Yld.casesOn (motive:=fun C5 v C4 O=>∃l rest,C5=v::rest/\C4.led=l++led/\K .next ⟨C4.loc,l⟩ rest) k fun l h=>⟨l,_,rfl,rfl,h⟩) Q4 hi
theorem V8.nextE{J:List AV->St->List AV->Prop}{K:D4->St->List AV->Prop}{gl l led:aa}(e:l++gl=led)(h:J xs ⟨loc,l⟩ C5):V8 J K xs gl .next ⟨loc,led⟩ C5:=e▸.next h
inductive Ends (loc:List (Str×AV)) (led:aa):D4->St->Prop where
 |mk:Ends loc led .next ⟨loc,led⟩
theorem cJ{x:Stmt}{rest:List Stmt}(l:aa)(h:∀A,D6 A m->∀led,G5 N led->T C0 w A B C1 E1 (exec x C1) ⟨st.loc,st.led++led⟩ (Ends loc (l++led)))(k:TG C0 w B N n m C1 (execs rest C1) ⟨loc,l⟩ C5 K):TG C0 w B N n m C1 (execs (x::rest) C1) st C5 K :=
 cK (dI fun A hA led hN=>(h A hA led hN).mono fun f C4 q=>q.rec (.mk l k))
inductive Gives (loc:List (Str×AV)) (led:aa) (v:AV):AV->St->Prop where
 |mk:Gives loc led v v ⟨loc,led⟩
theorem fR{e:Expr}{Q6:Pos}{rest:List Stmt}(l:aa)(h:∀A,D6 A m->∀led,G5 N led->T C0 w A B C1 Val (k7 e C1) ⟨st.loc,st.led++led⟩ (Gives loc (l++led) v))
  (k:TG C0 w B N n m C1 (execs rest C1) ⟨loc,l⟩ C5 K) (Q4:C1.scope.isCoroutine=false) (hi:interactive C1=false):TG C0 w B N n m C1 (execs (.Expr (.Yield (some e) Q6) pos::rest) C1) st (v::C5) K :=
 cK (zz (fun A hA led hN=>(h A hA led hN).mono fun f C4 q=>q.rec (.mk l k)) Q4 hi)
theorem eE{p:Prop}{G7:Expr}{G3:List Stmt}(h:∀A,D6 A m->∀led,G5 N led->T C0 w A B C1 aK (isTrue G7 C1 (k7 G7 C1)) ⟨st.loc,st.led++led⟩ fun b s=>s=⟨st.loc,st.led++led⟩/\(b=true↔p))
  (h1:p->TG C0 w B N n m C1 (execs body C1) st C5 K) (h2 : ¬ p->TG C0 w B N n m C1 (execs G3 C1) st C5 K):TG C0 w B N n m C1 (exec (.If G7 body G3 pos) C1) st C5 K :=
 WA fun A hA led hN=>(h A hA led hN).mono fun b s k=>by
  refine aA k ?_;clear k;intro O1 k;subst O1;refine bB st.led rfl ?_;cases b with
  |true=>exact h1 (k.mp rfl)
  |false=>exact h2 fun q=>Bool.noConfusion (k.mpr q)
inductive KG (S:St->List AV->Prop):D4->St->List AV->Prop where
 |mk {C4:St} {E2:List AV} (h:S C4 E2):KG S .next C4 E2
theorem KG.elim{S:St->List AV->Prop}{P:D4->St->List AV->Prop}(k:∀st C5,S st C5->P .next st C5)(f:D4)(st:St)(C5:List AV)(h:KG S f st C5):P f st C5:=by
 induction h with
 |mk h=>exact k _ _ h
inductive KE (K:St->Prop):D4->St->List AV->Prop where
 |mk {C4:St} (h:K C4):KE K .next C4 []
end
section
variable(n:Nat)(d:b0)(R:List AV)
noncomputable abbrev kK(v1 v2 v3 v4 v5 co nn gr:AV:=.any):List (Str×AV):=[(lW,.int n),(q6,.inst 242 d),(kd,v1),(mf,v2),(mc,v3),(me,v4),(lZ,v5),(CC,co),(CB,nn),(pM,gr)]
def KC(cs:List Op)(P:St->List AV->Prop):Prop:=∀ca X,P ⟨kK n d .any .any .any .any .any (.ref ca),(ca,.list (cs.map aT))::X⟩ R
variable{n d R} in
theorem KC.mk{cs:List Op}{ca:b0}{X:aa}{v1 v2 v3 v4 v5:AV}(e:xs=cs.map aT):R8 (KC n d R cs) .next ⟨kK n d v1 v2 v3 v4 v5 (.ref ca),(ca,.list xs)::X⟩ R:=e▸.mk (fun O y=>y ca X) @_
variable(cs:List Op)(X:aa)
noncomputable abbrev yi(v1 v2 v3 v4 v5:AV)(ga:b0):List (Str×AV):=kK n d v1 v2 v3 v4 v5 (.lst (cs.map aT)) (.int ((n:Int)+(n:Int))) (.ref ga)
def JG(ps:List Op)(P:St->List AV->Prop):Prop:=∀xs C5 ga,W2 n ps xs C5->P ⟨yi n d cs .any .any .any .any .any ga,(ga,.list xs)::X⟩ C5
def Xi(p:Op)(ps:List Op)(P:St->List AV->Prop):Prop:=∀qi qj xs C5 ga,B_ n p ps qi qj xs C5->P ⟨yi n d cs (.str p.tag) (.int qi) (.int (p.i2:Nat)) (.int qj) (.int (p.j2:Nat)) ga,(ga,.list xs)::X⟩ C5
end
theorem Sz{dj jk pp:b0}{a b:List Str}{mm:List (Str×AV)}{led N:aa}(hA:D6 A 120)(hn:n<10^5)(ha:a.length<10^5)(hb:b.length<10^5)(L7:(aY (aM a b) (0,a.length,0,b.length)).length<64)
  (L4:(dj==p8)=false) (W_:∀k,(aP mm k).getD (.lst [])=.lst (cX (bq b k))) :
  TC af w A (ak w) (.ref 218) [.inst 242 d,.int n] [] (bN w d dj jk pp a b mm .none .none []++led) (H8 af w (ak w) N 103 ((aI n (bR (aQ (aM a b) a.length b.length))).map bU) led):=by
 refine HK (m:=100) (kK n d) (bA w) hA.lt (fun O O=>@_) @_ @_ (Tz _) fun L=>?_;have hG:=fun(A:ZI) (hh:A.handled=none)=>((((gk w A (ap (ky w.params)) L 218 217 @_ @_ hh).g (gY w) @_ @_).g (SH w) @_ @_).g (FL w) @_ @_).m ⟨Mg,1, "list.append"⟩ F.plainAttrs_list jH F.type_list_append;refine cJ _ (fun A' D0 led' F6=>aF (hG A' D0.h) 20 .mk) ?_;refine cK (dI fun A' D0 led' F6=>ie (ik (name:=ke) (C:=242) (f:=210) @_ @_ @_ (bd _) @_ @_ (ad (hG A' D0.h) 20 (.mk (Zr ..) @_ (ds @_ (bS @_) (sW (gD (led:=bN w d dj jk pp a b mm .none .none led') (Ol (D0.mono ⋯) ha hb L7 L4 W_) fun v l h=>?_)))))) @_);refine ae h fun oa O2 O3=>?_;clear h;subst O2;subst O3;refine bp rfl (.mk ((oa,.list ((bR (aQ (aM a b) a.length b.length)).map aT))::bN w d dj jk pp a b mm (.lst ((aQ (aM a b) a.length b.length).map ck)) (.ref oa) []) ?_);have ň:(bR (aQ (aM a b) a.length b.length)).length<10^6:=by
  have h1:=vH (aQ (aM a b) a.length b.length);have h2:=GW (fl:=aM a b) a.length b.length;omega
 generalize bN w d dj jk pp a b mm (.lst ((aQ (aM a b) a.length b.length).map ck)) (.ref oa) []=X0;generalize bR (aQ (aM a b) a.length b.length)=J6 at *;refine bI (US J6) fun o os hc E3=>?_;refine eD (KC n d ((aI n J6).map bU) (o::os)) (dI fun A' D0 led' F6=>aF (hG A' D0.h) 20 (C6.mk (oP (.own (Zr ..)) (by rw[Zu];omega) (bK (fun c=>C6.mk (jq (bP (hG A' D0.h) 20 ⟨(by decide:1<=c9),fun ca hca => .mk ((ca,.list _)::(oa,.list (J6.map aT))::X0) (KC.mk (UQ c hc))⟩))) fun c => .mk _ (KC.mk (UR c hc)))))) fun ca X=>?_;refine eD (KC n d ((aI n J6).map bU) (br n o::os)) (dI fun A' D0 led' F6=>ic (T.bool (p:=o.tag=ah) (cb (hG A' D0.h) 20 ⟨.mk list_getitem_lookup (bz (Zr ..)),C6.mk (ee (.own (Zr ..)) (by decide) (by decide) (x:=aT o) rfl (C6.mk (fq (by decide) (by decide) (x:=.str o.tag) rfl ⟨rfl,beq_iff_eq⟩)))⟩) (fun c=>?_) fun c=>cu (.mk _ (KC.mk (by rw[RZ c]))))) fun ca X=>?_
 ·refine aB (ec rfl rfl rfl (ad (hG A' D0.h) 20 ⟨.mk list_getitem_lookup (bz (Zr ..)),C6.mk (ee (.own (Zr ..)) (by decide) (by decide) (x:=bg o) rfl (dK D0.h @_ @_ @_ (cY _ rfl _ _ rfl rfl ?_)))⟩));refine aB (ec rfl rfl rfl (ad (hG A' D0.h) 40 (C6.mk (oK D0.h (C6.mk (oK D0.h (zY (ad (hG A' D0.h) 20 (ad (hG A' D0.h) 20 ?_)))))))));refine Ih (j:=0) .here (Ld o (br n o) os (RY c)) (.inl rfl) (by rw[Zu];exact Nat.succ_pos _) (by rw[Zu,Zz];omega) ?_;refine cu ?_;exact ò.mk _ (KC.mk rfl)
 refine bI (Ko (br n o) os) fun ini z hz hlz=>?_;have S_:=Jm (n:=n) hc hz;rw[hz];refine eD (KC n d ((aI n J6).map bU) (ini++[aZ n z])) (dI fun A' D0 led' F6=>ic (T.bool (p:=z.tag=ah) (cb (hG A' D0.h) 20 ⟨.mk list_getitem_lookup (bz (Zr ..)),C6.mk (ly (.own (Zr ..)) (xs:=ini.map aT) (x:=aT z) ZT (by rw[Zu];omega) (C6.mk (fq (by decide) (by decide) (x:=.str z.tag) rfl ⟨rfl,beq_iff_eq⟩)))⟩) (fun c=>?_) fun c=>cu (.mk _ (KC.mk (by rw[QY c]))))) fun ca X=>?_
 ·refine aB (ec rfl rfl rfl (ad (hG A' D0.h) 20 ⟨.mk list_getitem_lookup (bz (Zr ..)),C6.mk (ly (.own (Zr ..)) (xs:=ini.map aT) (x:=bg z) ZT (by rw[Zu];omega) (dK D0.h @_ @_ @_ (cY _ rfl _ _ rfl rfl ?_)))⟩));refine aB (ec rfl rfl rfl (ad (hG A' D0.h) 40 (C6.mk (ta D0.h (C6.mk (ta D0.h (zY (ad (hG A' D0.h) 20 (ad (hG A' D0.h) 20 ?_)))))))));refine Ih (j:=ini.length) .here (Lc z (aZ n z) ini (QW c)) (.inr ⟨by decide,by rw[Zu,ZA,r8];omega⟩) (by rw[Zu,ZA,r8];omega) (by rw[Zu,ZA,r8];omega) ?_;refine cu ?_;exact ò.mk _ (KC.mk rfl)
 rw[← S_];have ë:(eK n J6).length<10^6+10:=by rw[S_,ZA,r8];omega
 unfold aI;generalize eK n J6=cs at *;clear S_ hz hc E3 hlz;refine cJ _ (fun A' D0 led' F6=>aF (hG A' D0.h) 20 .mk) ?_;refine cK (dI fun A' D0 led' F6=>aF (hG A' D0.h) 20 (C6.mk (cR rfl fun ga Ï => .mk ((ga,.list [])::(ca,.list (cs.map aT))::X) ?_)));refine TG.weak (.perm (o5 _ _ _)) (TG.freeze (D8:=yi n d cs .any .any .any .any .any ga) (by repeat constructor) ?_);refine ig (k:=5) aT (JG n d cs X) ⋯ (fun A' D0 led' F6=>ad (hG A' D0.h) 20 (eH (k:=5) fun it gl hI => .mk (l:=(ga,.list [])::X) hI (.mk (fun O y=>y _ _ ga (W2.start ë)) @_))) ?_ ?_ (fun O=>@_)
 ·intro gl p ps xs C5 ga h;have hr:=h.room;refine .mk (fun A' D0 led' F6=>dK D0.h @_ @_ @_ (cY _ rfl _ _ rfl rfl rfl)) ?_;refine eD (Xi n d cs (X++gl) p ps) (eE (p:=yy n p) (fun A' D0 led' F6=>cb (hG A' D0.h) 20 (bK (fun c1=>bL (fun c2=>⟨rfl,iff_of_true rfl ⟨beq_iff_eq.mp c1,c2⟩⟩) fun c2=>⟨rfl,iff_of_false d3 fun q=>c2 q.2⟩) fun c1=>⟨rfl,iff_of_false d3 fun q=>beq_eq_false_iff_ne.mp c1 q.1⟩)) (fun c=>?_) fun c=>bk (R8.mk (fun O y=>y _ _ _ _ ga (h.same c)) @_)) fun qi qj xs C5 gc h=>?_
  ·refine ae (h.cut c) fun rest O2 g=>?_;subst O2;refine cK (dI fun A' D0 led' F6=>aF (hG A' D0.h) 40 ⟨bz (Zr ..),C6.mk (ta D0.h (C6.mk (ta D0.h (C6.mk (dn .here (by rw[j7];omega) (.mk ((ga,.list (xs++[_]))::(X++gl)) ?_))))))⟩);refine TG.freeze (D8:=kK n d (.str p.tag) (.int (p.i1:Nat)) (.int (p.i2:Nat)) (.int (p.j1:Nat)) (.int (p.j2:Nat)) (.lst (cs.map aT)) (.int ((n:Int)+(n:Int))) (.lst (xs++[_]))) (by repeat constructor) ?_;refine cK (zz (fun A' D0 led' F6=>ad (hG A' D0.h) 20 (.mk (X++gl) ?_)) @_ @_);refine cK (dI fun A' D0 led' F6=>aF (hG A' D0.h) 20 (C6.mk (cR rfl fun gc hgc => .mk ((gc,.list [])::(X++gl)) ?_)));exact cK (dI fun A' D0 led' F6=>aF (hG A' D0.h) 40 (C6.mk (oK D0.h (C6.mk (oK D0.h (.mk ((gc,.list [])::(X++gl)) (bk (R8.mk (fun O y=>y _ _ _ _ gc g) @_))))))))
  ·have hr:=h.room;refine cK (dI fun A' D0 led' F6=>aF (hG A' D0.h) 20 ⟨bz (Zr ..),C6.mk (dn .here (by rw[j7];omega) (.mk ((gc,.list (xs++[_]))::(X++gl)) ?_))⟩);exact bk (.next (l:=(gc,.list (xs++[_]))::X) (.mk (fun O y=>y _ _ gc h.put) @_))
 ·intro xs C5 ga h;have hr:=h.room;refine cK (TG.mono (K:=KE fun O=>True) (eE (p:=C5=[.lst xs]) (fun A' D0 led' F6=>?_) (fun c=>?_) fun c=>?_) fun f st C5 h=>?_)
  ·refine cb (hG A' D0.h) 40 (C6.mk (oP (.own (Zr ..)) ⋯ (bK (fun c1=>C6.mk (gB (.own (Zr ..)) ⋯ (mh (fun c2=>?_) fun c2=>⟨rfl,iff_of_true rfl (h.many c1 c2)⟩))) fun c1=>⟨rfl,iff_of_false d3 fun q=>?_⟩)))
   ·refine aU (h.one c2) fun q e h1 h2=>?_;refine And.intro (.mk list_getitem_lookup (bz (Zr ..))) (C6.mk (ee (.own (Zr ..)) (by decide) (by decide) (x:=bg q) (by rw[e];rfl) (C6.mk (fq (by decide) (by decide) (x:=.str q.tag) rfl (bK (fun c3=>?_) fun c3=>?_)))))
    ·exact⟨rfl,iff_of_false d3 fun q'=>nomatch (h1 (beq_iff_eq.mp c3)).symm.trans q'⟩
    ·exact⟨rfl,iff_of_true rfl (h2 (beq_eq_false_iff_ne.mp c3))⟩
   ·rw[h.none c1] at q;cases q
  ·subst c;refine TG.freeze (D8:=kK n d .any .any .any .any .any (.lst (cs.map aT)) (.int ((n:Int)+(n:Int))) (.lst xs)) (by repeat constructor) ?_;exact cK (zz (fun A' D0 led' F6=>ad (hG A' D0.h) 20 (.mk X (bk (KE.mk trivial)))) @_ @_)
  ·induction h.last with
   |inl e=>subst e;exact bk (KE.mk trivial)
   |inr e=>exact absurd e c
  ·induction h with
   |mk _=>exact bk rfl
noncomputable def sv(x:Str):Str:=(Zw "\t" ++ x)
theorem Ps{t u1:Tok}(hx:x.length<10^5):Meets (Builtin.«str.format» ⟨[.str (Str.mk #[9,123,125]) t,.str x u1],[]⟩) (fun O R s=>∀t' k,R (.ok (.ret (.str ((Zw "\t" ++ x)) t'))) {s with toks:=k}) :=
 fY (F:=[9,123,125]) (.field (l:=[9]) (rest:=[]) (L:=Zw "\t") rfl (j5 rfl) rfl rfl (.str (n7 hx)) (by decide +kernel) KFm.cat_ex .done) (j5 rfl) (j5 rfl)
noncomputable def su(x y z:Str):Str:=(((Zw "--- " ++ x)++y)++z)
theorem Pq{z:Str}{t u1 u2 u3:Tok}(hx:x.length<10^5)(hy:y.length<10^5)(hz:z.length<10^5):Meets (Builtin.«str.format» ⟨[.str (Str.mk #[45,45,45,32,123,125,123,125,123,125]) t,.str x u1,.str y u2,.str z u3],[]⟩) (fun O R s=>∀t' k,R (.ok (.ret (.str ((((Zw "--- " ++ x)++y)++z)) t'))) {s with toks:=k}) :=
 fY (F:=[45,45,45,32,123,125,123,125,123,125]) (.field (l:=[45,45,45,32]) (rest:=[123,125,123,125]) (L:=Zw "--- ") rfl (j5 rfl) rfl rfl (.str (n7 hx)) (by decide +kernel) KFm.cat_ex (.field (l:=[]) (rest:=[123,125]) (L:=Zw "") rfl (j5 rfl) rfl rfl (.str (n7 hy)) (by decide +kernel) KFm.cat_te (.field (l:=[]) (rest:=[]) (L:=Zw "") rfl (j5 rfl) rfl rfl (.str (n7 hz)) (by decide +kernel) KFm.cat_te .done))) (j5 rfl) (j5 rfl)
noncomputable def yT(x y z:Str):Str:=(((Zw "+++ " ++ x)++y)++z)
theorem Pr{z:Str}{t u1 u2 u3:Tok}(hx:x.length<10^5)(hy:y.length<10^5)(hz:z.length<10^5):Meets (Builtin.«str.format» ⟨[.str (Str.mk #[43,43,43,32,123,125,123,125,123,125]) t,.str x u1,.str y u2,.str z u3],[]⟩) (fun O R s=>∀t' k,R (.ok (.ret (.str ((((Zw "+++ " ++ x)++y)++z)) t'))) {s with toks:=k}) :=
 fY (F:=[43,43,43,32,123,125,123,125,123,125]) (.field (l:=[43,43,43,32]) (rest:=[123,125,123,125]) (L:=Zw "+++ ") rfl (j5 rfl) rfl rfl (.str (n7 hx)) (by decide +kernel) KFm.cat_ex (.field (l:=[]) (rest:=[123,125]) (L:=Zw "") rfl (j5 rfl) rfl rfl (.str (n7 hy)) (by decide +kernel) KFm.cat_te (.field (l:=[]) (rest:=[]) (L:=Zw "") rfl (j5 rfl) rfl rfl (.str (n7 hz)) (by decide +kernel) KFm.cat_te .done))) (j5 rfl) (j5 rfl)
noncomputable def oh(x y z:Str):Str:=(((((Zw "@@ -" ++ x)++Zw " +")++y)++Zw " @@")++z)
theorem PD{z:Str}{t u1 u2 u3:Tok}(hx:x.length<10^5)(hy:y.length<10^5)(hz:z.length<10^5):Meets (Builtin.«str.format» ⟨[.str (Str.mk #[64,64,32,45,123,125,32,43,123,125,32,64,64,123,125]) t,.str x u1,.str y u2,.str z u3],[]⟩) (fun O R s=>∀t' k,R (.ok (.ret (.str ((((((Zw "@@ -" ++ x)++Zw " +")++y)++Zw " @@")++z)) t'))) {s with toks:=k}) :=
 fY (F:=[64,64,32,45,123,125,32,43,123,125,32,64,64,123,125]) (.field (l:=[64,64,32,45]) (rest:=[32,43,123,125,32,64,64,123,125]) (L:=Zw "@@ -") rfl (j5 rfl) rfl rfl (.str (n7 hx)) (by decide +kernel) KFm.cat_ex (.field (l:=[32,43]) (rest:=[32,64,64,123,125]) (L:=Zw " +") rfl (j5 rfl) rfl rfl (.str (n7 hy)) (by decide +kernel) rfl (.field (l:=[32,64,64]) (rest:=[]) (L:=Zw " @@") rfl (j5 rfl) rfl rfl (.str (n7 hz)) (by decide +kernel) rfl .done))) (j5 rfl) (j5 rfl)
noncomputable def yU(x y z:Str):Str:=(((Zw "*** " ++ x)++y)++z)
theorem Pz{z:Str}{t u1 u2 u3:Tok}(hx:x.length<10^5)(hy:y.length<10^5)(hz:z.length<10^5):Meets (Builtin.«str.format» ⟨[.str (Str.mk #[42,42,42,32,123,125,123,125,123,125]) t,.str x u1,.str y u2,.str z u3],[]⟩) (fun O R s=>∀t' k,R (.ok (.ret (.str ((((Zw "*** " ++ x)++y)++z)) t'))) {s with toks:=k}) :=
 fY (F:=[42,42,42,32,123,125,123,125,123,125]) (.field (l:=[42,42,42,32]) (rest:=[123,125,123,125]) (L:=Zw "*** ") rfl (j5 rfl) rfl rfl (.str (n7 hx)) (by decide +kernel) KFm.cat_ex (.field (l:=[]) (rest:=[123,125]) (L:=Zw "") rfl (j5 rfl) rfl rfl (.str (n7 hy)) (by decide +kernel) KFm.cat_te (.field (l:=[]) (rest:=[]) (L:=Zw "") rfl (j5 rfl) rfl rfl (.str (n7 hz)) (by decide +kernel) KFm.cat_te .done))) (j5 rfl) (j5 rfl)
noncomputable def lg(x y:Str):Str:=(((Zw "*** " ++ x)++Zw " ****")++y)
theorem PC{t u1 u2:Tok}(hx:x.length<10^5)(hy:y.length<10^5):Meets (Builtin.«str.format» ⟨[.str (Str.mk #[42,42,42,32,123,125,32,42,42,42,42,123,125]) t,.str x u1,.str y u2],[]⟩) (fun O R s=>∀t' k,R (.ok (.ret (.str ((((Zw "*** " ++ x)++Zw " ****")++y)) t'))) {s with toks:=k}) :=
 fY (F:=[42,42,42,32,123,125,32,42,42,42,42,123,125]) (.field (l:=[42,42,42,32]) (rest:=[32,42,42,42,42,123,125]) (L:=Zw "*** ") rfl (j5 rfl) rfl rfl (.str (n7 hx)) (by decide +kernel) KFm.cat_ex (.field (l:=[32,42,42,42,42]) (rest:=[]) (L:=Zw " ****") rfl (j5 rfl) rfl rfl (.str (n7 hy)) (by decide +kernel) rfl .done)) (j5 rfl) (j5 rfl)
noncomputable def gq(x y:Str):Str:=(((Zw "--- " ++ x)++Zw " ----")++y)
theorem PA{t u1 u2:Tok}(hx:x.length<10^5)(hy:y.length<10^5):Meets (Builtin.«str.format» ⟨[.str (Str.mk #[45,45,45,32,123,125,32,45,45,45,45,123,125]) t,.str x u1,.str y u2],[]⟩) (fun O R s=>∀t' k,R (.ok (.ret (.str ((((Zw "--- " ++ x)++Zw " ----")++y)) t'))) {s with toks:=k}) :=
 fY (F:=[45,45,45,32,123,125,32,45,45,45,45,123,125]) (.field (l:=[45,45,45,32]) (rest:=[32,45,45,45,45,123,125]) (L:=Zw "--- ") rfl (j5 rfl) rfl rfl (.str (n7 hx)) (by decide +kernel) KFm.cat_ex (.field (l:=[32,45,45,45,45]) (rest:=[]) (L:=Zw " ----") rfl (j5 rfl) rfl rfl (.str (n7 hy)) (by decide +kernel) rfl .done)) (j5 rfl) (j5 rfl)
noncomputable abbrev gI(C0:ZJ)(w:ZQ)(S:Str->Bool)(n:Nat):D9:=.obj (fun O o=>Obj.SetObjOf (a8 C0 w) o S n) fun O O O O x=>x
theorem Bc{S:Str->Bool}{t:Tok}{led led':aa}{Q:Bool->Zx->Prop}(hn:n+1<scanBound)
  (U:Upd d (gI C0 w S n) (gI C0 w (fun k=>S k||decide (k=x)) (if S x then n else n+1)) led led')
  (Sm:D7 B C1 s Z ⟨loc,led⟩) (hQ:∀s',D7 B C1 s' Z ⟨loc,led'⟩->E7 (aC C1 ⟨loc,led⟩) s Z s' Z (aC C1 ⟨loc,led'⟩)->Q (!S x) s'):ZS (ZP C0 w) A (setAdd d (.str x t)) Q E s:=by
 refine ae (Sm.own _ U.mem) fun o ho Ē=>?_;dsimp only at ho;unfold setAdd;refine ZF (Zq ((a8 C0 w).pyHash (strKind_is C0 w x t) ?_));refine wpAny_setAddHashed_of (s:={ s with toks:=s.toks+1}) (strKind_is C0 w x t) rfl (Ē.setOf ho ⋯) hn fun h' K1 hS'=>?_;refine ae hS'.objOf fun so' Ì Ο=>?_;have P:=Sm.toC7.upd U (h':=h') (tk:=s.toks+1) (fun b ob hb e=>K1.extBut b ob hb e) rfl rfl ⟨so',Ì,Ο⟩;exact hQ _ (Sm.after P.1 P.2) P.2.toF
theorem Kk{S:Str->Bool}{led:aa}{Q:Unit->Zx->Prop}(hn:n<scanBound)
  (Sm:D7 B C1 s Z ⟨loc,(d,gI C0 w S n)::led⟩) (hQ:∀s',D7 B C1 s' Z ⟨loc,(d,gI C0 w S n)::led⟩->E7 (aC C1 ⟨loc,(d,gI C0 w S n)::led⟩) s Z s' Z (aC C1 ⟨loc,(d,gI C0 w S n)::led⟩)->Q () s'):ZS (ZP C0 w) A (setUnled d) Q E s:=by
 refine ae (Sm.own _ (Zr ..)) fun o ho Ē=>?_;dsimp only at ho;obtain⟨hex,es,ep,t,hd,Ð,Υ,W',hf⟩:=Ē;have ŕ:es.size<scanBound:=by rw[W'];exact hn
 have hf':({t with led:=false}:d5).fits es.size=true:=by cases t;exact hf
 unfold setUnled;refine Zq (j8 ho hd hf ?_);dsimp only;refine wpAny_storeSet_of ho hd ?_ (fits_of_scanBound ŕ);refine aA (SetOf_store (knd:=a8 C0 w) ho hex hd Ð Υ ŕ hf') fun O hS=>?_;refine ae hS.objOf fun so' Ì Ο=>?_;rw[W'] at Ο;have P:=Sm.toC7.upd (Upd.here (o':=gI C0 w S n)) (h':=s.heap.update d (Obj.putSet es {t with led:=false})) (tk:=s.toks) (fun b ob hb e=>(c0 ..).extBut b ob hb e) rfl rfl ⟨so',Ì,Ο⟩;exact hQ _ (Sm.after P.1 P.2) P.2.toF
theorem Ff{K:Frag}{c1 c2:Str}{k1 k2:Nat}{p1 p2 p:Pos}{t:Tok}(hc:∀s:Zx,K.In s.heap->∀(Q:Bool->Zx->Prop),(∀b,Q b s)->ZS (ZP C0 w) A (inMainModule C1) Q E s)
  (Sm:D7 (am K) C1 s Z st) (hQ:∀s',D7 (am K) C1 s' Z st->E7 (aC C1 st) s Z s' Z (aC C1 st)->Q (.bool (x==c1||x==c2)) s') :
  ZS (ZP C0 w) A (k7 (.Set [.Constant (.str c1) k1 p1,.Constant (.str c2) k2 p2] 0 p) C1) (fun b s₂=>KdiMark (ZP C0 w) A E b (fun s₃=>ZS (ZP C0 w) A (u0 .In (.str x t) b) Q E s₃) s₂) E s:=by
 obtain⟨loc,led⟩:=st;rw[arm_eval_Set];refine Zq (a9 ?_);refine Zq (hc s (dg Sm.base Sm.frozen) _ fun b=>?_);rw[kds_star [.Constant (.str c1) k1 p1,.Constant (.str c2) k2 p2] rfl,m4];refine kds_core (ts:=(evalEach [.Constant (.str c1) k1 p1,.Constant (.str c2) k2 p2] C1).map fun t=>do let v ← t;standAt p;o4 v) rfl ?_ ?_ ?_ fun lb=>?_
 ·refine List.findIdx?_eq_none_iff.mpr fun x hx=>?_;refine ae (ZV.mp hx) fun t O O3=>?_;subst O3;rfl
 ·rw[Zu,kds_len];show 2<=30;decide
 ·rw[m4];try rfl
 ·have P:=Sm.toC7.push (o:={ cls:=.type "set",dict:=none,data:=.set #[] 0 (.fresh 0 0 lb)}) (ao:=gI C0 w (fun O=>false) 0) rfl s.toks ⟨_,ZB _ rfl,PyProof.Rows.setObjOf_fresh lb⟩;have S0:=Sm.after P.1 P.2;refine kds_all p _ _ _ ?_;show ZS (ZP C0 w) A (k7 (.Constant (.str c1) k1 p1) C1) (fun v s'=>ZS (ZP C0 w) A (k7 (.Constant (.str c2) k2 p2) C1) (fun v' L5=>KdsFill (ZP C0 w) A E _ _ _ [v,v'] L5) E s') E _;refine w0 (w0 ?_);have S1:=(S0.toks (s.toks+1)).toks (s.toks+1+1);refine kds_fill_cons (Bc (n:=0) (by decide) Upd.here S1 fun s2 S2 X2=>?_);refine kds_fill_cons (Bc (n:=1) (by decide) Upd.here S2 fun s3 S3 X3=>?_);refine kds_fill_nil rfl (kdi_mark ?_);have ŋ:(if (false||decide (c2=c1))=true then 1 else 1+1)<scanBound:=by split <;> decide
  refine Kk ŋ S3 fun s4 S4 X4=>?_;refine ae (S4.own _ (Zr ..)) fun o ho Ē=>?_;dsimp only at ho;refine wpAny_inSet_of (knd:=a8 C0 w) (k:=x) (strKind_is C0 w x t) rfl (Ē.setOf ho ŋ) ?_;have e:((false||decide (x=c1))||decide (x=c2))=(x==c1||x==c2):=by
   rw[Bool.false_or,y1,Bool.or_eq_true,Bool.or_eq_true,decide_eq_true_eq,decide_eq_true_eq,beq_iff_eq,beq_iff_eq]
  rw[e];have X:=(((P.2.toF.trans (E7.toks (s.toks+1+1))).trans X2).trans X3).trans X4;exact hQ _ (S4.drop1.toks _) ((X.trans (E7.toks _)).dropF (l:=[_]))
theorem RH{K:Frag}(hc:kdsCode K C1.code=true):∀s:Zx,K.In s.heap->∀(Q:Bool->Zx->Prop),(∀b,Q b s)->ZS (ZP C0 w) A (inMainModule C1) Q E s:=fun s X Q h=>kds_main X hc h
theorem HN{K:Frag}{l:Expr}{c1 c2:Str}{k1 k2:Nat}{p1 p2 p:Pos}{whole:Sem Value}{R:Bool->St->Prop}(hc:kdsCode K C1.code=true)(hm:behindInMarks .In (.Set [.Constant (.str c1) k1 p1,.Constant (.str c2) k2 p2] 0 p)=true)
  (h:T C0 w A (am K) C1 Val (k7 l C1) st fun v C4=>∃x,v=.str x/\R (x==c1||x==c2) C4):T C0 w A (am K) C1 aK (isTrue (.Compare l [.In] [.Set [.Constant (.str c1) k1 p1,.Constant (.str c2) k2 p2] 0 p] pos) C1 whole) st R:=fun s Z S Q E hQ=>by
 refine kdi_test hm (h s Z S _ _ fun v y s1 Z1 aE k S1 V X1=>?_);refine ae k ?_;clear k;intro x O2 k;subst O2
 (refine aw V.inv fun t_ e_=>?_;subst e_)
 refine Ff (RH hc) S1 fun s2 S2 X2=>?_;exact wpAny_truthy_bool (hQ _ _ s2 Z1 aE k S2 rfl (X1.trans X2))
theorem HI{K:Frag}{l:Expr}{c1 c2:Str}{k1 k2:Nat}{p1 p2 p:Pos}(hc:∀ {E:Value->Zx->Prop},∀s:Zx,K.In s.heap->∀(Q:Bool->Zx->Prop),(∀b,Q b s)->ZS (ZP C0 w) A (inMainModule C1) Q E s)(hm:behindInMarks .In (.Set [.Constant (.str c1) k1 p1,.Constant (.str c2) k2 p2] 0 p)=true)
  (h:T C0 w A (am K) C1 Val (k7 l C1) st fun v C4=>∃x,v=.str x/\R (.bool (x==c1||x==c2)) C4):T C0 w A (am K) C1 Val (k7 (.Compare l [.In] [.Set [.Constant (.str c1) k1 p1,.Constant (.str c2) k2 p2] 0 p] pos) C1) st R:=fun s Z S Q E hQ=>by
 refine kdi_eval hm (h s Z S _ _ fun v y s1 Z1 aE k S1 V X1=>?_);refine ae k ?_;clear k;intro x O2 k;subst O2
 (refine aw V.inv fun t_ e_=>?_;subst e_)
 refine Ff hc S1 fun s2 S2 X2=>?_;exact hQ _ _ s2 Z1 aE k S2 (.bool _) (X1.trans X2)
theorem te(hx:x.length<10^5)(h:R (.str (sv x)) st):FC C0 w A B C1 (.blt "str.format") [.str (Str.mk (k6 [9,123,125])),.str x] [] st R :=
 Ib (fun Z t=>Val.eStr fun O=>Ps hx) h
theorem Ic{z:Str}(hx:x.length<10^5)(hy:y.length<10^5)(hz:z.length<10^5)(h:R (.str (su x y z)) st):FC C0 w A B C1 (.blt "str.format") [.str (Str.mk (k6 [45,45,45,32,123,125,123,125,123,125])),.str x,.str y,.str z] [] st R :=
 tc (fun Z t=>Val.eStr fun O=>Val.eStr fun O=>Val.eStr fun O=>Pq hx hy hz) h
theorem Yb{z:Str}(hx:x.length<10^5)(hy:y.length<10^5)(hz:z.length<10^5)(h:R (.str (yT x y z)) st):FC C0 w A B C1 (.blt "str.format") [.str (Str.mk (k6 [43,43,43,32,123,125,123,125,123,125])),.str x,.str y,.str z] [] st R :=
 tc (fun Z t=>Val.eStr fun O=>Val.eStr fun O=>Val.eStr fun O=>Pr hx hy hz) h
theorem Yg{z:Str}(hx:x.length<10^5)(hy:y.length<10^5)(hz:z.length<10^5)(h:R (.str (oh x y z)) st):FC C0 w A B C1 (.blt "str.format") [.str (Str.mk (k6 [64,64,32,45,123,125,32,43,123,125,32,64,64,123,125])),.str x,.str y,.str z] [] st R :=
 tc (fun Z t=>Val.eStr fun O=>Val.eStr fun O=>Val.eStr fun O=>PD hx hy hz) h
theorem Yc{z:Str}(hx:x.length<10^5)(hy:y.length<10^5)(hz:z.length<10^5)(h:R (.str (yU x y z)) st):FC C0 w A B C1 (.blt "str.format") [.str (Str.mk (k6 [42,42,42,32,123,125,123,125,123,125])),.str x,.str y,.str z] [] st R :=
 tc (fun Z t=>Val.eStr fun O=>Val.eStr fun O=>Val.eStr fun O=>Pz hx hy hz) h
theorem Ye(hx:x.length<10^5)(hy:y.length<10^5)(h:R (.str (lg x y)) st):FC C0 w A B C1 (.blt "str.format") [.str (Str.mk (k6 [42,42,42,32,123,125,32,42,42,42,42,123,125])),.str x,.str y] [] st R :=
 zN (fun Z t=>Val.eStr fun O=>Val.eStr fun O=>PC hx hy) h
theorem Yd(hx:x.length<10^5)(hy:y.length<10^5)(h:R (.str (gq x y)) st):FC C0 w A B C1 (.blt "str.format") [.str (Str.mk (k6 [45,45,45,32,123,125,32,45,45,45,45,123,125])),.str x,.str y] [] st R :=
 zN (fun Z t=>Val.eStr fun O=>Val.eStr fun O=>PA hx hy) h
noncomputable abbrev sE:Str:=⟨⟨[]⟩⟩
noncomputable def dB(d:Str):Str:=if d.length=0 then sE else sv d
noncomputable def aV(a:List Str)(i j:Nat):List Str:=(a.drop i).take (j-i)
noncomputable def de(a b:List Str)(o:Op):List Str :=
 if o.tag=ah then (aV a o.i1 o.i2).map (Ng ++ ·)
 else (if o.tag=ba∨o.tag=bc then (aV a o.i1 o.i2).map (Nf ++ ·) else [])++(if o.tag=ba∨o.tag=bb then (aV b o.j1 o.j2).map (Nd ++ ·) else [])
noncomputable def Dg:Op:=⟨sE,0,0,0,0⟩
noncomputable def aG(g:List Op):Op:=g.headD Dg
noncomputable def aD(g:List Op):Op:=g.getLastD Dg
noncomputable def kW(a b:List Str)(lt:Str)(g:List Op):List Str:=oh (bY (aG g).i1 (aD g).i2) (bY (aG g).j1 (aD g).j2) lt::g.flatMap (de a b)
noncomputable def kQ(ff tf fd td lt:Str):List Str:=[su ff (dB fd) lt,yT tf (dB td) lt]
noncomputable def dk(a b:List Str)(ff tf fd td lt:Str):Bool->List (List Op)->List Str
 |_,[]=>[]
 |started,g::gs=>(if started then [] else kQ ff tf fd td lt)++(kW a b lt g++dk a b ff tf fd td lt true gs)
structure H3 (la lb:Nat) (g:List Op):Prop where
 ne:g≠[]
 i:∀o∈g,o.i1<=o.i2/\o.i2<=la
 j:∀o∈g,o.j1<=o.j2/\o.j2<=lb
 ii:(aG g).i1<=(aD g).i2
 jj:(aG g).j1<=(aD g).j2
 len:g.length<10^7
 tg:∀o∈g,o.tag=ah∨o.tag=ba∨o.tag=bc∨o.tag=bb
theorem H3.split{la lb:Nat}{g:List Op}(h:H3 la lb g):∃os,g=aG g::os:=by
 cases g with
 |nil=>exact absurd rfl h.ne
 |cons o os=>exact⟨os,rfl⟩
theorem H3.last{la lb:Nat}{g:List Op}(h:H3 la lb g):∃os,g=os++[aD g]:=by
 rcases B5 g with h' |⟨l,x,h'⟩
 ·exact absurd h' h.ne
 ·refine⟨l,?_⟩;rw[B6] at h';subst h';simp[aD,List.getLastD_eq_getLast?]
theorem H3.i2{la lb:Nat}{g:List Op}(h:H3 la lb g):(aD g).i2<=la/\(aD g).j2<=lb:=by
 refine aw h.last fun os e=>?_;have hm:aD g∈g:=by
  rw[e];simp
  exact .inr (by rw[← e])
 exact⟨(h.i _ hm).2,(h.j _ hm).2⟩
def L1:Nat->Nat->List ab->Prop
 |_,_,[]=>True
 |i,j,t::ts=>i<=t.1/\j<=t.2.1/\L1 (t.1+t.2.2) (t.2.1+t.2.2) ts
theorem L1.mono{i' j':Nat}{ts:List ab}(h:L1 i j ts)(h1:i'<=i)(h2:j'<=j):L1 i' j' ts :=
 match ts,h with
 | [],_=>trivial
 |_::_,h=>⟨d7 h1 h.1,d7 h2 h.2.1,h.2.2⟩
theorem L1.app{xs ys zs:List ab}(k:∀i j,L1 i j ys->L1 i j zs):∀ {i j:Nat},L1 i j (xs++ys)->L1 i j (xs++zs):=by
 induction xs with
 |nil=>exact k _ _
 |cons x xs ih=>exact fun h=>⟨h.1,h.2.1,ih h.2.2⟩
theorem L1.cut{t:ab}{ys:List ab}(h0:t.2.2=0)(i j:Nat)(h:L1 i j (t::ys)):L1 i j ys :=
 h.2.2.mono (d7 h.1 (Nat.le_add_right ..)) (d7 h.2.1 (Nat.le_add_right ..))
theorem L1.join{s t:ab}{ys:List ab}(e1:s.1+s.2.2=t.1)(e2:s.2.1+s.2.2=t.2.1)(i j:Nat)(h:L1 i j (s::t::ys)):L1 i j ((s.1,s.2.1,s.2.2+t.2.2)::ys) :=
 ⟨h.1,h.2.1,h.2.2.2.2.mono (Nat.le_of_eq (e1▸(Nat.add_assoc ..).symm)) (Nat.le_of_eq (e2▸(Nat.add_assoc ..).symm))⟩
theorem L1.drop{s:ab×List ab}{r:List ab}(h:L1 0 0 (s.2++s.1::r)):L1 0 0 ((if s.1.2.2=0 then s.2 else s.2++[s.1])++r):=by
 split
 ·rename_i h0;exact L1.app (L1.cut h0) h
 ·rw[ZW];exact h
theorem L1.adj(ts:List ab):∀(s:ab×List ab) (r:List ab),L1 0 0 (s.2++s.1::(ts++r))->L1 0 0 (fm (ts.foldl cD s)++r):=by
 induction ts with
 |nil=>exact fun s r h=>h.drop
 |cons t ts ih =>
  intro s r h;rw[g6];refine ih _ r ?_;unfold cD;split
  ·rename_i hc
   exact L1.app (L1.join hc.1 hc.2) h
  ·exact L1.drop (s:=s) h
theorem L1.of_pairwise{la lb:Nat}{ts:List ab}:∀ {i j:Nat},ts.Pairwise zu->(∀t∈ts,i<=t.1/\j<=t.2.1)->(∀t∈ts,t.1+t.2.2<=la/\t.2.1+t.2.2<=lb)->i<=la->j<=lb->L1 i j (ts++[(la,lb,0)]):=by
 induction ts with
 |nil=>exact fun O O O h1 h2=>⟨h1,h2,trivial⟩
 |cons t ts ih=>exact fun hp hl hu h1 h2 =>
  have p:=u8.mp hp
  ⟨(hl t (Zr ..)).1,(hl t (Zr ..)).2,ih p.2 p.1 (fun u hm=>hu u (Zt _ hm)) (hu t (Zr ..)).1 (hu t (Zr ..)).2⟩
theorem zi{fl:Nat->Nat->Nat->Nat->ab}(ok:cw fl)(la lb:Nat):L1 0 0 (aQ fl la lb) :=
 L1.adj _ ((0,0,0),[]) _ ⟨ZZ _,ZZ _,L1.of_pairwise (Ex ok _ _ _ _ _ (ZM _) (ZM _)) (fun t ht=>⟨ZM _,ZM _⟩)
  (fun t ht=>have h:=yb ok (la-0) 0 la 0 lb (ZM _) (ZM _) t ht;⟨h.2.1,h.2.2.2.1⟩) (ZM _) (ZM _)⟩
def G4:Nat->Nat->List Op->Nat->Nat->Prop
 |i,j,[],i',j'=>i=i'/\j=j'
 |i,j,o::os,i',j'=>o.i1=i/\o.j1=j/\i<=o.i2/\j<=o.j2/\G4 o.i2 o.j2 os i' j'
theorem G4.nil:G4 i j [] i j:=⟨rfl,rfl⟩
theorem G4.one{o:Op}(h1:o.i1<=o.i2)(h2:o.j1<=o.j2):G4 o.i1 o.j1 [o] o.i2 o.j2:=⟨rfl,rfl,h1,h2,.nil⟩
theorem G4.append{xs ys:List Op}{m i' j':Nat}(h':G4 m n ys i' j'):∀ {i j:Nat},G4 i j xs m n->G4 i j (xs++ys) i' j':=by
 induction xs with
 |nil=>exact fun h=>h.1▸h.2▸h'
 |cons x xs ih=>exact fun h=>⟨h.1,h.2.1,h.2.2.1,h.2.2.2.1,ih h.2.2.2.2⟩
theorem G4.snoc{xs:List Op}{o:Op}{m:Nat}(p:G4 i j xs m k)(h:o.i1=m)(h':o.j1=k)(l1:o.i1<=o.i2)(l2:o.j1<=o.j2):G4 i j (xs++[o]) o.i2 o.j2:=G4.append (show G4 m k [o] _ _ from⟨h,h',h▸l1,h'▸l2,rfl,rfl⟩) p
theorem G4.split{xs ys:List Op}{i' j':Nat}:∀ {i j:Nat},G4 i j (xs++ys) i' j'->∃m n,G4 i j xs m n/\G4 m n ys i' j':=by
 induction xs with
 |nil=>exact fun h=>ed _ _ .nil h
 |cons x xs ih=>exact fun h=>bI (ih h.2.2.2.2) fun m n h1 h2=>ed m n ⟨h.1,h.2.1,h.2.2.1,h.2.2.2.1,h1⟩ h2
theorem G4.le{xs:List Op}{i' j':Nat}:∀ {i j:Nat},G4 i j xs i' j'->i<=i'/\j<=j':=by
 induction xs with
 |nil=>exact fun h=>⟨Nat.le_of_eq h.1,Nat.le_of_eq h.2⟩
 |cons x xs ih=>exact fun h=>⟨d7 h.2.2.1 (ih h.2.2.2.2).1,d7 h.2.2.2.1 (ih h.2.2.2.2).2⟩
theorem G4.mem{xs:List Op}{i' j':Nat}:∀ {i j:Nat},G4 i j xs i' j'->∀o∈xs,i<=o.i1/\o.i1<=o.i2/\o.i2<=i'/\j<=o.j1/\o.j1<=o.j2/\o.j2<=j':=by
 induction xs with
 |nil=>exact fun O=>bC
 |cons x xs ih=>exact fun h o ho=>(Zy.mp ho).elim (fun e=>e▸⟨Nat.le_of_eq h.1.symm,h.1▸h.2.2.1,h.2.2.2.2.le.1,Nat.le_of_eq h.2.1.symm,h.2.1▸h.2.2.2.1,h.2.2.2.2.le.2⟩) fun ho =>
  have r:=ih h.2.2.2.2 o ho
  ⟨d7 h.2.2.1 r.1,r.2.1,r.2.2.1,d7 h.2.2.2.1 r.2.2.2.1,r.2.2.2.2⟩
theorem Vg{ai bj:Nat}(a1:i<=ai)(a2:j<=bj):G4 i j (bG i ai j bj) ai bj:=by
 unfold bG;split
 ·exact⟨rfl,rfl,a1,a2,rfl,rfl⟩
 ·split
  ·exact⟨rfl,rfl,a1,a2,rfl,rfl⟩
  ·split
   ·exact⟨rfl,rfl,a1,a2,rfl,rfl⟩
   ·rename_i q1 q2
    exact⟨Nat.le_antisymm a1 (Nat.not_lt.mp q1),Nat.le_antisymm a2 (Nat.not_lt.mp q2)⟩
theorem Rn(t:ab):G4 t.1 t.2.1 (cV t) (t.1+t.2.2) (t.2.1+t.2.2):=by
 unfold cV;split
 ·rename_i h
  exact⟨h▸rfl,h▸rfl⟩
 ·exact⟨rfl,rfl,Nat.le_add_right ..,Nat.le_add_right ..,rfl,rfl⟩
theorem Of(ts:List ab):∀(s:(Nat×Nat)×List Op),L1 s.1.1 s.1.2 ts->G4 0 0 s.2 s.1.1 s.1.2->G4 0 0 (ts.foldl cz s).2 (ts.foldl cz s).1.1 (ts.foldl cz s).1.2:=by
 induction ts with
 |nil=>exact fun O O h=>h
 |cons t ts ih=>exact fun s ha h=>ih (cz s t) ha.2.2 (G4.append (Rn t) (G4.append (Vg ha.1 ha.2.1) h))
theorem Oh:∀(ts:List ab) (s:(Nat×Nat)×List Op) (la lb:Nat),((ts++[(la,lb,0)]).foldl cz s).1=(la,lb):=fun ts s la lb=>by
 rw[List.foldl_append];rfl
theorem ml{fl:Nat->Nat->Nat->Nat->ab}(ok:cw fl)(la lb:Nat):G4 0 0 (bR (aQ fl la lb)) la lb:=by
 have h:=Of (aQ fl la lb) ((0,0),[]) (zi ok la lb) .nil;rw[show ((aQ fl la lb).foldl cz ((0,0),[])).1=(la,lb) from Oh _ _ _ _] at h;exact h
def A_(la lb:Nat)(g:List Op):Prop:=∃i j i' j',G4 i j g i' j'/\i'<=la/\j'<=lb
theorem pS(f:Op->Op)(z:Op)(xs:List Op):ce f (xs++[z])=xs++[f z]:=by
 induction xs with
 |nil=>rfl
 |cons x xs ih =>
  cases xs with
  |nil=>rfl
  |cons y xs=>exact congrArg (List.cons x) ih
theorem pB{P:List α->Prop}(xs:List α)(n:P [])(c:∀l x,P (l++[x])):P xs :=
 (B5 xs).elim (fun e=>e▸n) fun⟨l,x,e⟩=>(e.trans (B6 ..))▸c l x
theorem max_le{a b:Nat}(h:a<=b):max a (b-n)<=b:=Nat.max_le.mpr ⟨h,Nat.sub_le ..⟩
theorem le_min{a b:Nat}(h:a<=b):a<=min b (a+n):=Nat.le_min.mpr ⟨h,Nat.le_add_right ..⟩
theorem A_.head{la lb:Nat}{g:List Op}(h:A_ la lb g):A_ la lb (iR (br n) g):=by
 cases g with
 |nil=>exact h
 |cons o os =>
  refine dq h fun i j i' j' hp h1 h2=>?_;show A_ la lb (br n o::os);unfold br;split
  ·exact il _ _ i' j' ⟨rfl,rfl,max_le (hp.1▸hp.2.2.1),max_le (hp.2.1▸hp.2.2.2.1),hp.2.2.2.2⟩ h1 h2
  ·exact h
theorem A_.last{la lb:Nat}{g:List Op}:A_ la lb g->A_ la lb (ce (aZ n) g) :=
 pB (P:=fun g=>A_ la lb g->A_ la lb (ce (aZ n) g)) g (fun h=>h) fun l x h=>by
  rw[pS];refine dq h fun i j i' j' hp h1 h2=>bI hp.split fun m k p1 p2=>?_;unfold aZ;split
  ·exact il i j _ _ (p1.snoc p2.1 p2.2.1 (le_min (p2.1▸p2.2.2.1)) (le_min (p2.2.1▸p2.2.2.2.1))) (d7 (Nat.min_le_left ..) (d7 p2.2.2.2.2.le.1 h1)) (d7 (Nat.min_le_left ..) (d7 p2.2.2.2.2.le.2 h2))
  ·exact h
theorem yI{Q:List Op->Prop}{I:List Op->List Op->Prop}(done:∀group,I group []->group≠[]->Q group)
  (cut:∀group o os,I group (o::os)->Q (group++[⟨o.tag,o.i1,min o.i2 (o.i1+n),o.j1,min o.j2 (o.j1+n)⟩])/\I [⟨o.tag,max o.i1 (o.i2-n),o.i2,max o.j1 (o.j2-n),o.j2⟩] os)
  (keep:∀group o os,I group (o::os)->I (group++[o]) os) (codes:List Op):∀group,I group codes->∀g∈bt n group codes,Q g:=by
 induction codes with
 |nil=>exact fun group h=>fi (P:=fun l=>∀g∈l,Q g) (fun O=>bC) (fun O=>bC) fun I3 O g hg=>ZK.mp hg▸done group h fun e=>I3 (e▸rfl)
 |cons o os ih=>exact fun group h=>nZ (P:=fun l=>∀g∈l,Q g) (fun O g hg=>(Zy.mp hg).elim (fun e=>e▸(cut group o os h).1) (ih _ (cut group o os h).2 g)) fun O=>ih _ (keep group o os h)
theorem sP(xs:List α)(y:α)(zs:List α):xs++[y]++zs=xs++y::zs:=ZW ..
theorem Pf{xs:List α}{y:α}:xs++[y]≠[]:=fun e=>nomatch (List.append_eq_nil_iff.mp e).2
theorem Sy{la lb:Nat}{codes:List Op}(h:A_ la lb codes)(I3:codes≠[]):∀g∈aI n codes,g≠[]/\A_ la lb g:=by
 unfold aI eK;rw[List.isEmpty_eq_false_iff.mpr I3];refine yI (Q:=fun g=>g≠[]/\A_ la lb g) (I:=fun group codes=>A_ la lb (group++codes)) (fun group h hn=>⟨hn,g7 group▸h⟩) (fun group o os h=>?_) (fun group o os h=>(sP ..).symm▸h) _ [] ((h.head (n:=n)).last (n:=n));refine dq h fun i j i' j' hp h1 h2=>bI hp.split fun m k p1 p2=>?_;exact⟨⟨Pf,il i j _ _ (p1.snoc p2.1 p2.2.1 (le_min (p2.1▸p2.2.2.1)) (le_min (p2.2.1▸p2.2.2.2.1))) (d7 (Nat.min_le_left ..) (d7 p2.2.2.2.2.le.1 h1)) (d7 (Nat.min_le_left ..) (d7 p2.2.2.2.2.le.2 h2))⟩,
  il _ _ i' j' ⟨rfl,rfl,max_le (p2.1▸p2.2.2.1),max_le (p2.2.1▸p2.2.2.2.1),p2.2.2.2.2⟩ h1 h2⟩
theorem FE{l:Nat}:bt n [] [aZ n (br n ⟨ah,i,k,j,l⟩)]=[]:=by
 unfold br aZ;rw[if_pos rfl,if_pos rfl];exact if_neg fun h=>Nat.not_lt.mpr (d7 (Nat.min_le_right ..) (Nat.add_le_add_left (Nat.le_add_right ..) _)) h.2
theorem kX:aI n []=[]:=FE
theorem Sq{fl:Nat->Nat->Nat->Nat->ab}(ok:cw fl)(la lb n:Nat):∀g∈aI n (bR (aQ fl la lb)),g≠[]/\A_ la lb g:=by
 by_cases h:bR (aQ fl la lb)=[]
 ·rw[h,kX];exact bC
 ·exact Sy ⟨0,0,la,lb,ml ok la lb,ZZ _,ZZ _⟩ h
theorem OF(f:Op->Op)(xs:List Op):(ce f xs).length=xs.length :=
 pB (P:=fun xs=>(ce f xs).length=xs.length) xs rfl fun l x=>by rw[pS,ZA,ZA];rfl
theorem OI(f:Op->Op)(xs:List Op):(iR f xs).length=xs.length:=by cases xs <;> rfl
theorem Ay(codes:List Op):(eK n codes).length<=codes.length+1:=by
 unfold eK;rw[OF,OI];split
 ·exact Nat.le_add_left ..
 ·exact Nat.le_succ _
theorem Sx{codes:List Op}:∀g∈aI n codes,g.length<=codes.length+2 :=
 yI (Q:=fun g=>g.length<=codes.length+2) (I:=fun group cs=>group.length+cs.length<=codes.length+1) (fun group h O=>Nat.le_succ_of_le h)
  (fun group o os h=>by
   rw[ZA];rw[Zz] at h ⊢;exact⟨by show _+1<=_;omega,by show 1+_<=_;omega⟩)
  (fun group o os h=>by
   rw[ZA];rw[Zz] at h;show _+1+_<=_;omega) _ [] (Nat.zero_add _▸Ay codes)
def lm(t:Str):Prop:=t=ah∨t=ba∨t=bc∨t=bb
def E4(os:List Op):Prop:=∀o∈os,lm o.tag
theorem E4.app{xs ys:List Op}(h:E4 xs)(h':E4 ys):E4 (xs++ys):=fun o ho=>(d8.mp ho).elim (h o) (h' o)
theorem E4.one{o:Op}(h:lm o.tag):E4 [o]:=fun p hp=>ZK.mp hp▸h
theorem E4.none:E4 []:=bC
theorem E4.hd{o:Op}(h:E4 (o::os)):lm o.tag:=h o (Zr ..)
theorem E4.tl{o:Op}(h:E4 (o::os)):E4 os:=fun p hp=>h p (Zt _ hp)
theorem Dd(bs:List ab):E4 (bR bs):=by
 have key:∀(ts:List ab) (s:(Nat×Nat)×List Op),E4 s.2->E4 (ts.foldl cz s).2:=by
  intro ts;induction ts with
  |nil=>intro s h;exact h
  |cons t ts ih =>
   intro s h;rw[g6];refine ih _ ((h.app ?_).app ?_)
   ·unfold bG;split
    ·exact .one (.inr (.inl rfl))
    ·split
     ·exact .one (.inr (.inr (.inl rfl)))
     ·split
      ·exact .one (.inr (.inr (.inr rfl)))
      ·exact .none
   ·unfold cV;split
    ·exact .none
    ·exact .one (.inl rfl)
 exact key bs ((0,0),[]) .none
theorem nX(n:Nat)(o:Op):(br n o).tag=o.tag:=by unfold br;split <;> rfl
theorem kN(n:Nat)(o:Op):(aZ n o).tag=o.tag:=by unfold aZ;split <;> rfl
theorem OG(h:E4 os):E4 (iR (br n) os):=by
 cases os with
 |nil=>exact h
 |cons o os=>exact E4.app (.one (nX n o▸h.hd)) h.tl
theorem OD:E4 os->E4 (ce (aZ n) os) :=
 pB (P:=fun os=>E4 os->E4 (ce (aZ n) os)) os (fun h=>h) fun l x h=>by
  rw[pS];exact E4.app (fun o ho=>h o (f8 _ ho)) (.one (kN n x▸h x (ZY _ (ZK.mpr rfl))))
theorem Sv{codes:List Op}(h:E4 codes):∀g∈aI n codes,E4 g:=by
 refine yI (Q:=E4) (I:=fun group cs=>E4 group/\E4 cs) (fun group h O=>h.1) (fun group o os h=>⟨h.1.app (.one h.2.hd),.one h.2.hd,h.2.tl⟩) (fun group o os h=>⟨h.1.app (.one h.2.hd),h.2.tl⟩) _ [] ⟨.none,?_⟩;unfold eK;refine OD (OG ?_);split
 ·exact .one (.inl rfl)
 ·exact h
noncomputable def dM(idx:Nat->List Nat):Nat->Nat->Nat
 |0,_=>0
 |i+1,j=>Nat.rec 0 (fun j O=>if j∈idx i then dM idx i j+1 else 0) j
section
variable{idx:Nat->List Nat}
theorem iB(h:j∈idx i):dM idx (i+1) (j+1)=dM idx i j+1:=if_pos h
theorem uz(h:j∉idx i):dM idx (i+1) (j+1)=0:=if_neg h
theorem LF(h:∀i j,j∈idx i->i∈idx i/\j∈idx j)(i:Nat):∀j:Nat,dM idx i j<=dM idx i i/\dM idx i j<=dM idx j j:=by
 induction i with
 |zero=>exact fun j=>⟨ZM _,ZM _⟩
 |succ i ih =>
  intro j;cases j with
  |zero=>exact⟨ZM _,ZM _⟩
  |succ j =>
   by_cases c:j∈idx i
   ·rw[iB c,iB (h i j c).1,iB (h i j c).2];exact⟨Nat.succ_le_succ (ih j).1,Nat.succ_le_succ (ih j).2⟩
   ·rw[uz c];exact⟨ZM _,ZM _⟩
structure Ã (idx:Nat->List Nat) (i:Nat) (s:(Int->Nat)×ab):Prop where
 row:∀y:Nat,s.1 ((y:Int)-1)=dM idx i y
 on:s.2.1=s.2.2.1
 ge:∀d,d<=i->dM idx d d<=s.2.2.2
theorem yQ{D:Int->Nat}{x:Int}(js:List Nat):∀s:(Int->Nat)×ab,(∀j∈js,x≠(j:Int))->(js.foldl (dl D i) s).1 x=s.1 x:=by
 induction js with
 |nil=>exact fun O O=>rfl
 |cons j js ih=>exact fun s h=>(ih _ fun j' h'=>h j' (Zt _ h')).trans (if_neg (h j (Zr ..)))
theorem Tj{D:Int->Nat}(js:List Nat):∀s:(Int->Nat)×ab,k∈js->(js.foldl (dl D i) s).1 (k:Int)=D ((k:Int)-1)+1:=by
 induction js with
 |nil=>exact fun O=>nofun
 |cons j js ih =>
  intro s h;by_cases c:k∈js
  ·exact ih _ c
  ·have q:=(Zy.mp h).resolve_right c;subst q;exact(yQ js _ fun j' h' e=>c ((Int.ofNat.inj e:k=j')▸h')).trans (if_pos rfl)
structure χ (idx:Nat->List Nat) (i:Nat) (js:List Nat) (t:ab):Prop where
 on:t.1=t.2.1
 ge:∀d,d<=i->dM idx d d<=t.2.2
 at_:i∈idx i->i∈js∨dM idx (i+1) (i+1)<=t.2.2
theorem χ.fold(h:∀i j,j∈idx i->i∈idx i/\j∈idx j){D:Int->Nat}(hD:∀y:Nat,D ((y:Int)-1)=dM idx i y)(js:List Nat):∀s:(Int->Nat)×ab,js.Pairwise (· < ·)->(∀j∈js,j∈idx i)->χ idx i js s.2->χ idx i [] (js.foldl (dl D i) s).2:=by
 induction js with
 |nil=>exact fun O O O h=>h
 |cons j js ih =>
  intro s hp hm e;have hj:=hm j (Zr ..);have p:=u8.mp hp;refine ih _ p.2 (fun j' h'=>hm j' (Zt _ h')) ?_;show χ idx i js (if s.2.2.2<D ((j:Int)-1)+1 then (i-D ((j:Int)-1),j-D ((j:Int)-1),D ((j:Int)-1)+1) else s.2);rw[hD];split
  ·rename_i c
   have g:=LF h (i+1) (j+1);rw[iB hj] at g;have n1 : ¬ j<i:=fun q=>Nat.not_le.mpr c (d7 g.2 (e.ge _ q));have n2 : ¬ i<j:=fun q=>(e.at_ (h i j hj).1).elim (fun m=>(Zy.mp m).elim (fun m=>j9 q m) fun m=>Nat.lt_asymm q (p.1 i m)) fun m=>Nat.not_le.mpr c (d7 g.1 m);have q:=Nat.le_antisymm (Nat.not_lt.mp n1) (Nat.not_lt.mp n2);subst q;exact⟨rfl,fun d hd=>n7 (Nat.lt_of_le_of_lt (e.ge d hd) c),fun O => .inr (Nat.le_of_eq (iB hj))⟩
  ·rename_i c
   exact⟨e.on,e.ge,fun q=>(e.at_ q).elim (fun m=>(Zy.mp m).elim (fun m => .inr (by subst m;exact d7 (Nat.le_of_eq (iB q)) (Nat.not_lt.mp c))) .inl) .inr⟩
theorem Ã.scan(Y4:∀i,(idx i).Pairwise (· < ·))(h:∀i j,j∈idx i->i∈idx i/\j∈idx j)(hb:∀i j,j∈idx i->j<n)(m:Nat):∀(i:Nat) (s:(Int->Nat)×ab),Ã idx i s->Ã idx (i+m) (en idx 0 n (g9 i m) s):=by
 induction m with
 |zero=>exact fun O O h=>h
 |succ m ih =>
  intro i s d;have hw:∀j,j∈within 0 n (idx i)↔j∈idx i:=fun j=>⟨fun q=>(o8.mp q).1,fun q=>o8.mpr ⟨q,Bool.and_eq_true_iff.mpr ⟨decide_eq_true (ZM _),decide_eq_true (hb i j q)⟩⟩⟩;have e:=χ.fold h d.row (within 0 n (idx i)) (fun O=>0,s.2) ((Y4 i).filter _) (fun j q=>(hw j).mp q) ⟨d.on,d.ge,fun q => .inl ((hw i).mpr q)⟩;refine(Nat.succ_add_eq_add_succ i m)▸ih (i+1) _ ⟨fun y=>?_,e.on,fun k hk=>?_⟩
  ·cases y with
   |zero=>exact yQ _ _ fun j O q=>nomatch q
   |succ y =>
    rw[show ((y+1:Nat):Int)-1=(y:Int) from Int.add_sub_cancel (y:Int) 1];by_cases c:y∈idx i
    ·exact(Tj _ _ ((hw y).mpr c)).trans ((congrArg Nat.succ (d.row y)).trans (iB c).symm)
    ·exact(yQ _ _ fun j q z=>c ((Int.ofNat.inj z:y=j)▸(hw j).mp q)).trans (uz c).symm
  ·refine(Nat.lt_or_eq_of_le hk).elim (fun q=>e.ge k (Nat.le_of_lt_succ q)) fun q=>q▸?_;by_cases c:i∈idx i
   ·exact(e.at_ c).resolve_left nofun
   ·rw[uz c];exact ZM _
theorem Lr(Y4:∀i,(idx i).Pairwise (· < ·))(h:∀i j,j∈idx i->i∈idx i/\j∈idx j)(hb:∀i j,j∈idx i->j<n)(m:Nat) :
  (en idx 0 n (g9 0 m) (fun O=>0,(0,0,0))).2.1=(en idx 0 n (g9 0 m) (fun O=>0,(0,0,0))).2.2.1 :=
 (Ã.scan Y4 h hb m 0 (fun O=>0,(0,0,0)) ⟨fun y=>rfl,rfl,fun d hd=>by cases Nat.le_zero.mp hd;exact ZZ _⟩).on
end
def E6(e:Nat->Nat->Bool)(t:ab):Prop:=∀d,d<t.2.2->e (t.1+d) (t.2.1+d)=true
section
variable{idx:Nat->List Nat}{alo D1 C8 C9:Nat}
theorem E6.none:E6 e (i,j,0):=nofun
theorem E6.snoc(h:E6 e (i,j,k))(h':e (i+k) (j+k)=true):E6 e (i,j,k+1):=fun d hd =>
 (Nat.lt_succ_iff_lt_or_eq.mp hd).elim (h d) fun q=>q▸h'
theorem E6.cons(h:E6 e (i+1,j+1,k))(h':e i j=true):E6 e (i,j,k+1):=fun d hd =>
 match d,hd with
 |0,_=>h'
 |d+1,hd=>(Nat.succ_add_eq_add_succ i d)▸(Nat.succ_add_eq_add_succ j d)▸h d (Nat.lt_of_succ_lt_succ hd)
def J3(e:Nat->Nat->Bool)(i:Nat)(D:Int->Nat):Prop:=∀y p q:Nat,p+D ((y:Int)-1)=i->q+D ((y:Int)-1)=y->E6 e (p,q,D ((y:Int)-1))
theorem J3.start{D:Int->Nat}(h:∀x,D x=0):J3 e i D:=fun y p q O O=>(h ((y:Int)-1)).symm▸.none
theorem UP{y:Nat}(h:(y:Int)-1=(j:Int)):y=j+1:=by omega
theorem J3.inner{s:(Int->Nat)×ab}(hs:H7 alo C8 C9 i s)(hr:J3 e i s.1)(hi:alo<=i)(js:List Nat):∀s2:(Int->Nat)×ab,(∀j∈js,C8<=j/\e i j=true)->J3 e (i+1) s2.1/\E6 e s2.2 ->
  J3 e (i+1) (js.foldl (dl s.1 i) s2).1/\E6 e (js.foldl (dl s.1 i) s2).2:=by
 induction js with
 |nil=>exact fun O O h=>h
 |cons j js ih =>
  intro s2 hj h;have g:=hj j (Zr ..);have l:=hs.len hi g.1;refine ih _ (fun j' h'=>hj j' (Zt _ h')) ⟨fun y p q=>?_,?_⟩
  ·show p+(if (y:Int)-1=(j:Int) then _ else _)=_->q+(if (y:Int)-1=(j:Int) then _ else _)=_->E6 e (p,q,if (y:Int)-1=(j:Int) then _ else _);split
   ·rename_i c
    rw[UP c];intro h1 h2;have h1:p+s.1 ((j:Int)-1)=i:=Nat.succ.inj h1;have h2:q+s.1 ((j:Int)-1)=j:=Nat.succ.inj h2;exact .snoc (hr j p q h1 h2) (h1.symm▸h2.symm▸g.2)
   ·exact h.1 y p q
  ·show E6 e (if _ then _ else _);have k1:=Nat.sub_add_cancel (d7 l.1 (Nat.sub_le ..));have k2:=Nat.sub_add_cancel (d7 l.2 (Nat.sub_le ..));split
   ·exact .snoc (hr j _ _ k1 k2) (k1.symm▸k2.symm▸g.2)
   ·exact h.2
theorem J3.scan(hi:∀i j,j∈idx i->e i j=true)(n:Nat):∀(i:Nat) (s:(Int->Nat)×ab),alo<=i->H7 alo C8 C9 i s->J3 e i s.1/\E6 e s.2->E6 e (en idx C8 C9 (g9 i n) s).2:=by
 induction n with
 |zero=>exact fun O O O O h=>h.2
 |succ n ih=>exact fun i s hl hs h=>ih (i+1) (fA (idx i) C8 C9 i s) (Nat.le_succ_of_le hl) (BC (idx i) hs hl) (J3.inner hs h.1 hl _ _ (fun j hj=>⟨(Al hj).1,hi i j (o8.mp hj).1⟩) ⟨.start fun O=>rfl,h.2⟩)
theorem Lq(hi:∀i j,j∈idx i->e i j=true)(h:C8<=C9)(n:Nat):E6 e (en idx C8 C9 (g9 alo n) (fun O=>0,(alo,C8,0))).2 :=
 J3.scan hi n alo _ (ZZ _) (H7.start h) ⟨.start fun O=>rfl,.none⟩
def HT(e:Nat->Nat->Bool)(alo C8:Nat)(t:ab):Prop := ¬ (alo<t.1/\C8<t.2.1/\e (t.1-1) (t.2.1-1)=true)
theorem ll{a b:Prop}[Decidable a][Decidable b]{c:Bool}:((decide a&&(decide b&&c))=true)↔a/\b/\c=true:=by
 rw[Bool.and_eq_true_iff,Bool.and_eq_true_iff,decide_eq_true_iff,decide_eq_true_iff]
theorem Uj(i:Nat):∀j k:Nat,E6 e (i,j,k)->E6 e (bO e alo C8 i j k)/\HT e alo C8 (bO e alo C8 i j k):=by
 induction i with
 |zero=>exact fun j k h=>⟨h,fun q=>absurd q.1 (Nat.not_lt_zero _)⟩
 |succ i ih =>
  intro j k h;cases j with
  |zero=>exact⟨h,fun q=>absurd q.2.1 (Nat.not_lt_zero _)⟩
  |succ j =>
   rw[bO];split
   ·rename_i hc
    exact ih j (k+1) (.cons h (ll.mp hc).2.2)
   ·rename_i hc
    exact⟨h,fun q=>hc (ll.mpr q)⟩
theorem Uf(f:Nat):∀k:Nat,D1<=i+k+f->E6 e (i,j,k)->E6 e (i,j,cI e D1 C9 i j f k) /\ ¬ (i+cI e D1 C9 i j f k<D1/\j+cI e D1 C9 i j f k<C9/\e (i+cI e D1 C9 i j f k) (j+cI e D1 C9 i j f k)=true):=by
 induction f with
 |zero=>exact fun k hf h=>⟨h,fun q=>absurd q.1 (Nat.not_lt.mpr hf)⟩
 |succ f ih =>
  intro k hf h;rw[cI];split
  ·rename_i hc
   exact ih (k+1) (Nat.add_assoc i k 1▸(Nat.succ_add_eq_add_succ (i+k) f).symm▸hf) (.snoc h (ll.mp hc).2.2)
  ·rename_i hc
   exact⟨h,fun q=>hc (ll.mpr q)⟩
structure d_ (e:Nat->Nat->Bool) (fl:Nat->Nat->Nat->Nat->ab):Prop where
 run:∀alo D1 C8 C9,alo<=D1->C8<=C9->E6 e (fl alo D1 C8 C9)
 left:∀alo D1 C8 C9,alo<=D1->C8<=C9->HT e alo C8 (fl alo D1 C8 C9)
 right:∀alo D1 C8 C9,alo<=D1->C8<=C9 -> ¬ ((fl alo D1 C8 C9).1+(fl alo D1 C8 C9).2.2<D1/\(fl alo D1 C8 C9).2.1+(fl alo D1 C8 C9).2.2<C9/\e ((fl alo D1 C8 C9).1+(fl alo D1 C8 C9).2.2) ((fl alo D1 C8 C9).2.1+(fl alo D1 C8 C9).2.2)=true)
theorem TL(hi:∀i j,j∈idx i->e i j=true):d_ e (bZ e idx):=by
 have k1:=fun alo D1 C8 C9 (h2:C8<=C9) =>
  have s:=Lq (e:=e) (idx:=idx) (alo:=alo) hi h2 (D1-alo)
  Uj (alo:=alo) (C8:=C8) _ _ _ s
 have k2:=fun alo D1 C8 C9 (h2:C8<=C9)=>Uf (D1:=D1) (C9:=C9) _ _ (iv ..) (k1 alo D1 C8 C9 h2).1;exact⟨fun a b c d O h2=>(k2 a b c d h2).1,fun a b c d O h2=>(k1 a b c d h2).2,fun a b c d O h2=>(k2 a b c d h2).2⟩
end
theorem RK(a b:List Str):∀i j,j∈aO a b i->ay a b i j=true:=fun i j h=>by
 unfold aO at h;unfold ay;cases hx:a[i]? with
 |none=>rw[hx] at h;cases h
 |some x =>
  rw[hx] at h;have h:j∈bq b x:=h;unfold bq at h;split at h
  ·cases h
  ·have:=(o8.mp h).2;rw[beq_iff_eq] at this;rw[this];simp
theorem RJ(a b:List Str):∀i,(aO a b i).Pairwise (· < ·):=fun i=>by
 unfold aO;cases a[i]? with
 |none=>exact .nil
 |some x=>exact Fl b x
theorem Gf(a b:List Str):d_ (ay a b) (bZ (ay a b) (aO a b)):=TL (RK a b)
theorem Uo(he:∀i,e i i=true)(i:Nat):∀k:Nat,bO e 0 0 i i k=(0,0,k+i):=by
 induction i with
 |zero=>exact fun k=>rfl
 |succ i ih=>exact fun k=>(if_pos (ll.mpr ⟨Nat.succ_pos i,Nat.succ_pos i,he i⟩)).trans ((ih (k+1)).trans (Nat.succ_add_eq_add_succ k i▸rfl))
theorem Uh(he:∀i,e i i=true)(f:Nat):∀k:Nat,k+f=n->cI e n n 0 0 f k=n:=by
 induction f with
 |zero=>exact fun k h=>h
 |succ f ih=>exact fun k h=>(if_pos (ll.mpr ⟨show 0+k<n from(Nat.zero_add k).symm▸h▸Nat.lt_add_of_pos_right (Nat.succ_pos f),show 0+k<n from(Nat.zero_add k).symm▸h▸Nat.lt_add_of_pos_right (Nat.succ_pos f),he _⟩)).trans (ih (k+1) ((Nat.succ_add_eq_add_succ k f).trans h))
theorem TM{idx:Nat->List Nat}(he:∀i,e i i=true)(Y4:∀i,(idx i).Pairwise (· < ·))(h:∀i j,j∈idx i->i∈idx i/\j∈idx j)(hb:∀i j,j∈idx i->j<n):bZ e idx 0 n 0 n=(0,0,n):=by
 have hd:=Lr Y4 h hb (n-0);have hs:=Bt (idx:=idx) (C9:=n) (n-0) 0 (fun O=>0,(0,0,0)) (ZZ _) (H7.start (ZM n));unfold bZ;dsimp only;generalize (en idx 0 n (g9 0 (n-0)) (fun O=>0,(0,0,0)))=s at hd hs;obtain⟨D,si,sj,sk⟩:=s;have c2:=hs.b4;dsimp only at hd c2 ⊢;subst hd;rw[Uo he];exact congrArg (fun x=>(0,0,x)) (Uh he _ _ (show sk+si+(n-(0+(sk+si)))=n from(Nat.zero_add (sk+si)).symm▸Nat.add_sub_cancel' (Nat.add_comm si sk▸c2)))
theorem Fj{a:List Str}(h:j∈aO a a i):∃x,a[i]?=some x/\a[j]?=some x/\∀y,a[y]?=some x->y∈aO a a y:=by
 unfold aO at h;cases hx:a[i]? with
 |none=>rw[hx] at h;cases h
 |some x =>
  rw[hx] at h;have h:j∈bq a x:=h;unfold bq at h;split at h
  ·cases h
  ·rename_i hp
   refine⟨x,rfl,beq_iff_eq.mp (o8.mp h).2,fun y hy=>?_⟩;unfold aO;rw[hy];show y∈bq a x;unfold bq;rw[if_neg hp];exact o8.mpr ⟨List.mem_range.mpr (w6.mp hy).1,beq_iff_eq.mpr hy⟩
theorem TN(a:List Str):bZ (ay a a) (aO a a) 0 a.length 0 a.length=(0,0,a.length) :=
 TM (fun i=>beq_iff_eq.mpr rfl) (RJ a a) (fun i j h=>aU (Fj h) fun x h1 h2 m=>⟨m i h1,m j h2⟩) fun i j h=>aU (Fj h) fun x O h2 O=>(w6.mp h2).1
section
variable{N:aa}
theorem YW{g:Nat}{gs:y7}{gl led:aa}(hG:G1 B)(h0:I8 C0 w B N n C5 gl gs)
  (h:(∀x p,D5 C0 w B N (n+1) (.Name x p) a C5 ((a,.gen g gs)::gl))->R (.ref a) ⟨loc,((a,.gen g gs)::gl)++led⟩) :
  F1 C0 w A B C1 Val pyIter (.ref a) ⟨loc,((a,.gen g gs)::gl)++led⟩ R:=F1.of fun s Z S Q E hQ=>Val.eRef <| by
 have hg:=(S.own _ (Zr ..)).1;exact wpAny_pyIter_gen hg (hQ _ _ s Z _ (h (fun x p=>D5.gen hG (fun O O O O O O O O A Q E hq=>Zs hq) h0)) S (.ref _) .refl)
theorem gE{a b:Str}(hsz:a.length+b.length<10^6)(h:K (.str (a++b)) st):F2 C0 w A B C1 Val (binaryOp .Add) (.str a) (.str b) st K :=
 YO (d7 (n7 hsz) (by decide)) h
theorem T.to{rel:D3->α->β->Prop}{t:Sem β}{K:α->St->Prop}(v0:α)(h:T C0 w A B C1 rel t st fun v C4=>v=v0/\C4=st)(k:K v0 st):T C0 w A B C1 rel t st K :=
 h.mono fun v C4 q=>by refine aA q fun O1 O2=>?_;clear q;subst O1;subst O2;exact k
theorem zy{m:Nat}{px:Pos}{e:Expr}{Q6 Ø:Pos}{tl:List Stmt}{L:AV->List (Str×AV)}{l:aa}{xs:List Str}{f:Str->Str}{rest:List AV}{u:AV}{K:D4->St->List AV->Prop}(hm:5<=m)
  (hx:C1.kindOf x=some .local) (Ú:∀u v,cL (L u) x v=L v)
  (H6:∀A,D6 A m->∀led,G5 N led->T C0 w A B C1 Val (k7 iter C1) ⟨L u,l++led⟩ (Gives (L u) (l++led) (.lst (xs.map .str))))
  (hy:∀A,D6 A m->∀l',(∀p∈l,p∈l')->∀y,y∈xs->T C0 w A B C1 Val (k7 e C1) ⟨L (.str y),l'⟩ (Gives (L (.str y)) l' (.str (f y))))
  (hd:∀v,TG C0 w B N n m C1 (execs tl C1) ⟨L v,l⟩ rest K) (hs:∀x,w9 iter C1 x=o4 x) (Q4:C1.scope.isCoroutine=false) (hi:interactive C1=false) :
  TG C0 w B N n m C1 (execs (.For (.Name x px) iter [.Expr (.Yield (some e) Q6) Ø] [] pos::tl) C1) ⟨L u,l⟩ ((xs.map f).map .str++rest) K :=
 ig (k:=5) AV.str (fun ys P=>∀v,(∀y∈ys,y∈xs)->P ⟨L v,l⟩ ((ys.map f).map .str++rest)) hm
  (fun A hA led hN=>(H6 A hA led hN).mono fun v E5 q=>q.rec (eH (k:=5) fun it gl hI => .mk hI ⟨xs,_,rfl,G6.self ⟨L u,l⟩,fun O k=>k u fun y hy=>hy⟩))
  (fun gl y ys v Č => .mk (fun A hA led hN=>cx (Ij hx (Ú v _) rfl))
   (fR (l++gl) (fun A hA led hN=>hy A hA _ (fun p hp=>f8 _ (f8 _ hp)) y (Č y (Zr ..)))
    (bk (.next ⟨ys,_,rfl,G6.self ⟨L (.str y),l⟩,fun O k=>k (.str y) fun y' h'=>Č y' (Zt _ h')⟩)) Q4 hi))
  (fun v O=>hd v) hs
end
theorem H3.of{la lb:Nat}{g:List Op}(I3:g≠[])(h:A_ la lb g)(E3:g.length<10^7)(htg:E4 g):H3 la lb g:=by
 refine dq h fun i j i' j' hp h1 h2=>?_;clear h;have hm:=hp.mem;have ii:(aG g).i1<=(aD g).i2/\(aG g).j1<=(aD g).j2:=by
  cases g with
  |nil=>exact absurd rfl I3
  |cons o os =>
   have e1:aG (o::os)=o:=rfl;have hl:aD (o::os)∈o::os:=by
    unfold aD;rw[List.getLastD_cons];cases os with
    |nil=>exact Zr ..
    |cons p ps=>rw[List.getLastD_eq_getLast?,List.getLast?_eq_some_getLast (List.cons_ne_nil _ _)];exact Zt _ (List.getLast_mem _)
   rw[e1];refine Ab hp fun q1 q2 q3 q4 q5=>?_;clear hp;have m:=hm _ hl;exact⟨q1▸d7 m.1 m.2.1,q2▸d7 m.2.2.2.1 m.2.2.2.2.1⟩
 exact⟨I3,fun o ho=>⟨(hm o ho).2.1,d7 (hm o ho).2.2.1 h1⟩,fun o ho=>⟨(hm o ho).2.2.2.2.1,d7 (hm o ho).2.2.2.2.2 h2⟩,ii.1,ii.2,E3,htg⟩
theorem yG(a b:List Str)(n:Nat)(ha:a.length<10^5):∀g∈aI n (bR (aQ (aM a b) a.length b.length)),H3 a.length b.length g:=fun g hg =>
 have h:=Sq (dH (ay a b) (aO a b)) a.length b.length n g hg
 .of h.1 h.2 (by
  have h1:=Sx g hg;have h2:=vH (aQ (aM a b) a.length b.length);have h3:(aQ (aM a b) a.length b.length).length<=a.length+2:=zh (dH (ay a b) (aO a b)) a.length b.length;omega) (Sv (Dd _) g hg)
theorem pF{a b:Int}(h0:0<=a)(h1:a<=b)(h2:b<10^9):(bY a b).length<100:=by
 have e1:(Zw ",").length=1:=by decide +kernel
 have k1:=KT.len_num (n:=a) h0 ⋯;have k2:=KT.len_num (n:=a+1) ⋯ ⋯;have k3:=KT.len_num (n:=b-a) ⋯ ⋯;have k4:=KT.len_num (n:=0) ⋯ ⋯;unfold bY;split
 ·omega
 ·split
  ·simp only[Str.length_append];omega
  ·simp only[Str.length_append];omega
theorem pG{a b:Int}(h0:0<=a)(h1:a<=b)(h2:b<10^9):(bJ a b).length<100:=by
 have e1:(Zw ",").length=1:=by decide +kernel
 have k1:=KT.len_num (n:=a) h0 ⋯;have k2:=KT.len_num (n:=a+1) ⋯ ⋯;have k3:=KT.len_num (n:=b) ⋯ ⋯;unfold bJ;split
 ·omega
 ·split
  ·omega
  ·simp only[Str.length_append];omega
def C'(o:Obj):Prop:=o.cls=.none/\o.dict=none/\o.slots=#[]
theorem C'.map(h:C' o)(f:Array Value->Array Value):C' (o7 f o):=by
 obtain⟨c,d,dt,sl⟩:=o;cases dt <;> exact h
def pv(q:Str)(Z:D3)(o:Obj):Prop:=(o.isFreed=false/\C' o)/\∃ps,o.data=.fields ps/\TriplesOk ps.toList/\∀pos cv,B0 pos ps.toList=some cv->∃c oc vs t,cv=.ref c/\Z c=some oc/\oc.data=.fields vs/\vs[1]?=some (.str q t)
theorem Jz{q:Str}(Z Z':D3)(o:Obj)(k:D3.le Z Z')(x:pv q Z o):pv q Z' o:=by
 obtain⟨hf,ps,h1,h2,h3⟩:=x;refine⟨hf,ps,h1,h2,fun pos cv e=>?_⟩;refine dq (h3 pos cv e) fun c oc vs t a b r=>?_;exact il c oc vs t a (k _ _ b) r
noncomputable abbrev jF(q:Str):D9:=.obj (pv q) Jz
theorem UX{a b:Int}{c cv:Value}(l:List Value)(h:TriplesOk l)(e:B0 pos (l++[k5 a,k5 b,c])=some cv):B0 pos l=some cv∨cv=c:=by
 fun_induction TriplesOk l with
 |case1 =>
  simp only[ZH,k5,B0] at e;split at e
  ·right;cases e;rfl
  ·cases e
 |case2 a' t b' u x rest ih =>
  simp only[ZE,B0] at e ⊢;split
  ·rename_i hc;rw[if_pos hc] at e;exact .inl e
  ·rename_i hc;rw[if_neg hc] at e;exact ih h e
 |case3 l h1 h2=>exact h.elim
noncomputable def sI(vs:Array Value)(P:b0):Bool:=(vs.getD 11 .none==.ref P)&&(match vs.getD 18 .none with |.str _ _=>true |_=>false)&&(match vs.getD 7 .none with |.int _ _=>true |_=>false)&&(match vs.getD 9 .none with |.bool _=>true |_=>false)&&(match vs.getD 10 .none with |.int _ _=>true |_=>false)
noncomputable def oC(K:Frag)(c P:b0):Bool:=match K.lookup c with
 |some o=>match o.data with
  |.fields vs=>sI vs P
  |_=>false
 |none=>false
theorem JS{v:Value}(h:(match v with |.str _ _=>true |_=>false)=true):∃x t,v=.str x t:=by
 cases v <;> first |exact sY _ _ rfl |exact(d3 h).elim
theorem Fd{v:Value}(h:(match v with |.int _ _=>true |_=>false)=true):∃x t,v=.int x t:=by
 cases v <;> first |exact sY _ _ rfl |exact(d3 h).elim
theorem Vr{v:Value}(h:(match v with |.bool _=>true |_=>false)=true):∃x,v=.bool x:=by
 cases v <;> first |exact⟨_,rfl⟩ |exact(d3 h).elim
theorem UL{P:b0}{d:Data}(h:(match d with |.fields vs=>sI vs P |_=>false)=true):∃vs,d=.fields vs/\sI vs P=true:=by
 cases d <;> first |exact bB _ rfl h |exact(d3 h).elim
theorem UU{K:Frag}{c P:b0}(h:oC K c P=true):∃o vs Ĵ tf Ó tg inF Ă tt,K.lookup c=some o/\o.data=.fields vs/\vs.getD 11 .none=.ref P/\vs.getD 18 .none=.str Ĵ tf/\vs.getD 7 .none=.int Ó tg/\vs.getD 9 .none=.bool inF/\vs.getD 10 .none=.int Ă tt:=by
 unfold oC at h;cases e:K.lookup c with
 |none=>rw[e] at h;exact(d3 h).elim
 |some o =>
  rw[e] at h;refine ae (UL h) fun vs d h=>?_;unfold sI at h;simp only[i9,beq_iff_eq] at h;refine aA h fun O1 h5=>?_;clear h;obtain⟨⟨⟨h1,h2⟩,h3⟩,h4⟩:=O1;exact(JS h2).elim fun O q=>q.elim fun O q2=>(Fd h3).elim fun O q=>q.elim fun O q3=>(Vr h4).elim fun O q4=>(Fd h5).elim fun O q=>q.elim fun O q5=>⟨o,vs,_,_,_,_,_,_,_,rfl,d,h1,q2,q3,q4,q5⟩
theorem Upd.same{o:D9}:∀ {l:aa},(a,o)∈l->Upd a o o l l
 |p::l,h=>by
  rcases Zy.mp h with e |h
  ·subst e;exact .here
  ·exact .there (Upd.same h)
theorem C7.grow{led:aa}(S:C7 B s Z led){h':Heap}{tk:Nat}(hk:∀b o,s.heap.get? b=some o->h'.get? b=some o):C7 B {s with heap:=h',toks:=tk} Z led/\E7 (aj led) s Z {s with heap:=h',toks:=tk} Z (aj led) :=
 ⟨⟨S.base,fun a o e=>hk a o (S.frozen a o e),S.nodup,S.apart,fun p hp=>Holds.mono (s:=s) (.refl _) (fun o e=>hk _ o e) (fun O O O e=>e) (S.own p hp),S.gnodup,S.bare⟩,
  ⟨.refl _,fun a o e O=>hk a o e,fun O h => .inl h,fun O O e => .inl e,rfl,fun O O e O=>e,fun O h => .inl h⟩⟩
def oH(C0:ZJ)(w:ZQ)(B:D3)(it:b0)(gl:aa):Prop :=
 ∀(A:ZI) (led:aa) s Z,C7 B s Z (gl++led)->∀(Q:Value->Zx->Prop) E,Q (.ref it) s->ZS (ZP C0 w) A (pyIter (.ref it)) Q E s
section
variable{N:aa}
theorem Im(h:∀it gl,(∀B' N,D5 C0 w B' N k C3 it xs gl)->(∀B',oH C0 w B' it gl)->K (.ref it) ⟨st.loc,gl++st.led⟩):F1 C0 w A B C1 Val pyIter (.lst xs) st K:=fun s Z x V S Q E hQ=>by
 refine bv (ex V) fun a items n qv e hv=>?_;subst qv;have hl:=FY S.frozen e;refine wpAny_pyIter_list hl ?_;have I3:a≠s.heap.objs.size:=j9 (e8 (S.frozen _ _ e));have E3:items.toArray.size=xs.length:=by simp[hv.length]
 have P:=S.toC7.push (o:={ cls:=.type "list_iterator",data:=.fields #[.ref a,.int 0 0]}) (ao:=gh s.heap.objs.size [s.heap.objs.size,a] (fun i v=>items.toArray[i]?=some v) xs (fun i h=>h.IsListIter s.heap.objs.size a i/\h.IsList a items.toArray) 0) rfl s.toks
  ⟨_,ZB _ rfl,fun b hb=>by
   simp only[Zy,n5,or_false] at hb;rcases hb with rfl |rfl
   ·exact .inl rfl
   ·exact .inr ⟨_,e⟩,fun i y v h1 h2=>by
   refine ae (hv.get h1) fun u e1 e2=>?_;simp only[List.getElem?_toArray] at h2;rw[e1] at h2;cases h2
   exact e2,fun h e1 e2=>⟨⟨_,e1,rfl,rfl⟩,_,e2 _ _ e,rfl,n,rfl⟩⟩
 refine hQ _ _ _ Z _ (h s.heap.objs.size _ (fun B' N=>D5.walks (C0:=C0) (w:=w) (B:=B') (C3:=C3) (xs:=xs) (fun A hA=>by exact(E3)▸Walks.list hA s.heap.objs.size a I3 items.toArray) (fun A i s v Q E J8 hq=>EP J8.1 hq) (fun i h J8=>by refine ae J8.1 fun o ho O=>?_;exact⟨o,ho⟩) k xs.length 0 ⋯) ?_) (S.after P.1 P.2) (.ref _) P.2.toF;intro B' A' led' s' Z' S' Q' E' hq;refine jy (S'.own _ (Zr ..)) fun o ho h1 h2 h3=>?_;exact wpAny_pyIter_listiter (h3 _ ho S'.frozen).1 hq
theorem eO{Φ:End->Zx->Prop}{c:Code}{fs:List Frame}{M:Model}{m:Sem α}{K:α->Sem β}{K':β->Sem PySem.Fin}{H':Value->Sem PySem.Fin}{gd lv}
  (h:ZS M (A.over c fs) m (fun a s'=>be M A Φ c ((K a).wrap K' H' gd lv) fs s') (fun x s'=>be M A Φ c (H' x) fs s') s):be M A Φ c ((m>>=K).wrap K' H' gd lv) fs s:=by
 rw[j3,m9];exact dL h
noncomputable abbrev cj(elt C3 iter:Expr)(scope:Scope)(pos:Pos):Expr:=.GeneratorExp elt [⟨C3,iter,[],0⟩] scope pos
theorem GD(elt C3 iter:Expr)(scope:Scope)(pos:Pos)(it acc:Value)(C1:Env) :
  compTurn (cj elt C3 iter scope pos) 0 it acc C1=(standAt iter.pos>>=fun O=>s6 it>>=fun r=>match r with
   |none=>o4 (.done .next)
   |some v=>g5 C3 it v>>=fun O=>m0 C3 C1 v>>=fun O=>(k7 elt C1>>=fun v=>standAt elt.pos>>=fun O=>yieldOut C1 v>>=fun O=>o4 PUnit.unit)>>=fun O=>again (.compLoop (cj elt C3 iter scope pos) 0 it acc C1)):=by rfl
theorem BD{c:Code}{m:Nat}(hw:c.weight=1)(hu:c.cUnits<=3)(hA:D6 A (m+3)):D6 (A.over c []) m:=⟨hA.h,by
  have:=hA.d;show A.depth+0+c.weight+m<=_;omega,by
  have:=hA.u;show A.units+0+c.cUnits+m<=_;omega⟩
theorem Lj{elt:Expr}{scope:Scope}{m:Nat}(hk:k<=m)(Q4:C1.scope.isCoroutine=false) :
  ∀(xs C5:List AV),xs.length=C5.length->(∀p∈xs.zip C5,∀loc,J loc->∀A,D6 A m->∀led,F1 C0 w A B C1 aS (m0 C3 C1) p.1 ⟨loc,led⟩ fun O J2=>T C0 w A B C1 Val (k7 elt C1) J2 fun v N5=>v=p.2/\N5.led=led/\J N5.loc) ->
   ∀(gl:aa) (loc:List (Str×AV)),D5 C0 w B N k C3 it xs gl->J loc ->
   jt C0 w B N (m+3) C1 (.compLoop (cj elt C3 iter scope pos) 0 (.ref it) .none C1) ((ZP C0 w).den (.compLoop (cj elt C3 iter scope pos) 0 (.ref it) .none C1)) [] C5 ⟨loc,gl⟩:=by
 intro xs;induction xs with
 |nil =>
  intro C5 hl H1 gl loc hI hJ A hA led hN H0 G9 Z0 s Z S X;cases C5 with
  |cons r rs=>cases hl
  |nil =>
   have hr:=BD (c:=.compLoop (cj elt C3 iter scope pos) 0 (.ref it) .none C1) rfl (by show 3<=3;omega) hA;show be _ A _ _ ((compTurn (cj elt C3 iter scope pos) 0 (.ref it) .none C1).onRaise (leaving C1)) [] s;rw[GD,y4];refine eO (a9 ?_);have Sp:D7 B C1 s Z ⟨loc,led++gl⟩:=S.perm ZG;refine eO (sf hI (hr.mono hk) hN Sp fun s3 Z3 ñ X3=>?_);have X':E7 (aC C1 ⟨loc,gl++led⟩) s Z s3 Z3 (aC C1 ⟨loc,led⟩):=by
    rw[er (C1:=C1) (loc:=loc) (D8:=loc) (l:=gl++led) (l':=led++gl) ZG];exact X3
   refine Br (.ok .next) ⟨.inr rfl,Z3,ñ.toC7,(X.trans X').less (fun a h => .inr h) fun a h=>h⟩
 |cons x xs ih =>
  intro C5 hl H1 gl loc hI hJ A hA led hN H0 G9 Z0 s Z S X;cases C5 with
  |nil=>cases hl
  |cons q rs =>
   have hr:=BD (c:=.compLoop (cj elt C3 iter scope pos) 0 (.ref it) .none C1) rfl (by show 3<=3;omega) hA;show be _ A _ _ ((compTurn (cj elt C3 iter scope pos) 0 (.ref it) .none C1).onRaise (leaving C1)) [] s;rw[GD,y4];refine eO (a9 ?_);have Sp:D7 B C1 s Z ⟨loc,led++gl⟩:=S.perm ZG;refine eO (e9 (se hI (hr.mono hk) hN Sp (Q:=fun r s₁=>match r with
    |none=>False
    |some v=>be (ZP C0 w) A (oR C0 w B N (m+3) (q::rs) led H0 G9 Z0) (.compLoop (cj elt C3 iter scope pos) 0 (.ref it) .none C1) ((m0 C3 C1 v>>=fun O=>(k7 elt C1>>=fun v=>standAt elt.pos>>=fun O=>yieldOut C1 v>>=fun O=>o4 PUnit.unit)>>=fun O=>again (.compLoop (cj elt C3 iter scope pos) 0 (.ref it) .none C1)).wrap .pure (fun e=>(leaving C1 e).bind fun O => .raise e) id id) [] s₁)
    (E:=fun O O=>False) fun s3 Z3 v gl3 ñ V3 X3 U8=>?_) (fun r s₁ h1=>?_) fun O O h=>h.elim)
   ·dsimp only;have X':E7 (aC C1 ⟨loc,gl++led⟩) s Z s3 Z3 (aC C1 ⟨loc,gl3++led⟩):=by
     rw[er (C1:=C1) (loc:=loc) (D8:=loc) (l:=gl++led) (l':=led++gl) ZG,er (C1:=C1) (loc:=loc) (D8:=loc) (l:=gl3++led) (l':=led++gl3) ZG];exact X3
    have X2:=X.trans X';have S3:D7 B C1 s3 Z3 ⟨loc,gl3++led⟩:=ñ.perm ZG;refine eO (H1 (x,q) (by simp) loc hJ _ hr (gl3++led) s3 Z3 v V3 S3 _ _ fun O O s4 Z4 N5 k4 S4 O X4=>?_);rw[j3,j3,m9,m9];refine dL (k4 s4 Z4 S4 _ _ fun u y s5 Z5 Ä J7 S5 V5 X5=>?_);obtain⟨K4,led5⟩:=Ä;refine di J7 fun O1 e ī=>?_;clear J7;subst O1;dsimp only at e ī;subst e;have hy:∀v,yieldOut C1 v=yieldValue v:=fun v=>by simp only[yieldOut,Q4,c7,if_false]
    rw[hy];refine eO (a9 ?_);show be _ A _ _ (.yield y _ _ _) [] s5;refine Bq rfl fun p=>?_;refine⟨rfl,y,Z5,(C1.locals,.ns K4)::gl3,rfl,S5.toL,V5,?_,?_⟩
    ·have:=X2.trans (X4.trans X5);rw[dx (st:=⟨K4,gl3++led⟩)] at this;exact this
    ·rw[I8.iff];intro A' D0 led' F6 s' Z' J1;have SF:D7 B C1 s' Z' ⟨K4,gl3++led'⟩:=C7.toF (st:=⟨K4,gl3++led'⟩) J1 S5.kinds S5.fn;refine lQ rfl (ih rs (by simpa using hl) (fun p hp=>H1 p (by rw[u7];exact Zt _ hp)) gl3 K4 U8 ī A' D0 led' F6 _ s' Z' s' Z' SF ?_);rw[dx];exact .refl
   ·cases r with
    |none=>exact h1.elim
    |some v=>exact eO (e9 h1 (fun O s2 h2=>h2) fun O O h=>h.elim)
theorem I8.genexp{elt:Expr}{scope:Scope}{m:Nat}{gl:aa}(hk:k<=m)(Q4:C1.scope.isCoroutine=false)
  (hkd:∀x v,loc.lookup x=some v->C1.kindOf x=some .local) (hf:C1.scope.kind=.function) (hl:xs.length=C5.length)
  (H1:∀p∈xs.zip C5,∀loc,J loc->∀A,D6 A m->∀led,F1 C0 w A B C1 aS (m0 C3 C1) p.1 ⟨loc,led⟩ fun O J2=>T C0 w A B C1 Val (k7 elt C1) J2 fun v N5=>v=p.2/\N5.led=led/\J N5.loc)
  (hI:D5 C0 w B N k C3 it xs gl) (hs:oH C0 w B it gl) (hJ:J loc) :
  I8 C0 w B N (m+3) C5 ((C1.locals,.ns loc)::gl) (.fresh (.compStart (cj elt C3 iter scope pos) 0 (.ref it) .none C1)):=by
 rw[I8.iff];intro A hA led hN s Z S;have SF:D7 B C1 s Z ⟨loc,gl++led⟩:=C7.toF (st:=⟨loc,gl++led⟩) S hkd hf;have loop:=Lj (elt:=elt) (iter:=iter) (scope:=scope) (pos:=pos) hk Q4 xs C5 hl H1 gl loc hI hJ A hA led hN (aj ((C1.locals,.ns loc)::gl++led)) s Z s Z SF (by rw[dx];exact .refl);show be _ A _ _ ((compStart (cj elt C3 iter scope pos) 0 (.ref it) .none C1).onRaise (leaving C1)) [] s;unfold compStart;rw[y4];show be _ A _ _ ((ask>>=_).wrap _ _ _ _) [] s;refine eO (wpAny_askSetting ?_);split
 ·exact lQ rfl loop
 ·refine eO (l6 ?_);show be _ A _ _ ((standAt iter.pos>>=_).wrap _ _ _ _) [] s;exact eO (a9 (eO (hs _ ((C1.locals,.ns loc)::led) s Z (C7.perm S n0.symm) _ _ (lQ rfl loop))))
theorem IA{K:Frag}{c P:b0}{q:Str}{scope:Scope}{led:aa}(hc:C1.code=.ref c)(G_:oC K c P=true)(hP:(P,jF q)∈led)(S:C7 (am K) s Z led)
  (hQ:∀c' oc vs t s' Z',C7 (am K) s' Z' led->E7 (aj led) s Z s' Z' (aj led)->Z' c'=some oc->oc.data=.fields vs->vs[1]?=some (.str q t)->Q (.ref c') s'):ZS (ZP C0 w) A (genexprCode C1 pos q scope) Q E s:=by
 obtain⟨o,vs,Ĵ,tf,Ó,tg,inF,Ă,tt,å,hd,h11,h2,h7,h9,h10⟩:=UU G_;have ho:s.heap.get? c=some o:=S.frozen _ _ (S.base _ _ å);obtain⟨op,Τ,⟨I',hsh⟩,ps,hpd,htr,δ⟩:=S.own _ hP;dsimp only at Τ;have hPZ:Z P=none:=S.apart _ hP;have hcP:c≠P:=fun e=>by have:=S.base _ _ å;rw[e,hPZ] at this;cases this
 unfold genexprCode codeAt;rw[hc,if_neg (show ¬ ((Value.ref c==j6)=true) from d3)];refine Zq (o0 ho hd ?_);rw[h11];refine Zq (o0 Τ hpd ?_);cases hnf:B0 pos ps.toList with
 |some cv =>
  refine Ip (δ pos cv hnf) fun c' oc vs' t O5 hz hdc hq=>?_;subst O5;exact Zs (hQ c' oc vs' t s Z S .refl hz hdc hq)
 |none =>
  rw[h2,h7,h9,h10];refine Zq (wpAny_newCode fun c' P' h' tk hk í ŗ hcode' Ê=>?_);refine aA (S.grow (h':=h') (tk:=tk) hk) fun S1 X1=>?_;refine Ip Ê fun c2 oc M' t2 Á g₂ ĵ r2=>?_;clear Ê;cases Á
  have Y5:s.heap.get? c'=none:=Heap.get?_none_of_le í;have ë:c'∉keys led:=fun hm=>by
   refine ae (ZV.mp hm) fun p hp e=>?_;refine aw ((S.own p hp).live) fun ob g=>?_;rw[e,Y5] at g;cases g
  have hcz:Z c'=none:=by
   cases e:Z c' with
   |none=>rfl
   |some x=>have:=S.frozen _ _ e;rw[Y5] at this;cases this
  refine aA (S1.fixZ (s0:=s) (c:=c') (o:=oc) g₂ Y5 ë hcz X1) fun S2 X2=>?_;have Ė:=hk _ _ Τ;refine Zq (wpAny_updateFieldsOfTheText Ė hpd ?_);have P9:(o7 (fun vs=>if (B0 pos vs.toList).isSome=true then vs else vs ++ #[k5 pos.line,k5 pos.col,.ref c']) op).data =
    .fields (ps ++ #[k5 pos.line,k5 pos.col,.ref c']):=by
   rw[A4 hpd,hnf];rfl
  have L3:=c6 (h:=h') (fun o=>o7 (fun vs=>if (B0 pos vs.toList).isSome=true then vs else
   vs ++ #[k5 pos.line,k5 pos.col,.ref c']) o) Ė (u6 P9)
  refine Zq (o0 L3 P9 ?_);have hl:(ps ++ #[k5 pos.line,k5 pos.col,Value.ref c']).toList=ps.toList++[k5 pos.line,k5 pos.col,.ref c']:=by simp
  rw[hl,codeAmong_snoc _ htr hnf];have P3:=S2.upd (Upd.same hP) (h':=h'.update P fun o=>o7 (fun vs=>if (B0 pos vs.toList).isSome=true then vs else vs ++ #[k5 pos.line,k5 pos.col,.ref c']) o) (tk:=tk) (fun b ob hb e=>(c0 ..).extBut b ob hb e) rfl rfl
   ⟨_,L3,⟨u6 P9,hsh.map _⟩,_,P9,by rw[hl];exact TriplesOk_snoc _ _ _ _ htr,fun X9 cv e=>?_⟩
  ·exact Zs (hQ c' oc M' t2 _ _ P3.1 (X2.trans P3.2) (D3.add_at ..) ĵ r2)
  ·rw[hl] at e;rcases UX _ htr e with e |rfl
   ·refine dq (δ X9 cv e) fun c3 oc3 vs3 t3 e3 z3 r3=>?_;exact il c3 oc3 vs3 t3 e3 (D3.le_add hcz _ _ z3) r3
   ·exact Xy c' oc M' t2 rfl (D3.add_at ..) ĵ r2
end
section
variable{N:aa}
theorem EN(h:Heap):h.get? h.objs.size=none:=by
 cases e:h.get? h.objs.size with
 |none=>rfl
 |some o=>exact absurd (e8 e) (r6 _)
theorem C7.newGen{led:aa}{f:Str->Option Value}{gs:y7}{go:Obj}{nm qn:Value}{h1:Heap}{tk:Nat}(S:C7 B s Z led)
  (g_:h1.Ns s.heap.objs.size f) (K1:a7 s.heap.objs.size (s.heap.push {cls:=.type "frame",data:=.dict #[]}) h1) (hv:∀x,E9 Z (loc.lookup x) (f x)) (W5:go={ cls:=.type "generator",data:=.fields #[.int s.gens.size 0,nm,qn]}) (Ħ:gs.bare=true) :
  C7 B {s with gens:=s.gens.push gs,toks:=tk,heap:=h1.push go} Z ((h1.objs.size,.gen s.gens.size gs)::(s.heap.objs.size,.ns loc)::led) /\
   E7 (aj led) s Z {s with gens:=s.gens.push gs,toks:=tk,heap:=h1.push go} Z (aj ((h1.objs.size,.gen s.gens.size gs)::(s.heap.objs.size,.ns loc)::led)):=by
 have keep:∀b o,s.heap.get? b=some o->h1.get? b=some o:=fun b o e=>K1.extBut b o (j9 (e8 e)) (ZC _ e);have Z_:=EN s.heap;have hL:s.heap.objs.size∉keys led:=fun q=>by
  refine ae (ZV.mp q) fun p hp e=>?_;refine aw ((S.own p hp).live) fun ob g=>?_;rw[e,Z_] at g;cases g
 have hZ:Z s.heap.objs.size=none:=S.zfresh;have ξ:∃ob,h1.get? s.heap.objs.size=some ob:=by refine jx g_ fun ob O O g O=>?_;clear g_;exact⟨ob,g⟩
 refine aw ξ fun obL hobL=>?_;clear ξ;have I3:s.heap.objs.size≠h1.objs.size:=j9 (e8 hobL);have U9:=EN h1;have R0:∀b o,h1.get? b=some o->(h1.push go).get? b=some o:=fun b o e=>ZC go e;have Ï:(h1.push go).get? h1.objs.size=some go:=ZB _ (by subst W5;rfl);have Z8:s.gens[s.gens.size]?=none:=by simp
 have hgl:s.gens.size∉gkeys led:=fun q=>by
  refine ae (List.mem_filterMap.mp q) fun p hp e=>?_
  have:=S.own p hp;obtain⟨a,ob⟩:=p;cases ob with
  |gen g gs =>
   simp only[D9.gnum,l8] at e;subst e
   have:=this.2;rw[Z8] at this;cases this
  |_=>cases e
 have a_:∀g (gs x:y7),s.gens[g]?=some gs->(s.gens.push x)[g]?=some gs:=fun g gs x e=>by
  rw[Array.getElem?_push];refine aw (Array.getElem?_eq_some_iff.mp e) fun G8 O=>?_;rw[if_neg ⋯];exact e
 refine⟨⟨S.base,fun a o e=>R0 a o (keep a o (S.frozen a o e)),?_,fun p hp=>?_,fun p hp=>?_,?_,fun x hx=>?_⟩,
  ⟨.refl _,fun a o e O=>R0 a o (keep a o e),fun a ha=>?_,fun O O e => .inl e,rfl,fun g gs e O=>a_ g gs _ e,fun g hg=>?_⟩⟩
 ·refine ZL.mpr ⟨fun q=>?_,ZL.mpr ⟨hL,S.nodup⟩⟩;rcases Zy.mp q with q |q
  ·exact I3 q.symm
  ·refine ae (ZV.mp q) fun p hp e=>?_;refine aw ((S.own p hp).live) fun ob g=>?_
   have:=keep _ _ g;rw[e,U9] at this;cases this
 ·rcases Zy.mp hp with rfl |hp
  ·cases e:Z h1.objs.size with
   |none=>rfl
   |some o =>
    have:=keep _ _ (S.frozen _ _ e);rw[U9] at this;cases this
  ·rcases Zy.mp hp with rfl |hp
   ·exact hZ
   ·exact S.apart p hp
 ·rcases Zy.mp hp with rfl |hp
  ·refine⟨⟨go,_,_,Ï,by subst W5;rfl,by subst W5;rfl,by subst W5;rfl⟩,?_⟩;show (s.gens.push _)[s.gens.size]?=_;rw[Array.getElem?_push,if_pos rfl]
  ·rcases Zy.mp hp with rfl |hp
   ·exact M1.mono (.refl _) (fun o e=>R0 _ o e) ⟨_,g_,hv⟩
   ·exact(S.own p hp).mono (.refl _) (fun o e=>R0 _ o (keep _ o e)) fun g gs O e=>a_ g gs _ e
 ·exact ZL.mpr ⟨hgl,S.gnodup⟩
 ·rcases Array.mem_push.mp hx with hx |hx
  ·exact S.bare x hx
  ·subst hx;exact Ħ
 ·rcases Zy.mp ha with q |q
  ·right
   cases e:s.heap.get? a with
   |none=>rfl
   |some o =>
    have:=keep a o e;rw[q,U9] at this;cases this
  ·rcases Zy.mp q with q |q
   ·exact .inr (q▸Z_)
   ·exact .inl q
 ·rcases Zy.mp (show g∈s.gens.size::gkeys led from hg) with q |q
  ·exact .inr (q▸Z8)
  ·exact .inl q
theorem VZ{R:Result->Zx->Prop}(hA:D6 A (k+1))  (bs:List Bool):∀(gl led:aa) (s:Zx) (Z:D3),G5 N led->D5 C0 w B N k lG it (bs.map .bool) gl->C7 B s Z (gl++led) ->
  (∀s' Z',C7 B s' Z' led->E7 (aj (gl++led)) s Z s' Z' (aj led)->R (.ok (.ret (.bool (bs.any id)))) s')->codeAny (ZP C0 w) A (.builtin "any.loop" ⟨[.ref it],[]⟩) R s:=by
 induction bs with
 |nil =>
  intro gl led s Z hN hI S hR;refine y0 F.entry_any_loop ?_;rw[w8 F.plain_any_loop _];exact hI.last hA.in1 hN S fun s' Z' S' X'=>Zq (l6 (Zs (hR s' Z' S' X')))
 |cons b bs ih =>
  intro gl led s Z hN hI S hR;refine y0 F.entry_any_loop ?_;rw[w8 F.plain_any_loop _];refine hI.draw hA.in1 hN S (fun O=>rfl) fun s' Z' v gl' S' V X' hI'=>?_;refine Zq (ZF ?_)
  (have e_:=V.inv;subst e_)
  refine wpAny_truthy_bool (Zq (wpAny_letGo ?_));cases b with
  |true =>
   exact tR rfl (Zq (l6 (Zs (hR s' Z' S'.drop (X'.less (fun a h=>by rw[aj];show a∈keys (gl'++led);rw[keys,ZT];exact ZY _ h) fun a h=>by
    show a∈gkeys (gl'++led);unfold gkeys;exact(Eq.symm (u9))▸ZY _ h)))))
  |false=>exact cS d3 (Zs ⟨plainId_quiet F.plain_any_loop _,ih gl' led s' Z' hN hI' S' fun L5 J9 J1 W7=>hR L5 J9 J1 (X'.trans W7)⟩)
theorem Zm{id:String}{args:List Expr}(J8:((u5 pos (f0 args C1)).all fun x => !x.1)=true)
  (h:∀s Z,D7 B C1 s Z st->∀(Q:Value->Zx->Prop) (E:Value->Zx->Prop),HQ B C1 Val st K s Z Q ->
   ZS (ZP C0 w) A (spliced (u5 pos (f0 args C1))) (fun vs s₁=>ZS (ZP C0 w) A (call (.builtin id) vs []) Q E s₁) E s):CA C0 w A B C1 pos (.blt id) [] args st K:=fun s Z fx xs hf hxs S Q E hQ=>by
 (have e_:=hf.inv;subst e_)
 cases hxs
 unfold callWith;have N3:=h s Z S (fun r s'=>ZS (ZP C0 w) A (do A9 [r] point;o4 r) Q E s') E fun v y s' Z' C4 k S' V X=>Zq (ZF (wpAny_point (Zs (hQ v y s' Z' C4 k S' V X))));have κ:∀ {Q':Args->Zx->Prop},(∀vs s₁,ZS (ZP C0 w) A (call (.builtin id) vs []) (fun r s'=>ZS (ZP C0 w) A (do A9 [r] point;o4 r) Q E s') E s₁->Q' ⟨vs,[]⟩ s₁) ->
   ZS (ZP C0 w) A (evalArgs (.builtin id) true (u5 pos (f0 args C1)) []) Q' E s:=fun{Q'} î=>by
  have Ξ:=e9 N3 (Q':=fun vs s₁=>Q' ⟨vs,[]⟩ s₁) (fun vs s₁ h'=>î vs s₁ h') fun O O x=>x;revert Ξ J8;generalize u5 pos (f0 args C1)=l;intro J8 Ξ;cases l with
  |nil=>exact Gl Ξ
  |cons y r =>
   obtain⟨b,t⟩:=y
   have:b=false:=by simpa using (c5.mp J8 (b,t) (Zr ..))
   subst this;exact Calls.evalArgs_plain Ξ
 refine Zq (ZF (κ fun vs s₁ I2=>Zq (a9 (Zq (Zs ?_)))));have Τ:∀l,ZS (ZP C0 w) A (operate l (call (.builtin id) ([]++vs) [])>>=fun r=>(do A9 [r] point;o4 r)) Q E s₁:=fun l=>Zq (fun Γ p S8=>by rw[Sem.wp_operate];exact I2 Γ p S8);have hm:∀m,ZS (ZP C0 w) A (callMarked m (.builtin id) ([]++vs) []>>=fun r=>(do A9 [r] point;o4 r)) Q E s₁:=fun m=>Zq (by unfold callMarked;exact Calls.wpAny_keep I2);generalize (((u5 pos (f0 args C1)).any fun x=>x.fst)||([]:List (Option Str×Sem Value)).any fun x=>x.fst.isNone)=b;cases b <;> first
  |exact Τ _
  |exact hm _
  |exact Zq I2
  |exact wpAny_ite (by split <;> first |exact Zq I2 |exact hm _)
theorem Tb{K:Frag}{c:b0}{oc:Obj}(h:D3.le (am K) Z)(hc:Z c=some oc):D3.le (am ((c,oc)::K)) Z:=fun a o e=>by
 unfold am at e;rw[ZN] at e;by_cases q:a=c
 ·subst q;simp only[beq_self_eq_true,l8] at e;subst e;exact hc
 ·have:(a==c)=false:=beq_eq_false_iff_ne.mpr q;rw[this] at e;exact h a o e
theorem Zn{K:Frag}{c P:b0}{q:Str}{elt:Expr}{scope:Scope}{N9:Pos}{U3:List (Str×AV)}{led:aa}{bs:List Bool}{m:Nat}{bi:b0}
  (hG:∀K',(∀a o,K.lookup a=some o->(am K') a=some o)->G1 (am K')) (hm:5<=m) (hA:D6 A (m+10))
  (J8:((u5 pos (f0 [cj elt C3 iter scope N9] C1)).all fun x => !x.1)=true) (hse:f0 [cj elt C3 iter scope N9] C1=(false,k7 (cj elt C3 iter scope N9) C1)::f0 [] C1)
  (Q4:scope.isCoroutine=false) (R1:closureFor scope C1=o4 []) (I6:∀y∈scope.names,y.2 ≠ .cell) (h0:scope.names.lookup (".0" : Str)=some NameKind.local) (I5:scope.kind=.function) (ζ:∀x,genFold iter C1 x=o4 x)
  (hc:C1.code=.ref c) (G_:oC K c P=true) (hq:C1.qual ++ "<genexpr>" = q) (Ω:f1 K ⟨C0,w.params⟩ (builtinsFor C1.globals C1.builtins)=some bi) (hP:(P,jF q)∈led)
  (H6:T C0 w A (am K) C1 Val (k7 iter C1) ⟨loc,led⟩ fun v E5=>v=.lst xs/\E5=⟨loc,led⟩) (hl:xs.length=bs.length)
  (Í:∀x v,U3.lookup x=some v->v=.any/\scope.names.lookup x=some .local) (Ř:(U3.lookup (".0" : Str)).isSome=true) (hJ:J U3)
  (H1:∀(K':Frag) E8 c' L,(∀a o,K.lookup a=some o->(am K') a=some o)->E8=genEnv scope [] L (.ref c') bi C1->kdsCode K' (.ref c')=true->∀p∈xs.zip (bs.map AV.bool),∀loc,J loc->∀A,D6 A m->∀led,
   F1 C0 w A (am K') E8 aS (m0 C3 E8) p.1 ⟨loc,led⟩ fun O J2=>T C0 w A (am K') E8 Val (k7 elt E8) J2 fun v N5=>v=p.2/\N5.led=led/\J N5.loc)
  (h:R (.bool (bs.any id)) ⟨loc,led⟩):CA C0 w A (am K) C1 pos (.blt "any") [] [cj elt C3 iter scope N9] ⟨loc,led⟩ R:=Zm J8 fun s Z S Q E hQ=>by
 rw[hse];refine Calls.spliced_cons ?_;refine wpAny_GeneratorExp_make Q4 R1 I6 h0 I5 hA.lt ?_ ζ;refine H6 s Z S _ _ fun v x s₁ Z1 E5 k₁ S1 V1 X1=>?_;refine aA k₁ fun O1 O2=>?_;clear k₁;subst O1;subst O2;refine Im (C0:=C0) (w:=w) (B:=am K) (C3:=C3) (st:=⟨loc,led⟩) (k:=m) (K:=fun u F9=>∃it gl,u=.ref it/\F9=⟨loc,gl++led⟩/\(∀B' N,D5 C0 w B' N m C3 it xs gl)/\∀B',oH C0 w B' it gl)
  (fun it gl h1 h2=>⟨it,gl,rfl,rfl,h1,h2⟩) s₁ Z1 x V1 S1 _ _ fun u y s2 Z2 F9 k2 S2 V2 X2=>?_
 refine lA k2 fun it gl O3 O4 hI M5=>?_;clear k2;subst O3;subst O4
 (have e_:=V2.inv;subst e_)
 have hGK:=hG K fun a o e=>e;refine⟨hGK.lim _ fun a o e=>S2.frozen a o (S2.base a o e),?_⟩;have S2L:=S2.toL;rw[hq];refine IA (led:=(C1.locals,.ns loc)::(gl++led)) hc G_ (Zt _ (ZY _ hP)) S2L fun c' oc vs t s3 Z3 S3 X3 hz hd hr=>?_;have T9:=y5 (M:=ZP C0 w) (dg S3.base S3.frozen) Ω;refine T9 A _ _ s3 (fun b o e=>e) ?_;intro h' g_ K1;have hle':D3.le (am ((c',oc)::K)) Z3:=Tb S3.base hz;have hKK:∀a o,K.lookup a=some o->(am ((c',oc)::K)) a=some o:=fun a o e=>by
  unfold am;rw[ZN];by_cases q:a=c'
  ·subst q
   have:=S3.base _ _ e;rw[hz] at this;cases this
   simp
  ·have:(a==c')=false:=beq_eq_false_iff_ne.mpr q;exact(Eq.symm (this))▸e
 have S3':C7 (am ((c',oc)::K)) s3 Z3 ((C1.locals,.ns loc)::(gl++led)):=⟨hle',S3.frozen,S3.nodup,S3.apart,S3.own,S3.gnodup,S3.bare⟩;have ĥ:kdsCode ((c',oc)::K) (.ref c')=true:=by
  obtain⟨a1,a2,a3,a4⟩:=oc;dsimp only at hd;subst hd;simp[kdsCode,ZN]
 have N1:=S3'.newGen (nm:=.str (Zw "<genexpr>") (s3.toks+1)) (qn:=.str q (s3.toks+1+1)) (loc:=U3) (gs:=.fresh (.compStart (cj elt C3 iter scope N9) 0 (.ref it) .none (genEnv scope [] s3.heap.objs.size (.ref c') bi C1))) (tk:=s3.toks+1+1+1) g_ K1 (fun x=>by
   cases e:U3.lookup x with
   |some v =>
    refine aA (Í x v e) fun O1 O2=>?_;subst O1;clear O2;exact .any
   |none =>
    have hx:x≠(".0" : Str):=fun e'=>by rw[e'] at e;rw[e] at Ř;cases Ř
    exact(Eq.symm (if_neg hx))▸.none) rfl rfl
 refine aA N1 fun S4 X4=>?_;clear N1;refine Calls.spliced_nil ?_;have hsus:=I8.genexp (C0:=C0) (w:=w) (B:=am ((c',oc)::K)) (N:=[]) (C1:=genEnv scope [] s3.heap.objs.size (.ref c') bi C1) (elt:=elt) (C3:=C3) (iter:=iter) (scope:=scope) (pos:=N9) (it:=it) (k:=m) (m:=m) (J:=J) (xs:=xs) (C5:=bs.map AV.bool) (gl:=gl) (loc:=U3) (ZZ _) Q4
  (fun x v e=>(Í x v e).2) I5 (by rw[Zu];exact hl) (H1 _ _ c' _ hKK rfl ĥ) (hI _ _) (M5 _) hJ
 have hit:=D5.gen (C0:=C0) (w:=w) (B:=am ((c',oc)::K)) (N:=[]) (C3:=lG) (a:=h'.objs.size) (g:=s3.gens.size) (hG _ hKK) (fun O O O O O O O O A Q E hq=>Zs hq) hsus;have P4:((h'.objs.size,D9.gen s3.gens.size (.fresh (.compStart (cj elt C3 iter scope N9) 0 (.ref it) .none (genEnv scope [] s3.heap.objs.size (.ref c') bi C1))))::(s3.heap.objs.size,D9.ns U3)::(C1.locals,D9.ns loc)::(gl++led)).Perm
   (((h'.objs.size,D9.gen s3.gens.size (.fresh (.compStart (cj elt C3 iter scope N9) 0 (.ref it) .none (genEnv scope [] s3.heap.objs.size (.ref c') bi C1))))::(s3.heap.objs.size,D9.ns U3)::gl)++((C1.locals,D9.ns loc)::led)) :=
  w7 _ (w7 _ n0.symm)
 have S4':=S4.perm P4;rw[dN P4] at X4;refine call_function_tree F.kind_any F.plain_any F.entry_any (F.args_any1 _) ?_;unfold Builtin.«any»;refine Zq (m:=oneArg "any" _) (Zs ?_);refine Zq (wpAny_pyIter_gen (S4'.own _ (Zr ..)).1 ?_);refine Zs ⟨plainId_quiet F.plain_any_loop _,VZ (k:=m+3+1) ?_ bs _ ((C1.locals,.ns loc)::led) _ Z3 .nil hit S4' fun s5 Z5 S5 X5=>?_⟩
 ·exact⟨hA.h,by have:=hA.d;show A.depth+(m+3+1+1)<=_;omega,by have:=hA.u;show A.units+(m+3+1+1)<=_;omega⟩
 ·have S5K:C7 (am K) s5 Z5 ((C1.locals,.ns loc)::led):=⟨S3.base.trans (X4.le.trans X5.le),S5.frozen,S5.nodup,S5.apart,S5.own,S5.gnodup,S5.bare⟩;have Ι:=X1.trans X2;have X35:=(X3.trans X4).trans X5;rw[dx (st:=⟨loc,gl++led⟩)] at Ι;have X:=Ι.trans X35;have e:=dx (C1:=C1) (st:=⟨loc,led⟩);dsimp only at e;rw[← e] at X;exact hQ (.bool (bs.any id)) _ s5 Z5 ⟨loc,led⟩ h (C7.toF (st:=⟨loc,led⟩) S5K S2.kinds S2.fn) (.bool _) X
theorem Iw{γ:Type}(f:α->β)(h:α->γ)(g:List α):(g.map f).zip (g.map h)=g.map fun o=>(f o,h o):=by
 induction g with
 |nil=>rfl
 |cons x xs ih=>rw[ZD,ZD,u7,ih,ZD]
theorem Iv{K:Frag}{c P:b0}{q:Str}{elt:Expr}{scope:Scope}{N9:Pos}(ns:List Str){led:aa}(f:α->AV)(t:α->Bool){gs:List α}{m:Nat}{bi:b0}
  (hG:∀K',(∀a o,K.lookup a=some o->(am K') a=some o)->G1 (am K')) (hm:5<=m) (hA:D6 A (m+10))
  (J8:((u5 pos (f0 [cj elt C3 iter scope N9] C1)).all fun x => !x.1)=true) (hse:f0 [cj elt C3 iter scope N9] C1=(false,k7 (cj elt C3 iter scope N9) C1)::f0 [] C1)
  (Q4:scope.isCoroutine=false) (R1:closureFor scope C1=o4 []) (I6:(scope.names.all fun x=>decide (x.2 ≠ .cell))=true) (h0:scope.names.lookup (".0" : Str)=some NameKind.local) (I5:scope.kind=.function) (ζ:∀x,genFold iter C1 x=o4 x)
  (hc:C1.code=.ref c) (G_:oC K c P=true) (hq:C1.qual ++ "<genexpr>" = q) (Ω:f1 K ⟨C0,w.params⟩ (builtinsFor C1.globals C1.builtins)=some bi)
  (g_:(ns.all fun x=>decide (scope.names.lookup x=some .local))=true) (Ř:ns.contains (".0" : Str)=true)
  (hP:(P,jF q)∈led)
  (H6:T C0 w A (am K) C1 Val (k7 iter C1) ⟨loc,led⟩ fun v E5=>v=.lst (gs.map f)/\E5=⟨loc,led⟩)
  (H1:∀(K':Frag) E8 c' L,(∀a o,K.lookup a=some o->(am K') a=some o)->E8=genEnv scope [] L (.ref c') bi C1->kdsCode K' (.ref c')=true->∀o∈gs,∀A,D6 A m->∀led,
   F1 C0 w A (am K') E8 aS (m0 C3 E8) (f o) ⟨ns.map fun x=>(x,.any),led⟩ fun O J2=>T C0 w A (am K') E8 Val (k7 elt E8) J2 fun v N5=>v=.bool (t o)/\N5.led=led/\fg N5.loc (ns.map fun x=>(x,.any))=ns.map fun x=>(x,.any))
  (h:R (.bool ((gs.map t).any id)) ⟨loc,led⟩):CA C0 w A (am K) C1 pos (.blt "any") [] [cj elt C3 iter scope N9] ⟨loc,led⟩ R:=by
 have å:∀(l:List Str) x v,(l.map fun x=>(x,AV.any)).lookup x=some v->v=.any/\x∈l:=by
  intro l;induction l with
  |nil=>intro x v h;cases h
  |cons y l ih =>
   intro x v h;rw[ZD,ZN] at h;by_cases e:x=y
   ·subst e;rw[beq_self_eq_true,l8] at h;exact⟨h.symm,Zr ..⟩
   ·have:(x==y)=false:=beq_eq_false_iff_ne.mpr e;rw[this] at h;exact⟨(ih x v h).1,Zt _ (ih x v h).2⟩
 have hin:∀(l:List Str) x,x∈l->((l.map fun x=>(x,AV.any)).lookup x).isSome=true:=by
  intro l;induction l with
  |nil=>intro x h;cases h
  |cons y l ih =>
   intro x h;rw[ZD,ZN];by_cases e:x=y
   ·subst e;simp
   ·have:(x==y)=false:=beq_eq_false_iff_ne.mpr e;exact(Eq.symm (this))▸ih x ((Zy.mp h).resolve_left e)
 refine Zn (U3:=ns.map fun x=>(x,.any)) hG hm hA J8 hse Q4 R1 (fun y hy=>by have:=c5.mp I6 y hy;simpa using this) h0 I5 ζ hc G_ hq Ω hP H6 (bs:=gs.map t) (J:=fun l=>fg l (ns.map fun x=>(x,.any))=ns.map fun x=>(x,.any)) (by rw[Zu,Zu]) (fun x v e=>?_) (hin ns _ (by simpa using Ř)) (Gj _) (fun K' E8 c' L hK e hk p hp loc hJ A hA led=>?_) h
 ·refine aA (å ns x v e) fun O1 hx=>?_;subst O1;exact⟨rfl,by have:=c5.mp g_ x hx;simpa using this⟩
 ·rw[m4,Iw] at hp;exact(ZV.mp hp).elim fun o q=>q.2▸F1.fit hJ (H1 K' E8 c' L hK e hk o q.1 A hA led)
end
noncomputable abbrev kI:Str:=NA
noncomputable abbrev kD:Str:=NB
noncomputable abbrev kR:Str:=NC
noncomputable abbrev kE:Str:=Nz
theorem QZ(a b c d:Value):checkTypeCall "dict" ⟨[],[(kI,a),(kD,b),(kR,c),(kE,d)]⟩=o4 ():=@_
theorem Ra(a b c d:Value):checkBuiltinCall "dict.__new__" ⟨[.type "dict"],[(kI,a),(kD,b),(kR,c),(kE,d)]⟩=o4 ():=@_
theorem Rc(x a b c d:Value):B2 "dict.__init__" ⟨[x],[(kI,a),(kD,b),(kR,c),(kE,d)]⟩:=by
 unfold B2;rw[signature?_of (id := "dict.__init__") (n:=['_','_','t','i','n','i','_','_']) (o:=['t','c','i','d']) @_ F.owner_dict];kernel_rfl
theorem Rb(Y0:List (Str×Value))(hk:checkBuiltinCall "dict.__new__" ⟨[.type "dict"],Y0⟩=o4 ()){Q₁:Value->Zx->Prop}(h:Q₁ (.ref s.heap.objs.size) {s with heap:=s.heap.push {cls:=.type "dict",data:=.dict #[]} }) :
  codeAny (ZP C0 w) A (.call (.builtin "dict.__new__") ⟨[.type "dict"],Y0⟩) (wants Q₁ E) s:=by
 refine p6 F.kt_plain_dict_new F.kt_entry_dict_new (f9 hk ?_);have L6:=F.kt_sub_dict;have ė:=F.kt_mro_dict;obtain⟨hp,g,d,tk,os⟩:=s;unfold Builtin.«dict.__new__»;wp_walk
 exact h
theorem Vq{T Æ k_:String}{Bi:Builtin}{Y0:List (Str×Value)}{Q₁:Value->Zx->Prop}(ft:TypeCalled T Æ k_)
  (hct:checkTypeCall T ⟨[],Y0⟩=o4 ()) (ï:entryFor table k_=some Bi)
  (P9:codeAny (ZP C0 w) A.in1 (.call (.builtin Æ) ⟨[.type T],Y0⟩) (wants Q₁ E) s)
  (Y7:∀obj s₁,Q₁ obj s₁->s₁.TypeIs obj T/\B2 k_ ⟨[obj],Y0⟩ /\
   ZS (ZP C0 w) A.in1.in1 (Bi ⟨[obj],Y0⟩)
    (fun fin s'=>match fin with |.done f=>wants (fun r s2=>r=.none/\Q obj s2) E (.ok f) s' |.again c'=>c'.quiet=true/\codeAny (ZP C0 w) A.in1 c' (wants (fun r s2=>r=.none/\Q obj s2) E) s')
    (fun e s'=>wants (fun r s2=>r=.none/\Q obj s2) E (.error e) s') s₁) :
  ZS (ZP C0 w) A (call (.type T) [] Y0) Q E s:=by
 refine gF ft.mro fun c tl ė=>?_;have Ę:=ft.made;have L6:=ft.sub;refine t8 (codeAny_of_tree ?_);show ZS _ _ (callAny (.type T) _) _ _ _;refine Zs ⟨Code.quiet_builtin _ (by decide +kernel),y0 F.entry_type_call ?_⟩;rw[Around.under_plain (weight_type_call_type T [] Y0) rfl];have h1:=ft.notType;have h2:=ft.canCreate;repeat (any_goals (first |assumption |wp_step))
 refine codeAny_mono P9 fun r s₁ hr=>?_;cases r with
 |error e=>exact hr
 |ok fl =>
  cases fl with
  |ret obj =>
   refine di (Y7 _ _ hr) fun hT G_ hsi=>?_;have hli:=ft.init.lookup;have Ω:=ft.init.bind obj;repeat (any_goals (first |assumption |wp_step))
   refine codeAny_mono (p6 ft.init.plain ï (ft.init.check _ _ _ _ _ _ _ _ hT G_ hsi)) fun r2 s2 Β=>?_;cases r2 with
   |error e=>exact Β
   |ok fl2 =>
    cases fl2 with
    |ret r =>
     refine aA Β fun O1 hq=>?_;clear Β;subst O1;repeat (any_goals (first |assumption |wp_step))
    |_=>exact Β.elim
  |_=>exact hr.elim
theorem JT{kvs:List (Str×Value)}{k:Str}{v:Value}:(stored kvs k v).length<=kvs.length+1:=by
 unfold stored;split
 ·rw[Zu];exact Nat.le_succ _
 ·exact Nat.le_of_eq ZA
theorem VP{m l:Nat}(h:n+(l+1)<=k)(h':m<=n+1):m+l<=k:=d7 (Nat.add_le_add_right h' l) (d7 (Nat.le_of_eq (Nat.add_right_comm n 1 l)) h)
theorem Wh{h0:Heap}(L:List (Str×Value)):∀(kvs:List (Str×Value)) (s:Zx) (Q:Unit->Zx->Prop),(∀p∈L,p.1.length<=c9)->kvs.length+L.length<=c9->s.heap.DictOf (a8 C0 w) a kvs->a7 a h0 s.heap ->
  (∀h' tk,h'.DictOf (a8 C0 w) a (L.foldl (fun m p=>stored m p.1 p.2) kvs)->a7 a h0 h'->Q () {s with heap:=h',toks:=tk})->ZS (ZP C0 w) A (Builtin.Dict.addKeywords a L) Q E s:=by
 unfold Builtin.Dict.addKeywords;intro kvs s Q hk hz hd hs hQ;refine Zq ?_;have î:∀h' tk,h'.DictOf (a8 C0 w) a (L.foldl (fun m p=>stored m p.1 p.2) kvs)->a7 a h0 h'->(fun(_:PUnit) s'=>ZS (ZP C0 w) A (o4 ()) Q E s') () {s with heap:=h',toks:=tk}:=fun h' tk d e=>Zs (hQ h' tk d e);generalize (fun(_:PUnit) s'=>ZS (ZP C0 w) A (o4 ()) Q E s')=Q' at î ⊢;clear hQ Q;induction L generalizing kvs s with
 |nil=>exact Zs (î s.heap s.toks hd hs)
 |cons p L ih =>
  obtain⟨k,v⟩:=p;rw[List.forIn_cons];refine Zq (Zq (wpAny_mkStr (x:=k) (hx:=hk (k,v) (Zr ..)) (Zq ?_)));refine wpAny_dictSet_pairs (hsz:=d7 (Nat.le_add_right ..) hz) (k:=k) (knd:=a8 C0 w) (by simp[a8,Value.isStrOf]) hd fun h1 d1 s1=>?_;exact Zs (ih _ _ (fun q hq=>hk q (Zt _ hq)) (VP hz JT) d1 (hs.trans s1) î)
theorem Vo{v1 v2 v3 v4:Value}
  (h:∀h' tk,h'.DictOf (a8 C0 w) s.heap.objs.size [(kI,v1),(kD,v2),(kR,v3),(kE,v4)]->a7 s.heap.objs.size (s.heap.push {cls:=.type "dict",data:=.dict #[]}) h'->Q (.ref s.heap.objs.size) {s with heap:=h',toks:=tk}) :
  ZS (ZP C0 w) A (call (.type "dict") [] [(kI,v1),(kD,v2),(kR,v3),(kE,v4)]) Q E s:=by
 refine Vq (Q₁:=fun obj s₁=>obj=.ref s.heap.objs.size/\s₁={ s with heap:=s.heap.push {cls:=.type "dict",data:=.dict #[]} }) F.kt_called_dict (QZ _ _ _ _) F.entry_dict_init (Rb _ (Ra _ _ _ _) ⟨rfl,rfl⟩) ?_;intro obj s₁ Y3;refine aA Y3 fun ð Y32=>?_;clear Y3;subst ð;subst Y32;have P9:(s.heap.push {cls:=.type "dict",data:=.dict #[]}).DictOf (a8 C0 w) s.heap.objs.size []:=Heap.DictOf.new s.heap;refine⟨P9.typeIs,Rc _ _ _ _ _,?_⟩;unfold Builtin.«dict.__init__»;refine Zq ?_;unfold Builtin.Dict.selfAndRest;refine Zq (wpAny_notOrdered_dict P9.typeIs ?_);show ZS _ _ (o4 (s.heap.objs.size,[])) _ _ _;refine Zs ?_;show ZS _ _ (Builtin.Dict.addKeywords s.heap.objs.size [(kI,v1),(kD,v2),(kR,v3),(kE,v4)]>>=fun O=>ret .none) _ _ _;refine Zq ?_;refine Wh (h0:=s.heap.push {cls:=.type "dict",data:=.dict #[]}) _ [] _ _ (fun p hp=>?_) (by show 4<=_;rw[j7];decide) P9 (.refl _ _) fun h' tk d e=>Zs ⟨rfl,h h' _ (show h'.DictOf (a8 C0 w) _ [(kI,v1),(kD,v2),(kR,v3),(kE,v4)] from d) e⟩;have sz:∀x:Str,x.length<=20->x.length<=c9:=fun x h=>d7 h (by rw[j7];decide);simp only[Zy,n5,or_false] at hp;rcases hp with rfl |rfl |rfl |rfl
 ·exact sz kI (by decide)
 ·exact sz kD (by decide)
 ·exact sz kR (by decide)
 ·exact sz kE (by decide)
theorem WG{px p1 p2 p3 p4:Pos}{q1 q2 q3 q4:Pos}{n1 n2 n3 n4:Nat}{t1 t2 t3 t4:Str}{led:aa}
  (hc:k7 (.Call (.Name x px) [] [⟨some kI,.Constant (.str t1) n1 p1,q1⟩,⟨some kD,.Constant (.str t2) n2 p2,q2⟩,⟨some kR,.Constant (.str t3) n3 p3,q3⟩,⟨some kE,.Constant (.str t4) n4 p4,q4⟩] pos) C1 =
   (do callWith pos (← k7 (.Name x px) C1) [] (u5 pos (f0 [] C1)) (backToKw pos (keywordEach [⟨some kI,.Constant (.str t1) n1 p1,q1⟩,⟨some kD,.Constant (.str t2) n2 p2,q2⟩,⟨some kR,.Constant (.str t3) n3 p3,q3⟩,⟨some kE,.Constant (.str t4) n4 p4,q4⟩] C1))))
  (hx:bn B x (.typ "dict")) (hk:C1.kindOf x=some .globalImplicit) (hg:C1.globals=l9) (hb:C1.builtins=s7) (hd:(x==("__debug__" : Str))=false)
  (h:∀d,d∉keys led->R (.ref d) ⟨loc,(d,au (a8 C0 w) [(kI,.str t1),(kD,.str t2),(kR,.str t3),(kE,.str t4)])::led⟩) :
  T C0 w A B C1 Val (k7 (.Call (.Name x px) [] [⟨some kI,.Constant (.str t1) n1 p1,q1⟩,⟨some kD,.Constant (.str t2) n2 p2,q2⟩,⟨some kR,.Constant (.str t3) n3 p3,q3⟩,⟨some kE,.Constant (.str t4) n4 p4,q4⟩] pos) C1) ⟨loc,led⟩ R:=fun s Z S Q E hQ=>by
 rw[hc];refine Zq (HE (K:=fun v C4=>v=.typ "dict" /\ C4=⟨loc,led⟩) hx hk hg hb hd ⟨rfl,rfl⟩ s Z S _ _ fun v u s₁ Z1 E5 k₁ S1 V1 X1=>?_);refine aA k₁ fun O1 O2=>?_;clear k₁;subst O1;subst O2
 (have e_:=V1.inv;subst e_)
 unfold callWith;have sz:∀n,n<10->n<=c9:=fun n h=>by rw[j7];omega
 refine Zq (ZF (evalArgs_kw_nil rfl ?_));show ZS (ZP C0 w) A (evalAll [(do let v ← k7 (.Constant (.str t1) n1 p1) C1;standAt pos;o4 v),(do let v ← k7 (.Constant (.str t2) n2 p2) C1;standAt pos;o4 v),(do let v ← k7 (.Constant (.str t3) n3 p3) C1;standAt pos;o4 v),(do let v ← k7 (.Constant (.str t4) n4 p4) C1;standAt pos;o4 v)]) _ E s₁;refine wpAny_evalAll_cons (Zq (w0 (Zq (a9 (Zs ?_)))));refine wpAny_evalAll_cons (Zq (w0 (Zq (a9 (Zs ?_)))));refine wpAny_evalAll_cons (Zq (w0 (Zq (a9 (Zs ?_)))));refine wpAny_evalAll_cons (Zq (w0 (Zq (a9 (Zs ?_)))));refine wpAny_evalAll_nil ?_;refine Zq (a9 (Zq (Zs ?_)));have fin:∀s2:Zx,D7 B C1 s2 Z1 ⟨loc,led⟩->E7 (aC C1 ⟨loc,led⟩) s Z s2 Z1 (aC C1 ⟨loc,led⟩)->∀u1 u2 u3 u4:Tok,
   ZS (ZP C0 w) A (call (.type "dict") [] [(kI,.str t1 u1),(kD,.str t2 u2),(kR,.str t3 u3),(kE,.str t4 u4)]) (fun r s'=>ZS (ZP C0 w) A (do A9 [r] point;o4 r) Q E s') E s2:=fun s2 S2 X2 u1 u2 u3 u4=>by
  refine Vo fun h' tk Ε K1=>?_;have keep:∀b o,s2.heap.get? b=some o->h'.get? b=some o:=fun b o e=>K1.extBut b o (j9 (e8 e)) (ZC _ e);have P1:=S2.toC7.push (o:={ cls:=.type "dict",data:=.dict #[]}) (ao:=au (a8 C0 w) []) rfl s2.toks (ib (s:={ s2 with heap:=s2.heap.push {cls:=.type "dict",data:=.dict #[]} }) (Heap.DictOf.new s2.heap) .nil);have P2:=P1.1.upd (led':=(s2.heap.objs.size,au (a8 C0 w) [(kI,.str t1),(kD,.str t2),(kR,.str t3),(kE,.str t4)])::led) .here (h':=h') (tk:=tk) (fun b ob hb e=>(K1.2 b hb).trans e) rfl rfl
   (ib (s:={ s2 with heap:=h',toks:=tk}) Ε (.cons (.str _ _) (.cons (.str _ _) (.cons (.str _ _) (.cons (.str _ _) .nil)))))
  have I':s2.heap.objs.size∉keys led:=S2.toC7.lfresh;refine Zq (ZF (wpAny_point (Zs (hQ (.ref s2.heap.objs.size) _ _ Z1 _ (h _ I') (S2.after P2.1 (P1.2.trans P2.2)) (.ref _) (X2.trans ((P1.2.trans P2.2).toF (st:=⟨loc,led⟩)))))))
 have S2:=S1.toks (s₁.toks+1+1+1+1);have X2:=X1.trans (E7.toks (own:=aC C1 ⟨loc,led⟩) (s:=s₁) (Z:=Z1) (s₁.toks+1+1+1+1));have I2:=fin _ S2 X2 s₁.toks (s₁.toks+1) (s₁.toks+1+1) (s₁.toks+1+1+1);exact Zq I2
theorem sH{d:Str}(h:d.length<10^4):(dB d).length<10^5:=by
 unfold dB;split
 ·show (sE).length<_;decide
 ·unfold sv;rw[Str.length_append,show (Zw "\t").length=1 from by decide +kernel];omega
theorem sF{d:Str}(c:(((d.length:Nat):Int) != 0)=true):AV.str (sv d)=.str (dB d):=congrArg AV.str (if_neg fun q=>bne_iff_ne.mp c (by rw[q];rfl)).symm
theorem sG{d:Str}(c:(((d.length:Nat):Int) != 0)=false):AV.str sE=.str (dB d):=congrArg AV.str (if_pos (Int.ofNat_eq_zero.mp (bne_eq_false_iff_eq.mp c))).symm
theorem uo(i j:Nat)(xs:List Str):AV.lst (((xs.map AV.str).drop i).take (j-i))=.lst ((aV xs i j).map AV.str):=by unfold aV;rw[List.map_take,List.map_drop]
theorem um{xs:List Str}(h:y∈aV xs i j):y∈xs:=List.mem_of_mem_drop (List.mem_of_mem_take h)
section
variable(a b:List Str)(ff tf fd td lt:Str)(n:Nat)
noncomputable abbrev gb(s v1 v2 v3 v4 v5 v6 v7 v8 v9 Q8 Q7 ā Ā:AV:=.any):List (Str×AV) :=
 [(vh,.str lt),(lW,.int n),(vj,.str td),(vk,.str fd),(vp,.str tf),(vq,.str ff),(du,.lst (b.map .str)),(dG,.lst (a.map .str)),
  (pM,v1),(vc,v2),(uZ,v3),(uY,v4),(uX,v5),(uW,v6),(uV,v7),(kd,v8),(mf,v9),(mc,Q8),(me,Q7),(lZ,ā),(lY,Ā),(vd,s)]
def JU(gs:List (List Op))(P:St->List AV->Prop):Prop:=∀s,(∀g∈gs,H3 a.length b.length g)->P ⟨gb a b ff tf fd td lt n (.bool s),[]⟩ ((dk a b ff tf fd td lt s gs).map .str)
def KU(g:List Op)(gs:List (List Op))(Y:aa)(P:St->List AV->Prop):Prop:=P ⟨gb a b ff tf fd td lt n (.bool true) (bU g),Y⟩ ((kW a b lt g++dk a b ff tf fd td lt true gs).map .str)
end
def JV(f:Op->List Str)(L:List (Str×AV))(Y:aa)(g:List Op)(rest:List Str)(os:List Op)(P:St->List AV->Prop):Prop:=(∀o∈os,o∈g)->P ⟨L,Y⟩ ((os.flatMap f++rest).map .str)
noncomputable def km(a:List Str)(o:Op):List Str:=if o.tag=ba∨o.tag=bc then (aV a o.i1 o.i2).map (Nf ++ ·) else []
noncomputable def iQ(b:List Str)(o:Op):List Str:=if o.tag=ba∨o.tag=bb then (aV b o.j1 o.j2).map (Nd ++ ·) else []
section
variable{a b R:List Str}{o:Op}
theorem Os(c:o.tag=ah):((o::os).flatMap (de a b)++R).map AV.str=((aV a o.i1 o.i2).map (Ng ++ ·)).map .str++(os.flatMap (de a b)++R).map .str:=by
 rw[List.flatMap_cons,ZW,show de a b o=(aV a o.i1 o.i2).map (Ng ++ ·) from if_pos c,ZT]
theorem Oo(c : ¬ o.tag=ah):((o::os).flatMap (de a b)++R).map AV.str=(km a o++(iQ b o++(os.flatMap (de a b)++R))).map .str:=by
 rw[List.flatMap_cons,ZW,show de a b o=km a o++iQ b o from if_neg c,ZW]
theorem Ov(c:o.tag=ba∨o.tag=bc):(km a o++R).map AV.str=((aV a o.i1 o.i2).map (Nf ++ ·)).map .str++R.map .str:=by unfold km;rw[if_pos c,ZT]
theorem Ow(c : ¬ (o.tag=ba∨o.tag=bc)):(km a o++R).map AV.str=R.map .str:=by unfold km;rw[if_neg c];rfl
theorem Ot(c:o.tag=ba∨o.tag=bb):(iQ b o++R).map AV.str=((aV b o.j1 o.j2).map (Nd ++ ·)).map .str++R.map .str:=by unfold iQ;rw[if_pos c,ZT]
theorem Ou(c : ¬ (o.tag=ba∨o.tag=bb)):(iQ b o++R).map AV.str=R.map .str:=by unfold iQ;rw[if_neg c];rfl
end
theorem H3.at0{la lb:Nat}{g:List Op}(h:H3 la lb g):(g.map aT)[(0:Int).toNat]?=some (bg (aG g)):=by
 cases g with
 |nil=>exact absurd rfl h.ne
 |cons o os=>rfl
theorem H3.atL{la lb:Nat}{g:List Op}(h:H3 la lb g):∃os:List Op,g.map aT=os.map aT++[bg (aD g)]/\(os.map aT).length<10^9:=by
 refine aw h.last fun os e=>?_;refine bB os ((congrArg (List.map aT) e).trans ZT) ?_
 have:=h.len;rw[e,ZA,r8] at this;rw[Zu];omega
section
variable{N:aa}{F:List b0}{M:List K2}
theorem zx{tl:List Stmt}{m:Nat}{c q p1 p2:Str}{px px2 pq pp1 pp2 psl psu pc pb Q6 Ø:Pos}{L:AV->List (Str×AV)}{l:aa}{xs:List Str}{rest:List AV}{u:AV}{K:D4->St->List AV->Prop}(hG:∀A:ZI,A.handled=none->P7 ⟨C0,w,A,B,C1,G,F,M⟩)(hm:5<=m)
  (hx:C1.kindOf x=some .local) (Ú:∀u v,cL (L u) x v=L v) (hc:c.length<=10)
  (q0:∀A l',A.handled=none->∀ {K:AV->St->Prop},K (.lst (xs.map .str)) ⟨L u,l'⟩->T C0 w A B C1 Val (k7 (.Name q pq) C1) ⟨L u,l'⟩ K)
  (q1:∀A l',A.handled=none->∀ {K:AV->St->Prop},K (.int i) ⟨L u,l'⟩->T C0 w A B C1 Val (k7 (.Name p1 pp1) C1) ⟨L u,l'⟩ K)
  (q2:∀A l',A.handled=none->∀ {K:AV->St->Prop},K (.int j) ⟨L u,l'⟩->T C0 w A B C1 Val (k7 (.Name p2 pp2) C1) ⟨L u,l'⟩ K)
  (q3:∀A l' y,A.handled=none->∀ {K:AV->St->Prop},K (.str y) ⟨L (.str y),l'⟩->T C0 w A B C1 Val (k7 (.Name x px2) C1) ⟨L (.str y),l'⟩ K)
  (L8:i<=j) (hj:j<=xs.length) (hl:xs.length<=10^6) (O':∀y∈xs,y.length<10^4) (hd:∀v,TG C0 w B N n m C1 (execs tl C1) ⟨L v,l⟩ rest K)
  (hs:∀v,w9 (.Subscript (.Name q pq) (.Slice (some (.Name p1 pp1)) (some (.Name p2 pp2)) none psl) psu) C1 v=o4 v) (Q4:C1.scope.isCoroutine=false) (hi:interactive C1=false) :
  TG C0 w B N n m C1 (execs (.For (.Name x px) (.Subscript (.Name q pq) (.Slice (some (.Name p1 pp1)) (some (.Name p2 pp2)) none psl) psu) [.Expr (.Yield (some (.BinOp (.Constant (.str c) k pc) .Add (.Name x px2) pb)) Q6) Ø] [] pos::tl) C1) ⟨L u,l⟩ (((aV xs i j).map (c ++ ·)).map .str++rest) K :=
 zy hm hx Ú
  (fun A hA led hN=>zC (fun O O=>rfl) (q0 _ _ hA.h (q1 _ _ hA.h (q2 _ _ hA.h ⟨_,i,j,.frz,rfl,rfl,L8,by rw[Zu];exact hj,by rw[Zu,j7];omega,uo .. ▸ .mk⟩))))
  (fun A hA l' O y hy=>HJ (HB (q3 _ _ _ hA.h (gE (by have:=O' y (um hy);omega) .mk))))
  hd hs Q4 hi
end
theorem HD{o:Expr}{px O0:Pos}{args:List Expr}{a b:List Str}{l led N:aa}{J:List AV->St->List AV->Prop}
  (hA:D6 A 150) (hn:n<10^5) (ha:a.length<10^5) (hb:b.length<4000) (L7:(aY (aM a b) (0,a.length,0,b.length)).length<64)
  (M9:attributeBase o kc C1 (k7 o C1)=k7 o C1)
  (u_:((u5 pos (f0 args C1)).all (fun x => !x.1)&&(backToKw pos (keywordEach [] C1)).all (fun x=>x.1.isSome)
   && decide (args.length+([]:List Keyword).length+(if ([]:List Keyword).isEmpty then 0 else 1)<30))=true)
  (M6:(O0.endLine==pos.line)=true)
  (ho:∀K,FC af w A (ak w) C1 (.ref 242) [.none,.lst (a.map .str),.lst (b.map .str)] [] ⟨loc,l++led⟩ K->T af w A (ak w) C1 Val (k7 o C1) ⟨loc,l++led⟩ K)
  (hc:∀v led' K,FC af w A (ak w) C1 (.ref 218) [v,.int n] [] ⟨loc,led'⟩ K->CA af w A (ak w) C1 pos (.ref 218) [v] args ⟨loc,led'⟩ K)
  (hj:J ((aI n (bR (aQ (aM a b) a.length b.length))).map bU) ⟨loc,l⟩ C5) :
  T af w A (ak w) C1 Val (k7 (.Call (.Attribute o kc O0) args [] pos) C1) ⟨loc,l++led⟩ fun v E5=>F1 af w A (ak w) C1 Val pyIter v E5 (ς af w (ak w) N 104 (.Name x px) led J C5) :=
 ik (K:=KB w.params) (C:=242) (f:=218) M9 u_ M6 (bd _) @_ @_ (ho _ (gD (Qb (hA.mono ⋯) hb) (Qd fun md dj jk pp mm L4 W_ =>
  ó.mk (Zr ..) @_ (hc _ _ _ (Ie (I1:=bN w md dj jk pp a b mm .none .none []++(l++led)) (.refl _) (Sz (N:=N) (hA.mono ⋯) hn ha ⋯ L7 L4 W_) (H8.elim fun ga gn gs gl N3 =>
   bB _ (Q1.refl _) (YW (bA w) N3 fun hI => .mk (hI _ _) hj)))))))
theorem Au{a b:List Str}{ff tf fd td lt:Str}{led N:aa}(hbd:Binds af w A.in1 (ak w) (ap (iT w.params)) args kw [(dG,.lst (a.map .str)),(du,.lst (b.map .str)),(vq,.str ff),(vp,.str tf),(vk,.str fd),(vj,.str td),(lW,.int n),(vh,.str lt)])(hA:D6 A 200)(hn:n<10^5)(ha:a.length<10^5)(hb:b.length<4000)
  (hff:ff.length<10^4) (htf:tf.length<10^4) (hfd:fd.length<10^4) (htd:td.length<10^4) (G8:lt.length<10^4) (O':∀x∈a,x.length<10^4) (ō:∀x∈b,x.length<10^4) (L7:(aY (aM a b) (0,a.length,0,b.length)).length<64) :
  TC af w A (ak w) (.ref 261) args kw led
   (H8 af w (ak w) N 153 ((dk a b ff tf fd td lt false (aI n (bR (aQ (aM a b) a.length b.length)))).map .str) led):=by
 refine HM (m:=150) (gb a b ff tf fd td lt n) (bA w) hA.lt hbd @_ @_ @_ (Tw _) fun L=>?_;have hG:=fun(A:ZI) (hh:A.handled=none)=>(((((((gk w A (ap (iT w.params)) L 261 260 @_ @_ hh).g (FN w) @_ @_).g (FO w) @_ @_).g (SO w) @_ @_).f (f:=283) (bS @_)).f (f:=253) (bS @_)).f (f:=242) (bS @_)).m ⟨Np,0, "str.format"⟩ pR pC F.type_str_format_m;refine cJ [] (fun A' D0 led' F6=>aF (hG A' D0.h) 20 .mk) ?_;refine cJ [] (fun A' D0 led' F6=>aF (hG A' D0.h) 40 (C6.mk (eG (GM (D0.mono ⋯) ⋯ ⋯) .mk))) ?_;refine cJ [] (fun A' D0 led' F6=>aF (hG A' D0.h) 20 .mk) ?_;have T0:=yG a b n ha;refine ig (k:=104) bU (JU a b ff tf fd td lt n) ⋯ ?_ ?_ (fun O O=>bk rfl) (fun O=>@_)
 ·intro A' D0 led' F6;exact HD (l:=[]) (D0.mono ⋯) hn ha hb L7 @_ @_ @_ (fun O h=>ad (hG A' D0.h) 40 (C6.mk h)) (fun O O O h=>ds @_ (bS @_) (bP (hG A' D0.h) 20 h)) (.mk (fun O y=>y false T0) @_)
 ·intro gl g gs s T0;have hg:=T0 g (Zr ..);have é:=fun g' h'=>T0 g' (Zt _ h');clear T0;refine .mk (fun A' D0 led' F6=>cx (bp rfl rfl)) ?_;refine eD (KU a b ff tf fd td lt n g gs gl) (eE (p:=s=false) (fun A' D0 led' F6=>cb (hG A' D0.h) 20 ⟨rfl,by cases s <;> decide⟩) (fun c=>?_) fun c=>?_) ?_
  ·subst c;refine cJ gl (fun A' D0 led' F6=>aF (hG A' D0.h) 20 .mk) ?_;refine cJ gl (fun A' D0 led' F6=>ie (T.to (.str (dB fd)) (ad (hG A' D0.h) 20 (C6.mk (oO ⋯ (bK (fun c=>C6.mk (te ⋯ ⟨sF c,rfl⟩)) fun c=>⟨sG c,rfl⟩)))) (bp rfl .mk)) @_) ?_;refine cJ gl (fun A' D0 led' F6=>ie (T.to (.str (dB td)) (ad (hG A' D0.h) 20 (C6.mk (oO ⋯ (bK (fun c=>C6.mk (te ⋯ ⟨sF c,rfl⟩)) fun c=>⟨sG c,rfl⟩)))) (bp rfl .mk)) @_) ?_;have d1:=sH hfd;have d2:=sH htd;refine fR gl (fun A' D0 led' F6=>ad (hG A' D0.h) 20 (C6.mk (Ic ⋯ d1 ⋯ .mk))) ?_ @_ @_;refine fR gl (fun A' D0 led' F6=>ad (hG A' D0.h) 20 (C6.mk (Yb ⋯ d2 ⋯ .mk))) ?_ @_ @_;exact bk (R8.mk (fun O y=>y) @_)
  ·cases s with
   |true=>exact bk (R8.mk (fun O y=>y) @_)
   |false=>exact absurd rfl c
  ·have hf1:=hg.ii;have Ġ:=hg.jj;refine aA hg.i2 fun hl1 o_=>?_;refine ae hg.atL fun osL eL nL=>?_;refine cJ gl (fun A' D0 led' F6=>aF (hG A' D0.h) 40 (C6.mk (ee .frz (by decide) (by decide) (x:=bg (aG g)) hg.at0 (C6.mk (ly (xs:=osL.map aT) (x:=bg (aD g)) .frz eL nL .mk))))) ?_;refine cJ gl (fun A' D0 led' F6=>aF (hG A' D0.h) 40 (C6.mk (fq (by decide) (by decide) (x:=.int (aG g).i1) rfl (C6.mk (fq (by decide) (by decide) (x:=.int (aD g).i2) rfl (C6.mk (eG (BM (D0.mono ⋯) ⋯ ⋯ ⋯) .mk))))))) ?_;refine cJ gl (fun A' D0 led' F6=>aF (hG A' D0.h) 40 (C6.mk (fq (by decide) (by decide) (x:=.int (aG g).j1) rfl (C6.mk (fq (by decide) (by decide) (x:=.int (aD g).j2) rfl (C6.mk (eG (BM (D0.mono ⋯) ⋯ ⋯ ⋯) .mk))))))) ?_;have r1:=pF (a:=(aG g).i1) (b:=(aD g).i2) ⋯ ⋯ ⋯;have r2:=pF (a:=(aG g).j1) (b:=(aD g).j2) ⋯ ⋯ ⋯;refine fR gl (fun A' D0 led' F6=>ad (hG A' D0.h) 40 (C6.mk (Yg ⋯ ⋯ ⋯ .mk))) ?_ @_ @_;refine ig (k:=5) aT (JV (de a b) (gb a b ff tf fd td lt n (.bool true) (bU g) .any .any (bg (aG g)) (bg (aD g)) (.str (bY (aG g).i1 (aD g).i2)) (.str (bY (aG g).j1 (aD g).j2))) gl g (dk a b ff tf fd td lt true gs)) ⋯ (fun A' D0 led' F6=>ad (hG A' D0.h) 20 (eH (k:=5) fun it gl' hI => .mk (l:=gl) hI (.mk (fun O y=>y fun o ho=>ho) @_))) ?_ (fun O=>bk ?_) (fun O=>@_);case refine_2=>exact .next (l:=[]) (.mk (fun O y=>y true é) @_)
   intro gl' o os J5;have ho:=J5 o (Zr ..);have J5:=fun o' h'=>J5 o' (Zt _ h');have hi:=hg.i o ho;have hj:=hg.j o ho;refine .mk (fun A' D0 led' F6=>dK D0.h @_ @_ @_ (cY _ rfl _ _ rfl rfl rfl)) ?_;refine cK (eE (p:=o.tag=ah) (fun A' D0 led' F6=>cb (hG A' D0.h) 20 ⟨rfl,beq_iff_eq⟩) (fun c=>?_) fun c=>bk ?_)
   ·refine TG.eq (Os c) ?_;refine zx (c:=Ng) (xs:=a) (i:=o.i1) (j:=o.i2) (L:=(fun v=>gb a b ff tf fd td lt n (.bool true) (bU g) .any .any (bg (aG g)) (bg (aD g)) (.str (bY (aG g).i1 (aD g).i2)) (.str (bY (aG g).j1 (aD g).j2)) (.str o.tag) (.int (o.i1:Nat)) (.int (o.i2:Nat)) (.int (o.j1:Nat)) (.int (o.j2:Nat)) v)) (m:=150) hG ⋯ ?_ ?_ (by decide) ?_ ?_ ?_ ?_ hi.1 hi.2 ?_ O' (fun v=>?_) ?_ ?_ ?_
    ·kernel_rfl
    ·exact fun u v=>@_
    ·exact fun A l' hh {_} k=>ad (hG A hh) 5 k
    ·exact fun A l' hh {_} k=>ad (hG A hh) 5 k
    ·exact fun A l' hh {_} k=>ad (hG A hh) 5 k
    ·exact fun A l' y hh {_} k=>ad (hG A hh) 5 k
    ·omega
    ·exact cK (HA fun A' D0 led' F6=>Hx ⟨_,rfl,trivial,.cont (l:=gl) (.mk (fun O y=>y J5) @_)⟩)
    ·exact fun O=>@_
    ·kernel_rfl
    ·kernel_rfl
   ·refine TG.eq (Oo c) ?_;refine eD (fun P=>P ⟨gb a b ff tf fd td lt n (.bool true) (bU g) .any .any (bg (aG g)) (bg (aD g)) (.str (bY (aG g).i1 (aD g).i2)) (.str (bY (aG g).j1 (aD g).j2)) (.str o.tag) (.int (o.i1:Nat)) (.int (o.i2:Nat)) (.int (o.j1:Nat)) (.int (o.j2:Nat)),gl++gl'⟩ ((iQ b o++(os.flatMap (de a b)++dk a b ff tf fd td lt true gs)).map .str)) (eE (p:=o.tag=ba∨o.tag=bc) (fun A' D0 led' F6=>HN @_ @_ (ad (hG A' D0.h) 20 (by exact eF o.tag rfl rfl (by rw[Bool.or_eq_true,beq_iff_eq,beq_iff_eq])))) (fun c=>?_) fun c=>TG.eq (Ow c) (bk (R8.mk (fun O y=>y) @_))) ?_
    ·refine TG.eq (Ov c) ?_;refine zx (c:=Nf) (xs:=a) (i:=o.i1) (j:=o.i2) (L:=(fun v=>gb a b ff tf fd td lt n (.bool true) (bU g) .any .any (bg (aG g)) (bg (aD g)) (.str (bY (aG g).i1 (aD g).i2)) (.str (bY (aG g).j1 (aD g).j2)) (.str o.tag) (.int (o.i1:Nat)) (.int (o.i2:Nat)) (.int (o.j1:Nat)) (.int (o.j2:Nat)) v)) (m:=150) hG ⋯ ?_ ?_ (by decide) ?_ ?_ ?_ ?_ hi.1 hi.2 ?_ O' (fun v=>?_) ?_ ?_ ?_
     ·kernel_rfl
     ·exact fun u v=>@_
     ·exact fun A l' hh {_} k=>ad (hG A hh) 5 k
     ·exact fun A l' hh {_} k=>ad (hG A hh) 5 k
     ·exact fun A l' hh {_} k=>ad (hG A hh) 5 k
     ·exact fun A l' y hh {_} k=>ad (hG A hh) 5 k
     ·omega
     ·exact bk (R8.mk (fun O y=>y) @_)
     ·exact fun O=>@_
     ·kernel_rfl
     ·kernel_rfl
    ·refine eD (fun P=>P ⟨gb a b ff tf fd td lt n (.bool true) (bU g) .any .any (bg (aG g)) (bg (aD g)) (.str (bY (aG g).i1 (aD g).i2)) (.str (bY (aG g).j1 (aD g).j2)) (.str o.tag) (.int (o.i1:Nat)) (.int (o.i2:Nat)) (.int (o.j1:Nat)) (.int (o.j2:Nat)),gl++gl'⟩ ((os.flatMap (de a b)++dk a b ff tf fd td lt true gs).map .str)) (eE (p:=o.tag=ba∨o.tag=bb) (fun A' D0 led' F6=>HN @_ @_ (ad (hG A' D0.h) 20 (by exact eF o.tag rfl rfl (by rw[Bool.or_eq_true,beq_iff_eq,beq_iff_eq])))) (fun c=>?_) fun c=>TG.eq (Ou c) (bk (R8.mk (fun O y=>y) @_))) (bk (.next (l:=gl) (.mk (fun O y=>y J5) @_)));refine TG.eq (Ot c) ?_;refine zx (c:=Nd) (xs:=b) (i:=o.j1) (j:=o.j2) (L:=(fun v=>gb a b ff tf fd td lt n (.bool true) (bU g) .any .any (bg (aG g)) (bg (aD g)) (.str (bY (aG g).i1 (aD g).i2)) (.str (bY (aG g).j1 (aD g).j2)) (.str o.tag) (.int (o.i1:Nat)) (.int (o.i2:Nat)) (.int (o.j1:Nat)) (.int (o.j2:Nat)) v)) (m:=150) hG ⋯ ?_ ?_ (by decide) ?_ ?_ ?_ ?_ hj.1 hj.2 ?_ ō (fun v=>?_) ?_ ?_ ?_
     ·kernel_rfl
     ·exact fun u v=>@_
     ·exact fun A l' hh {_} k=>ad (hG A hh) 5 k
     ·exact fun A l' hh {_} k=>ad (hG A hh) 5 k
     ·exact fun A l' hh {_} k=>ad (hG A hh) 5 k
     ·exact fun A l' y hh {_} k=>ad (hG A hh) 5 k
     ·omega
     ·exact bk (R8.mk (fun O y=>y) @_)
     ·exact fun O=>@_
     ·kernel_rfl
     ·kernel_rfl
theorem FX(w:ZQ)(K':Frag)(h:∀a o,(KB w.params).lookup a=some o->(am K') a=some o):G1 (am K'):=⟨fun s hs=>⟨fun O=>none,by
 have e:=hs 2 _ (h 2 _ (show ak w 2=some (boot_o_2 w.params) from @_));exact Xz _ (#[]) 0 e @_ (fun O h=>by simp at h) (fun O=>rfl),rfl⟩⟩
noncomputable abbrev lV:Str:=⟨⟨[99,111,110,116,101,120,116,95,100,105,102,102,46,60,108,111,99,97,108,115,62,46,60,103,101,110,101,120,112,114,62]⟩⟩
noncomputable abbrev JD:b0×D9:=(271,jF lV)
noncomputable def cF(t:Str):Str:=if t=bb then Nb else if t=bc then Na else if t=ba then MZ else MY
noncomputable abbrev eT:List (Str×AV):=[(kI,.str Nb),(kD,.str Na),(kR,.str MZ),(kE,.str MY)]
theorem CP{t:Str}(h:lm t):aP eT t=some (.str (cF t)):=by
 rcases h with rfl |rfl |rfl |rfl <;> rfl
theorem CO(t:Str):(cF t).length=2:=by
 unfold cF;split
 ·rfl
 ·split
  ·rfl
  ·split <;> rfl
theorem Gy:k8 (.type "dict") "__getitem__" = o4 (some (.builtin "dict.__getitem__")):=F.slot_dict_getitem.lookup
noncomputable def fe(o:Op):Bool:=o.tag==ba||o.tag==bc
noncomputable def fc(o:Op):Bool:=o.tag==ba||o.tag==bb
noncomputable def dQ(a:List Str)(o:Op):List Str:=if o.tag=bb then [] else (aV a o.i1 o.i2).map (cF o.tag ++ ·)
noncomputable def dO(b:List Str)(o:Op):List Str:=if o.tag=bc then [] else (aV b o.j1 o.j2).map (cF o.tag ++ ·)
noncomputable def ez(a:List Str)(g:List Op):List Str:=if (g.map fe).any id then g.flatMap (dQ a) else []
noncomputable def dz(b:List Str)(g:List Op):List Str:=if (g.map fc).any id then g.flatMap (dO b) else []
noncomputable abbrev AY:Str:=MW
noncomputable def fL(a b:List Str)(lt:Str)(g:List Op):List Str :=
 (AY++lt)::lg (bJ (aG g).i1 (aD g).i2) lt::(ez a g++gq (bJ (aG g).j1 (aD g).j2) lt::dz b g)
noncomputable def kS(ff tf fd td lt:Str):List Str:=[yU ff (dB fd) lt,su tf (dB td) lt]
noncomputable def cE(a b:List Str)(ff tf fd td lt:Str):Bool->List (List Op)->List Str
 |_,[]=>[]
 |started,g::gs=>(if started then [] else kS ff tf fd td lt)++(fL a b lt g++cE a b ff tf fd td lt true gs)
section
variable{a b R:List Str}{g os:List Op}{o:Op}{lt:Str}
theorem Sn:(fL a b lt g++R).map AV.str=.str (AY++lt) :: .str (lg (bJ (aG g).i1 (aD g).i2) lt)::(ez a g++(gq (bJ (aG g).j1 (aD g).j2) lt::(dz b g++R))).map .str:=by
 unfold fL;rw[ZE,ZE,ZW];rfl
theorem Sf(c:(g.map fe).any id=true):(ez a g++R).map AV.str=(g.flatMap (dQ a)++R).map .str:=by rw[show ez a g=_ from if_pos c]
theorem Sg(c : ¬ (g.map fe).any id=true):(ez a g++R).map AV.str=R.map .str:=by rw[show ez a g=_ from if_neg c];rfl
theorem Sd(c:(g.map fc).any id=true):(dz b g++R).map AV.str=(g.flatMap (dO b)++R).map .str:=by rw[show dz b g=_ from if_pos c]
theorem Se(c : ¬ (g.map fc).any id=true):(dz b g++R).map AV.str=R.map .str:=by rw[show dz b g=_ from if_neg c];rfl
theorem OA(c:o.tag≠bb):((o::os).flatMap (dQ a)++R).map AV.str=((aV a o.i1 o.i2).map (cF o.tag ++ ·)).map .str++(os.flatMap (dQ a)++R).map .str:=by rw[List.flatMap_cons,ZW,show dQ a o=_ from if_neg c,ZT]
theorem OC(c : ¬ o.tag≠bb):((o::os).flatMap (dQ a)++R).map AV.str=(os.flatMap (dQ a)++R).map .str:=by rw[List.flatMap_cons,ZW,show dQ a o=_ from if_pos (Decidable.not_not.mp c)];rfl
theorem Ox(c:o.tag≠bc):((o::os).flatMap (dO b)++R).map AV.str=((aV b o.j1 o.j2).map (cF o.tag ++ ·)).map .str++(os.flatMap (dO b)++R).map .str:=by rw[List.flatMap_cons,ZW,show dO b o=_ from if_neg c,ZT]
theorem Oz(c : ¬ o.tag≠bc):((o::os).flatMap (dO b)++R).map AV.str=(os.flatMap (dO b)++R).map .str:=by rw[List.flatMap_cons,ZW,show dO b o=_ from if_pos (Decidable.not_not.mp c)];rfl
end
section
variable(a b:List Str)(ff tf fd td lt:Str)(n:Nat)(d:b0)(D:aa)
noncomputable abbrev eu(s v1 v4 v5 v6 v7 v8 v9 Q8 Q7 ā Ā v14 d:AV:=.any):List (Str×AV) :=
 [(vh,.str lt),(lW,.int n),(vj,.str td),(vk,.str fd),(vp,.str tf),(vq,.str ff),(du,.lst (b.map .str)),(dG,.lst (a.map .str)),
  (pM,v1),(vc,.any),(uZ,.any),(uY,v4),(uX,v5),(uW,v6),(uV,v7),(kd,v8),(mf,v9),(mc,Q8),(Cy,Q7),(me,ā),(lZ,Ā),(lY,v14),(Cz,d),(vd,s)]
def JC(gs:List (List Op))(P:St->List AV->Prop):Prop:=∀s,(∀g∈gs,H3 a.length b.length g)->P ⟨eu a b ff tf fd td lt n (.bool s) .any .any .any .any .any .any .any .any .any .any .any .any (.ref d),D⟩ ((cE a b ff tf fd td lt s gs).map .str)
def KH(g:List Op)(gs:List (List Op))(Y:aa)(P:St->List AV->Prop):Prop:=P ⟨eu a b ff tf fd td lt n (.bool true) (bU g) .any .any .any .any .any .any .any .any .any .any .any (.ref d),Y⟩ ((fL a b lt g++cE a b ff tf fd td lt true gs).map .str)
noncomputable abbrev kL(g:List Op)(v7 v8 v9 Q8 Q7 ā Ā:AV:=.any):List (Str×AV):=eu a b ff tf fd td lt n (.bool true) (bU g) (bg (aG g)) (bg (aD g)) (.str (bJ (aG g).i1 (aD g).i2)) v7 v8 v9 Q8 Q7 ā Ā .any (.ref d)
end
theorem UN{a b:List Str}{ff tf fd td lt:Str}{led N:aa}(hbd:Binds af w A.in1 (ak w) (ap (iS w.params)) args kw [(dG,.lst (a.map .str)),(du,.lst (b.map .str)),(vq,.str ff),(vp,.str tf),(vk,.str fd),(vj,.str td),(lW,.int n),(vh,.str lt)])(hA:D6 A 200)(hNt:JD∈N)(hn:n<10^5)(ha:a.length<10^5)(hb:b.length<4000)
  (hff:ff.length<10^4) (htf:tf.length<10^4) (hfd:fd.length<10^4) (htd:td.length<10^4) (G8:lt.length<10^4) (O':∀x∈a,x.length<10^4) (ō:∀x∈b,x.length<10^4)
  (L7:(aY (aM a b) (0,a.length,0,b.length)).length<64) :
  TC af w A (ak w) (.ref 276) args kw led
   (H8 af w (ak w) N 153 ((cE a b ff tf fd td lt false (aI n (bR (aQ (aM a b) a.length b.length)))).map .str) led):=by
 refine HM (m:=150) (eu a b ff tf fd td lt n) (bA w) hA.lt hbd @_ @_ @_ (Tt _) fun L=>?_;have hG:=fun(A:ZI) (hh:A.handled=none)=>((((((((gk w A (ap (iS w.params)) L 276 275 @_ @_ hh).g (FN w) @_ @_).g (FO w) @_ @_).g (SP w) @_ @_).g (ST w) @_ @_).f (f:=283) (bS @_)).f (f:=268) (bS @_)).f (f:=242) (bS @_)).m ⟨Np,0, "str.format"⟩ pR pC F.type_str_format_m;refine cJ [] (fun A' D0 led' F6=>aF (hG A' D0.h) 20 .mk) ?_;refine cJ [] (fun A' D0 led' F6=>aF (hG A' D0.h) 40 (C6.mk (eG (GM (D0.mono ⋯) ⋯ ⋯) .mk))) ?_;refine cK (dI fun A' D0 led' F6=>ie (WG @_ (SR w) @_ @_ @_ @_ fun d hd=>bp rfl (.mk [(d,au (a8 af w) eT)] ?_)) @_);refine cJ [(d,au (a8 af w) eT)] (fun A' D0 led' F6=>aF (hG A' D0.h) 20 .mk) ?_;refine ig (k:=104) bU (JC a b ff tf fd td lt n d [(d,au (a8 af w) eT)]) ⋯ ?_ ?_ (fun O O=>bk rfl) (fun O=>@_)
 ·intro A' D0 led' F6;exact HD (l:=[(d,au (a8 af w) eT)]) (D0.mono ⋯) hn ha hb L7 @_ @_ @_ (fun O h=>ad (hG A' D0.h) 40 (C6.mk h)) (fun O O O h=>ds @_ (bS @_) (bP (hG A' D0.h) 20 h)) (.mk (fun O y=>y false (yG a b n ha)) @_)
 ·intro gl g gs s T0;have hg:=T0 g (Zr ..);have é:=fun g' h'=>T0 g' (Zt _ h');clear T0;refine .mk (fun A' D0 led' F6=>cx (bp rfl rfl)) ?_;generalize hX:[(d,au (a8 af w) eT)]++gl=X;have hdX:(d,au (a8 af w) eT)∈X:=hX▸Zr ..;refine eD (KH a b ff tf fd td lt n d g gs X) (eE (p:=s=false) (fun A' D0 led' F6=>cb (hG A' D0.h) 20 ⟨rfl,by cases s <;> decide⟩) (fun c=>?_) fun c=>?_) ?_
  ·subst c;refine cJ X (fun A' D0 led' F6=>aF (hG A' D0.h) 20 .mk) ?_;refine cJ X (fun A' D0 led' F6=>ie (T.to (.str (dB fd)) (ad (hG A' D0.h) 20 (C6.mk (oO ⋯ (bK (fun c=>C6.mk (te ⋯ ⟨sF c,rfl⟩)) fun c=>⟨sG c,rfl⟩)))) (bp rfl .mk)) @_) ?_;refine cJ X (fun A' D0 led' F6=>ie (T.to (.str (dB td)) (ad (hG A' D0.h) 20 (C6.mk (oO ⋯ (bK (fun c=>C6.mk (te ⋯ ⟨sF c,rfl⟩)) fun c=>⟨sG c,rfl⟩)))) (bp rfl .mk)) @_) ?_;have d1:=sH hfd;have d2:=sH htd;refine fR X (fun A' D0 led' F6=>ad (hG A' D0.h) 20 (C6.mk (Yc ⋯ d1 ⋯ .mk))) ?_ @_ @_;refine fR X (fun A' D0 led' F6=>ad (hG A' D0.h) 20 (C6.mk (Ic ⋯ d2 ⋯ .mk))) ?_ @_ @_;exact bk (R8.mk (fun O y=>y) @_)
  ·cases s with
   |true=>exact bk (R8.mk (fun O y=>y) @_)
   |false=>exact absurd rfl c
  ·have hf1:=hg.ii;have Ġ:=hg.jj;refine aA hg.i2 fun hl1 o_=>?_;refine ae hg.atL fun osL eL nL=>?_;have r1:=pG (a:=(aG g).i1) (b:=(aD g).i2) ⋯ ⋯ ⋯;have r2:=pG (a:=(aG g).j1) (b:=(aD g).j2) ⋯ ⋯ ⋯;refine TG.eq Sn ?_;refine cJ X (fun A' D0 led' F6=>aF (hG A' D0.h) 40 (C6.mk (ee .frz (by decide) (by decide) (x:=bg (aG g)) hg.at0 (C6.mk (ly (xs:=osL.map aT) (x:=bg (aD g)) .frz eL nL .mk))))) ?_;refine fR X (fun A' D0 led' F6=>ad (hG A' D0.h) 20 (C6.mk (gE (by show 15+lt.length<_;omega) .mk))) ?_ @_ @_;refine cJ X (fun A' D0 led' F6=>aF (hG A' D0.h) 40 (C6.mk (fq (by decide) (by decide) (x:=.int (aG g).i1) rfl (C6.mk (fq (by decide) (by decide) (x:=.int (aD g).i2) rfl (C6.mk (eG (BN (D0.mono ⋯) ⋯ ⋯ ⋯) .mk))))))) ?_;refine fR X (fun A' D0 led' F6=>ad (hG A' D0.h) 20 (C6.mk (Ye ⋯ ⋯ .mk))) ?_ @_ @_;refine eD (fun P=>P ⟨kL a b ff tf fd td lt n d g,X⟩ ((gq (bJ (aG g).j1 (aD g).j2) lt::(dz b g++cE a b ff tf fd td lt true gs)).map .str)) (eE (p:=(g.map fe).any id=true) (fun A' D0 led' F6=>?_) (fun c=>TG.eq (Sf c) ?_) fun c=>TG.eq (Sg c) (bk (R8.mk (fun O y=>y) @_))) ?_
   ·refine oF (zG @_ (ad (hG A' D0.h) 5 (Iv (K:=KB w.params) (c:=275) (P:=271) (q:=lV) [Nr,kd,Cy] aT fe (gs:=g) (m:=100) (bi:=s7) (FX w) ⋯ (D0.mono ⋯) @_ @_ @_ @_ @_ @_ @_ (fun O=>@_) @_ @_ @_ @_ @_ @_ ?_ ?_ ?_ (tm ⟨rfl,Iff.rfl⟩)))) @_
    ·exact ZY _ (F6 _ hNt)
    ·exact ad (hG A' D0.h) 5 ⟨rfl,rfl⟩
    ·intro K' E8 c' L' hK' ι ĥ o ho A'' w_ Ć;subst ι;exact dK (vs:=[.str o.tag,.int o.i1,.int o.i2,.int o.j1,.int o.j2]) w_.h @_ @_ @_ (cY _ rfl _ _ rfl rfl (HI (fun s X Q h=>kds_main X ĥ h) @_ (ad (jm @_ @_ @_ @_ w_.h) 5 ⟨o.tag,rfl,rfl,rfl,@_⟩)))
   ·refine ig (k:=5) aT (JV (dQ a) (kL a b ff tf fd td lt n d g) X g (gq (bJ (aG g).j1 (aD g).j2) lt::(dz b g++cE a b ff tf fd td lt true gs))) ⋯ (fun A' D0 led' F6=>ad (hG A' D0.h) 20 (eH (k:=5) fun it gl' hI => .mk (l:=X) hI (.mk (fun O y=>y fun o ho=>ho) @_))) ?_ (fun O=>bk (R8.mk (fun O y=>y) @_)) (fun O=>@_);intro gl' o os J5;have ho:=J5 o (Zr ..);have J5:=fun o' h'=>J5 o' (Zt _ h');have hi:=hg.i o ho;have Ĥ:(d,au (a8 af w) eT)∈X++gl':=f8 _ hdX;refine .mk (fun A' D0 led' F6=>dK D0.h @_ @_ @_ (cY _ rfl _ _ rfl rfl rfl)) ?_;refine eD (fun P=>P ⟨kL a b ff tf fd td lt n d g .any (.str o.tag) (.int (o.i1:Nat)) (.int (o.i2:Nat)) (.int (o.j2:Nat)),X++gl'⟩ ((os.flatMap (dQ a)++(gq (bJ (aG g).j1 (aD g).j2) lt::(dz b g++cE a b ff tf fd td lt true gs))).map .str)) (eE (p:=o.tag≠bb) (fun A' D0 led' F6=>cb (hG A' D0.h) 20 ⟨rfl,bne_iff_ne⟩) (fun c=>TG.eq (OA c) ?_) fun c=>TG.eq (OC c) (bk (R8.mk (fun O y=>y) @_))) (bk (.next (l:=X) (.mk (fun O y=>y J5) @_)));refine zy (xs:=aV a o.i1 o.i2) (f:=fun y=>cF o.tag++y) (L:=fun v=>eu a b ff tf fd td lt n (.bool true) (bU g) (bg (aG g)) (bg (aD g)) (.str (bJ (aG g).i1 (aD g).i2)) .any (.str o.tag) (.int (o.i1:Nat)) (.int (o.i2:Nat)) (.int (o.j2:Nat)) .any .any v (.ref d)) ⋯ @_ (fun u v=>@_) ?_ ?_ (fun v=>bk (R8.mk (fun O y=>y) @_)) (fun O=>@_) @_ @_
    ·exact fun A' D0 led' F6=>zC (fun O O=>@_) (ad (hG A' D0.h) 5 (ad (hG A' D0.h) 5 (ad (hG A' D0.h) 5 ⟨a.map AV.str,o.i1,o.i2,.frz,rfl,rfl,hi.1,by rw[Zu];exact hi.2,by rw[Zu,j7];omega,uo .. ▸ .mk⟩)))
    ·exact fun A' D0 l' Ĝ y hy=>ad (hG A' D0.h) 20 ⟨.mk Gy (lE (knd:=a8 af w) (m:=eT) (Ĝ _ Ĥ)),C6.mk (zU (knd:=a8 af w) (sd o.tag) (Ĝ _ Ĥ) (CP (hg.tg o ho)) (C6.mk (gE (by have:=O' y (um hy);rw[CO];omega) .mk)))⟩
   refine cJ X (fun A' D0 led' F6=>aF (hG A' D0.h) 40 (C6.mk (fq (by decide) (by decide) (x:=.int (aG g).j1) rfl (C6.mk (fq (by decide) (by decide) (x:=.int (aD g).j2) rfl (C6.mk (eG (BN (D0.mono ⋯) ⋯ ⋯ ⋯) .mk))))))) ?_;refine fR X (fun A' D0 led' F6=>ad (hG A' D0.h) 20 (C6.mk (Yd ⋯ ⋯ .mk))) ?_ @_ @_;refine eD (fun P=>P ⟨kL a b ff tf fd td lt n d g (.str (bJ (aG g).j1 (aD g).j2)),X⟩ ((cE a b ff tf fd td lt true gs).map .str)) (eE (p:=(g.map fc).any id=true) (fun A' D0 led' F6=>?_) (fun c=>TG.eq (Sd c) ?_) fun c=>TG.eq (Se c) (bk (R8.mk (fun O y=>y) @_))) (bk (.nextE hX (.mk (fun O y=>y true é) @_)))
   ·refine oF (zG @_ (ad (hG A' D0.h) 5 (Iv (K:=KB w.params) (c:=275) (P:=271) (q:=lV) [Nr,kd,Cy] aT fc (gs:=g) (m:=100) (bi:=s7) (FX w) ⋯ (D0.mono ⋯) @_ @_ @_ @_ @_ @_ @_ (fun O=>@_) @_ @_ @_ @_ @_ @_ ?_ ?_ ?_ (tm ⟨rfl,Iff.rfl⟩)))) @_
    ·exact ZY _ (F6 _ hNt)
    ·exact ad (hG A' D0.h) 5 ⟨rfl,rfl⟩
    ·intro K' E8 c' L' hK' ι ĥ o ho A'' w_ Ć;subst ι;exact dK (vs:=[.str o.tag,.int o.i1,.int o.i2,.int o.j1,.int o.j2]) w_.h @_ @_ @_ (cY _ rfl _ _ rfl rfl (HI (fun s X Q h=>kds_main X ĥ h) @_ (ad (jm @_ @_ @_ @_ w_.h) 5 ⟨o.tag,rfl,rfl,rfl,@_⟩)))
   ·refine ig (k:=5) aT (JV (dO b) (kL a b ff tf fd td lt n d g (.str (bJ (aG g).j1 (aD g).j2))) X g (cE a b ff tf fd td lt true gs)) ⋯ (fun A' D0 led' F6=>ad (hG A' D0.h) 20 (eH (k:=5) fun it gl' hI => .mk (l:=X) hI (.mk (fun O y=>y fun o ho=>ho) @_))) ?_ (fun O=>bk (R8.mk (fun O y=>y) @_)) (fun O=>@_);intro gl' o os J5;have ho:=J5 o (Zr ..);have J5:=fun o' h'=>J5 o' (Zt _ h');have hi:=hg.j o ho;have Ĥ:(d,au (a8 af w) eT)∈X++gl':=f8 _ hdX;refine .mk (fun A' D0 led' F6=>dK D0.h @_ @_ @_ (cY _ rfl _ _ rfl rfl rfl)) ?_;refine eD (fun P=>P ⟨kL a b ff tf fd td lt n d g (.str (bJ (aG g).j1 (aD g).j2)) (.str o.tag) .any .any (.int (o.i2:Nat)) (.int (o.j1:Nat)) (.int (o.j2:Nat)),X++gl'⟩ ((os.flatMap (dO b)++(cE a b ff tf fd td lt true gs)).map .str)) (eE (p:=o.tag≠bc) (fun A' D0 led' F6=>cb (hG A' D0.h) 20 ⟨rfl,bne_iff_ne⟩) (fun c=>TG.eq (Ox c) ?_) fun c=>TG.eq (Oz c) (bk (R8.mk (fun O y=>y) @_))) (bk (.next (l:=X) (.mk (fun O y=>y J5) @_)));refine zy (xs:=aV b o.j1 o.j2) (f:=fun y=>cF o.tag++y) (L:=fun v=>eu a b ff tf fd td lt n (.bool true) (bU g) (bg (aG g)) (bg (aD g)) (.str (bJ (aG g).i1 (aD g).i2)) (.str (bJ (aG g).j1 (aD g).j2)) (.str o.tag) .any .any (.int (o.i2:Nat)) (.int (o.j1:Nat)) (.int (o.j2:Nat)) v (.ref d)) ⋯ @_ (fun u v=>@_) ?_ ?_ (fun v=>bk (R8.mk (fun O y=>y) @_)) (fun O=>@_) @_ @_
    ·exact fun A' D0 led' F6=>zC (fun O O=>@_) (ad (hG A' D0.h) 5 (ad (hG A' D0.h) 5 (ad (hG A' D0.h) 5 ⟨b.map AV.str,o.j1,o.j2,.frz,rfl,rfl,hi.1,by rw[Zu];exact hi.2,by rw[Zu,j7];omega,uo .. ▸ .mk⟩)))
    ·exact fun A' D0 l' Ĝ y hy=>ad (hG A' D0.h) 20 ⟨.mk Gy (lE (knd:=a8 af w) (m:=eT) (Ĝ _ Ĥ)),C6.mk (zU (knd:=a8 af w) (sd o.tag) (Ĝ _ Ĥ) (CP (hg.tg o ho)) (C6.mk (gE (by have:=ō y (um hy);rw[CO];omega) .mk)))⟩
noncomputable abbrev aN:Str:=vf
noncomputable abbrev ag:Str:=⟨⟨[]⟩⟩
section
variable{a b:List Str}
noncomputable abbrev sM(a b:List Str)(n:Nat):List (Str×AV):=[(dG,.lst (a.map .str)),(du,.lst (b.map .str)),(vq,.str ag),(vp,.str ag),(vk,.str ag),(vj,.str ag),(lW,.int n),(vh,.str aN)]
theorem GX:Binds af w A (ak w) (ap (iT w.params)) [.lst (a.map .str),.lst (b.map .str)] [(lW,.int n)] (sM a b n):=Binds.peek fun Z xs ks hx hk=>by
 obtain _ |⟨h1,hx⟩:=hx
 obtain _ |⟨h2,hx⟩:=hx
 cases hx
 obtain _ |⟨h3,hk⟩:=hk
 cases hk
 exact⟨_,@_,show E0 Z (sM a b n) _ from .cons h1 (.cons h2 (.cons (.str _ 603) (.cons (.str _ 604) (.cons (.str _ 605) (.cons (.str _ 606) (.cons h3 (.cons (.str _ 608) .nil)))))))⟩
theorem Vx:Binds af w A (ak w) (ap (iS w.params)) [.lst (a.map .str),.lst (b.map .str)] [(lW,.int n)] (sM a b n):=Binds.peek fun Z xs ks hx hk=>by
 obtain _ |⟨h1,hx⟩:=hx
 obtain _ |⟨h2,hx⟩:=hx
 cases hx
 obtain _ |⟨h3,hk⟩:=hk
 cases hk
 exact⟨_,@_,show E0 Z (sM a b n) _ from .cons h1 (.cons h2 (.cons (.str _ 649) (.cons (.str _ 650) (.cons (.str _ 651) (.cons (.str _ 652) (.cons h3 (.cons (.str _ 654) .nil)))))))⟩
end
theorem C7.lose{ao:D9}{led:aa}(S:C7 B s Z ((C,ao)::led)){h':Heap}(hs:a7 C s.heap h') :
  C7 B {s with heap:=h' } Z led/\E7 (aj ((C,ao)::led)) s Z {s with heap:=h' } Z (aj led):=by
 have hC:C∉keys led:=(ZL.mp S.nodup).1;have hCZ:Z C=none:=S.apart _ (Zr ..);have S1:=S.drop1;refine⟨⟨S1.base,fun a o e=>hs.extBut a o (fun q=>by rw[q,hCZ] at e;cases e) (S1.frozen a o e),S1.nodup,S1.apart,fun p hp=>(S1.own p hp).mono (.refl _) (fun o e=>hs.extBut _ o (fun q=>hC (q▸ZO hp)) e) (fun O O O e=>e),S1.gnodup,S1.bare⟩,
  ⟨.refl _,fun a o e h=>hs.extBut a o (fun q=>h (q▸Zr ..)) e,fun a h => .inl (Zt _ h),fun O O e => .inl e,rfl,fun O O e O=>e,fun g h => .inl (FR h)⟩⟩
section
variable{N:aa}
noncomputable abbrev lH(K9:List Expr)(C1:Env):Sem Bool:=forIn K9 true fun c r=>if r=true then do let ok ← isTrue c C1 (k7 c C1);o4 (ForInStep.yield ok) else o4 (ForInStep.yield r)
theorem Hw{K:Bool->St->Prop}(h:K true st):T C0 w A B C1 aK (lH [] C1) st K:=fun s Z S Q E hQ=>Zs (hQ true true s Z st h S rfl .refl)
theorem Wm{c:Expr}{K:Bool->St->Prop}(h:T C0 w A B C1 aK (isTrue c C1 (k7 c C1)) st K):T C0 w A B C1 aK (lH [c] C1) st K:=fun s Z S Q E hQ =>
 wpAny_tests_one (h s Z S Q E hQ)
theorem UW{R:Result->Zx->Prop}{elt:Expr}{K9:List Expr}{scope:Scope}{it acc:Value}(I:Nat->Zx->Prop)
  (turn:∀n s,I n s->ZS (ZP C0 w) A (s6 it) (fun r s₁=>match r with
   |none=>R (.ok .next) s₁
   |some v=>ZS (ZP C0 w) A (g5 C3 it v) (fun O s₁=>ZS (ZP C0 w) A (m0 C3 C1 v) (fun O s2 =>
     ZS (ZP C0 w) A (lH K9 C1) (fun ok s3 =>
      if ok=true then ZS (ZP C0 w) A (k7 elt C1) (fun x s4 =>
       ZS (ZP C0 w) A (call (.builtin "list.append") [acc,x]) (fun O s5=>∃m,m<n/\I m s5) (notedBy (ZP C0 w) A C1 fun e s'=>R (.error e) s') s4) (notedBy (ZP C0 w) A C1 fun e s'=>R (.error e) s') s3
      else ∃m,m<n/\I m s3) (notedBy (ZP C0 w) A C1 fun e s'=>R (.error e) s') s2) (notedBy (ZP C0 w) A C1 fun e s'=>R (.error e) s') s₁) (notedBy (ZP C0 w) A C1 fun e s'=>R (.error e) s') s₁) (notedBy (ZP C0 w) A C1 fun e s'=>R (.error e) s') s)
  (n:Nat) (h:I n s) :
  codeAny (ZP C0 w) A (.compLoop (.ListComp elt [⟨C3,iter,K9,0⟩] scope pos) 0 it acc C1) R s:=by
 refine codeAny_loop rfl I (fun n s hI=>?_) n h;show ZS _ A ((compTurn (.ListComp elt [⟨C3,iter,K9,0⟩] scope pos) 0 it acc C1).onRaise (fun x=>do noteFrame x C1;theTreesLotGoes x)) _ _ s;refine wpAny_noted ?_;rw[compTurn_list];refine Zq (a9 (Zq (e9 (turn n s hI) (fun r s₁ h1=>?_) fun O O h'=>h')));cases r with
 |none=>exact Zs h1
 |some v =>
  refine Zq (e9 h1 (fun O s1' h1'=>?_) fun O O h'=>h');refine Zq (e9 h1' (fun O s2 h2=>Zq (e9 h2 (fun ok s3 l_=>?_) fun O O h'=>h')) fun O O h'=>h');cases ok with
  |false=>exact Zs ⟨rfl,l_⟩
  |true =>
   exact Zq (Zq (e9 l_ (fun x s4 h₄=>Zq (e9 h₄ (fun O s5 h₅=>Zs (Zs ⟨rfl,h₅⟩)) fun O O h'=>h')) fun O O h'=>h'))
def oT(C0:ZJ)(w:ZQ)(A:ZI)(B:D3)(E8:Env)(C3 elt:Expr)(K9:List Expr)(N:aa)(J:List (Str×AV)->Prop)(x:AV)(y:Option AV):Prop :=
 ∀loc,J loc->∀led,G5 N led->F1 C0 w A B E8 aS (m0 C3 E8) x ⟨loc,led⟩ fun O J2=>T C0 w A B E8 aK (lH K9 E8) J2 fun b N5 =>
  if b then T C0 w A B E8 Val (k7 elt E8) N5 fun v Ä=>y=some v/\Ä.led=led/\J Ä.loc else y=none/\N5.led=led/\J N5.loc
inductive F_ (C0:ZJ) (w:ZQ) (A:ZI) (B:D3) (E8:Env) (C3 elt:Expr) (K9:List Expr) (N:aa) (J:List (Str×AV)->Prop) (k:Nat) (it D:b0) (l0:aa) (M_:List AV) (o:i_) (s:Zx) (Z:D3):Nat->Zx->Prop
 |mk {s':Zx} {Z':D3} {D8:List (Str×AV)} {gl':aa} {ps:List (AV×Option AV)} {acc:List AV} (ha:acc++ps.filterMap (·.2)=M_) (hz:acc.length+ps.length<=c9) (hJ:J D8) (S:D7 B E8 s' Z' ⟨D8,((D,.list acc)::l0)++gl'⟩)
  (hI:D5 C0 w B [] k C3 it (ps.map (·.1)) gl') (hs:∀p∈ps,oT C0 w A B E8 C3 elt K9 N J p.1 p.2) (X:E7 o s Z s' Z' (aC E8 ⟨D8,((D,.list acc)::l0)++gl'⟩)):F_ C0 w A B E8 C3 elt K9 N J k it D l0 M_ o s Z ps.length s'
theorem VX(xs:List α)(y:α)(zs:List α):xs++[y]++zs=xs++y::zs:=ZW ..
theorem VO{a p m:Nat}(h:a+(p+1)<=m):a+p<=m/\a+1+p<=m/\a<m:=⟨Nat.le_of_succ_le h,d7 (Nat.le_of_eq (Nat.add_right_comm a 1 p)) h,Nat.lt_of_lt_of_le (Nat.lt_succ_of_le (Nat.le_add_right a p)) h⟩
theorem UO{R:Result->Zx->Prop}{E8:Env}{elt:Expr}{K9:List Expr}{scope:Scope}{D:b0}{l0 gl:aa}(hA:D6 A k)(hN:G5 N l0)
   {ys:List (Option AV)} (E3:xs.length=ys.length) (hsz:xs.length<=c9)
  (hI:D5 C0 w B [] k C3 it xs gl) (H1:∀p∈xs.zip ys,oT C0 w A B E8 C3 elt K9 N J p.1 p.2) (hJ:J loc)
  (S:D7 B E8 s Z ⟨loc,((D,.list [])::l0)++gl⟩)
  (hR:∀s' Z' D8,D7 B E8 s' Z' ⟨D8,(D,.list (ys.filterMap id))::l0⟩->E7 (aC E8 ⟨loc,((D,.list [])::l0)++gl⟩) s Z s' Z' (aC E8 ⟨D8,(D,.list (ys.filterMap id))::l0⟩)->R (.ok .next) s') :
  codeAny (ZP C0 w) A (.compLoop (.ListComp elt [⟨C3,iter,K9,0⟩] scope pos) 0 (.ref it) (.ref D) E8) R s:=by
 have e1:(xs.zip ys).map (·.1)=xs:=List.map_fst_zip (Nat.le_of_eq E3);have e2:(xs.zip ys).filterMap (·.2)=ys.filterMap id:=(A5 (f:=fun p:AV×Option AV=>p.2) (g:=id)).symm.trans (congrArg (List.filterMap id) (List.map_snd_zip (Nat.le_of_eq E3.symm)));have e3:(xs.zip ys).length=xs.length:=by rw[List.length_zip,E3,Nat.min_self]
 generalize ys.filterMap id=M_ at e2 hR;generalize xs.zip ys=ps at e1 e2 e3 H1;subst e1;refine UW (F_ C0 w A B E8 C3 elt K9 N J k it D l0 M_ (aC E8 ⟨loc,((D,.list [])::l0)++gl⟩) s Z) ?_ ps.length (.mk (acc:=[]) e2 (by rw[ZR,Nat.zero_add,e3];exact hsz) hJ S hI H1 .refl);clear hI H1 hJ S hsz e3 e2 E3;intro n s' Y;induction Y with
 | @mk s' Z' D8 gl' ps acc J_ hsz' Θ S' N8 T_ X' =>
 cases ps with
 |nil=>exact sf N8 hA .nil S' fun s3 Z3 S3 X3=>(show acc=M_ from(g7 acc).symm.trans J_)▸hR s3 Z3 D8 (((show acc=M_ from(g7 acc).symm.trans J_))▸S3) (((show acc=M_ from(g7 acc).symm.trans J_))▸X'.trans X3)
 |cons p ps =>
  have hz:=VO hsz';refine e9 (se N8 hA .nil S' (Q:=fun r s₁=>match r with
    |none=>False
    |some v=>ZS (ZP C0 w) A (m0 C3 E8 v) (fun O s2 =>
     ZS (ZP C0 w) A (lH K9 E8) (fun ok s3 =>
      if ok=true then ZS (ZP C0 w) A (k7 elt E8) (fun G2 s4 =>
       ZS (ZP C0 w) A (call (.builtin "list.append") [.ref D,G2]) (fun O s5=>∃m,m<(p::ps).length/\F_ C0 w A B E8 C3 elt K9 N J k it D l0 M_ (aC E8 ⟨loc,((D,.list [])::l0)++gl⟩) s Z m s5) (notedBy (ZP C0 w) A E8 fun e s'=>R (.error e) s') s4) (notedBy (ZP C0 w) A E8 fun e s'=>R (.error e) s') s3
      else ∃m,m<(p::ps).length/\F_ C0 w A B E8 C3 elt K9 N J k it D l0 M_ (aC E8 ⟨loc,((D,.list [])::l0)++gl⟩) s Z m s3) (notedBy (ZP C0 w) A E8 fun e s'=>R (.error e) s') s2) (notedBy (ZP C0 w) A E8 fun e s'=>R (.error e) s') s₁)
    fun s3 Z3 v gl3 S3 V3 X3 U8=>?_) (fun r s₁ h1=>?_) fun O O h=>h
  ·refine T_ p (Zr ..) D8 Θ _ (fun p hp=>f8 _ (Zt _ (hN p hp))) s3 Z3 v V3 S3 _ _ fun O O s4 Z4 N5 k4 S4 O X4=>k4 s4 Z4 S4 _ _ fun b c s5 Z5 Ä J7 S5 V5 X5=>?_;have X6:=((X'.trans X3).trans X4).trans X5;have J8:=fun q hq=>T_ q (Zt _ hq);clear X' X3 X4 X5 S3 V3 k4 S4 S' N8 T_ Θ hR;have hb:c=b:=V5;subst hb;clear V5;cases c with
   |false =>
    rw[if_neg d3] at J7 ⊢;obtain⟨K4,led5⟩:=Ä;refine di J7 fun hy e ī=>?_;clear J7;dsimp only at e ī;subst e;exact⟨ps.length,t9 _,.mk ((congrArg (acc ++ ·) (List.filterMap_cons_none hy).symm).trans J_) hz.1 ī S5 U8 J8 X6⟩
   |true =>
    rw[if_pos rfl] at J7 ⊢;refine J7 s5 Z5 S5 _ _ fun u z s₆ Z6 st6 ć S6 V6 ļ=>?_;have X7:=X6.trans ļ;clear X6 ļ S5 J7;obtain⟨ą,led6⟩:=st6;refine di ć fun hy e hJ6=>?_;clear ć;dsimp only at e hJ6;subst e;have hf:FC C0 w A B E8 (.blt "list.append") [.ref D,u] [] ⟨ą,((D,.list acc)::l0)++gl3⟩ fun O C4=>C4=⟨ą,((D,.list (acc++[u]))::l0)++gl3⟩:=zR (xs:=acc) (n7 hz.2.2) .here rfl;refine hf s₆ Z6 (.builtin "list.append") [.ref D,z] [] (.blt _) (.cons (.ref _) (.cons V6 .nil)) .nil S6 _ _ fun O O s₇ Z7 st7 k₇ S7 O X₇=>?_;subst k₇;exact⟨ps.length,t9 _,.mk (((VX ..).trans (congrArg (acc ++ ·) (List.filterMap_cons_some hy).symm)).trans J_) ((ZA (as:=acc) (bs:=[u]))▸hz.2.1) hJ6 S7 U8 J8 (X7.trans X₇)⟩
  ·cases r with
   |none=>exact h1.elim
   |some v=>exact h1
end
section
variable{N:aa}
theorem Ql(vars:List Str)(y:Str):(vars.map fun x=>(x,AV.any)).lookup y=none∨(vars.map fun x=>(x,AV.any)).lookup y=some .any:=by
 induction vars with
 |nil=>exact .inl rfl
 |cons x vars ih =>
  rw[ZD,ZN];cases y==x with
  |true=>exact .inr rfl
  |false=>exact ih
theorem Qk{vars:List Str}(h:(vars.map fun x=>(x,AV.any)).lookup y=some v):y∈vars:=by
 induction vars with
 |nil=>cases h
 |cons x vars ih =>
  rw[ZD,ZN] at h;cases q:y==x with
  |true=>rw[beq_iff_eq.mp q];exact Zr ..
  |false=>rw[q] at h;exact Zt _ (ih h)
theorem GC{RR:Value->b0->Result->Zx->Prop}{elt:Expr}{K9:List Expr}{scope:Scope}{cl:List (Str×b0)}{l gl:aa}{vars:List Str}
  (hA:D6 A k) (hN:G5 N l) (I6:∀y∈scope.names,y.2 ≠ .cell) (I5:scope.kind=.function) (hv:∀x∈vars,scope.names.lookup x=some .local)
   {ys:List (Option AV)} (E3:xs.length=ys.length) (hsz:xs.length<=c9)
  (hI:D5 C0 w B [] k C3 it xs gl) (M5:oH C0 w B it gl)
  (H1:∀L,∀p∈xs.zip ys,oT C0 w A B (compEnvC scope cl L C1) C3 elt K9 N J p.1 p.2) (hJ:J (vars.map fun x=>(x,.any)))
  (S:D7 B C1 s Z ⟨loc,gl++l⟩)
  (hRR:∀D C s' Z' eu,C7 B s' Z' ((C,.ns eu)::(D,.list (ys.filterMap id))::(C1.locals,.ns loc)::l) ->
   E7 (aj ((C1.locals,.ns loc)::(gl++l))) s Z s' Z' (aj ((C,.ns eu)::(D,.list (ys.filterMap id))::(C1.locals,.ns loc)::l))->RR (.ref D) C (.ok .next) s') :
  ZS (ZP C0 w) A (newList []) (fun acc s3=>ZS (ZP C0 w) A (newFunctionEnv scope C1.globals cl [] C1.qual none .none (some C1)) (fun E8 s4 =>
   codeAny (ZP C0 w) A (.compStart (.ListComp elt [⟨C3,iter,K9,0⟩] scope pos) 0 (.ref it) acc {E8 with scope:=relabel scope C1}) (RR acc E8.locals) s4) E s3) E s:=by
 refine f6 ?_;have S0:=S.toL;have P1:=S0.push (o:={ cls:=.type "list",dict:=none,data:=.seq ([]:List Value).toArray}) (ao:=.list []) rfl s.toks ⟨_,_,ZB _ rfl,.nil⟩;generalize W4:({s with heap:=s.heap.push {cls:=.type "list",dict:=none,data:=.seq ([]:List Value).toArray},toks:=s.toks}:Zx)=s1 at P1;generalize s.heap.objs.size=D at P1 ⊢;refine aA P1 fun S1 X1=>?_;clear P1;refine wpAny_newFunctionEnv I6 (by intro y hy;simp at hy) (fun h1 hns1 S9=>?_) I5;have keep:∀b o,s1.heap.get? b=some o->h1.get? b=some o:=fun b o e=>S9.extBut b o (j9 (e8 e)) (ZC _ e);have P2:=S1.newAt (h':=h1) (ao:=.ns (vars.map fun x=>(x,.any))) rfl (s1.toks+([]:List (Str×Value)).length) keep ⟨_,hns1,fun y=>by
  rcases Ql vars y with e |e
  ·rw[e];exact .none
  ·rw[e];exact .any⟩
 generalize É:({s1 with heap:=h1,toks:=s1.toks+([]:List (Str×Value)).length}:Zx)=s2 at P2 ⊢;generalize s1.heap.objs.size=C at P2 ⊢;refine aA P2 fun S2 X2=>?_;clear P2;have Ι:=X1.trans X2;have hkin:∀x v,(vars.map fun x=>(x,AV.any)).lookup x=some v->(compEnvC scope cl C C1).kindOf x=some .local:=fun x v e=>lookup_relabel_local (hv x (Qk e));have pm:((C,D9.ns (vars.map fun x=>(x,.any)))::(D,.list [])::(C1.locals,.ns loc)::(gl++l)).Perm ((C,D9.ns (vars.map fun x=>(x,.any)))::(((D,.list [])::(C1.locals,.ns loc)::l)++gl)) :=
  w7 _ (w7 _ (w7 _ ZG))
 have S3:D7 B (compEnvC scope cl C C1) s2 Z ⟨vars.map fun x=>(x,.any),((D,.list [])::(C1.locals,.ns loc)::l)++gl⟩ :=
  C7.toF (C1:=compEnvC scope cl C C1) (st:=⟨vars.map fun x=>(x,.any),((D,.list [])::(C1.locals,.ns loc)::l)++gl⟩) (S2.perm pm) hkin I5
 have loop:codeAny (ZP C0 w) A (.compLoop (.ListComp elt [⟨C3,iter,K9,0⟩] scope pos) 0 (.ref it) (.ref D) (compEnvC scope cl C C1)) (RR (.ref D) C) s2:=by
  refine UO hA (N:=N) (l0:=(C1.locals,.ns loc)::l) (hN.cons _) E3 hsz hI (H1 C) hJ S3 fun s' Z' D8 S' X'=>?_;refine hRR D C s' Z' D8 S'.toL ?_;rw[dx,dx] at X';refine Ι.trans ?_;rw[dN pm];exact X'
 have pm2:((C,D9.ns (vars.map fun x=>(x,.any)))::(D,.list [])::(C1.locals,.ns loc)::(gl++l)).Perm (gl++((C,D9.ns (vars.map fun x=>(x,.any)))::(D,.list [])::(C1.locals,.ns loc)::l)):=by
  refine List.Perm.trans pm ?_;exact ZG (l₁:=(C,D9.ns (vars.map fun x=>(x,.any)))::(D,.list [])::(C1.locals,.ns loc)::l) (l₂:=gl)
 exact codeAny_compStart_list loop (M5 A _ s2 Z (S2.perm pm2) _ _ loop)
def Ac(C0:ZJ)(w:ZQ)(A:ZI)(B:D3)(C1:Env)(k:Nat)(N:aa)(vars:List Str)(scope:Scope)(cl:List (Str×b0))(elt C3:Expr)(K9:List Expr)(J:List (Str×AV)->Prop)(K:List AV->St->Prop)(u:AV)(F9:St):Prop :=
 ∃it gl l xs ys,u=.ref it/\F9.led=gl++l/\D5 C0 w B [] k C3 it xs gl/\oH C0 w B it gl/\G5 N l/\xs.length=ys.length/\xs.length<=c9 /\
  (∀L,∀p∈xs.zip ys,oT C0 w A B (compEnvC scope cl L C1) C3 elt K9 N J p.1 p.2)/\K (ys.filterMap id) ⟨F9.loc,l⟩
theorem WJ{elt:Expr}{K9:List Expr}{scope:Scope}{cl:List (Str×b0)}(vars:List Str)
  (hA:D6 A k) (R1:closureFor scope C1=o4 cl) (I6:(scope.names.all fun y=>y.2 != .cell)=true) (I5:scope.kind=.function) (n_:(scope.names.all fun x=>x.2 != .local||scope.names.lookup x.1==some .local)=true)
  (hv:(vars.all fun x=>scope.names.lookup x==some .local)=true) (hs:∀x,w9 iter C1 x=o4 x) (hJ:J (vars.map fun x=>(x,.any)))
  (h:T C0 w A B C1 Val (k7 iter C1) st fun v E5=>F1 C0 w A B C1 Val pyIter v E5 fun u F9=>Ac C0 w A B C1 k N vars scope cl elt C3 K9 J (fun ys J2=>∀D,D∉keys J2.led->K (.ref D) ⟨J2.loc,(D,.list ys)::J2.led⟩) u F9) :
  T C0 w A B C1 Val (k7 (.ListComp elt [⟨C3,iter,K9,0⟩] scope pos) C1) st K:=fun s Z S Q E hQ=>by
 have v_:∀y∈scope.names,y.2 ≠ .cell:=fun y hy=>by simpa using c5.mp I6 y hy
 have U7:∀y∈scope.names,y.2=.local->scope.names.lookup y.1=some .local:=fun y hy e=>by
  have:=c5.mp n_ y hy;simpa[e] using this
 have Q_:∀x∈vars,scope.names.lookup x=some .local:=fun x hx=>by simpa using c5.mp hv x hx
 rw[eval_ListComp];refine wpAny_comprehension_free (use:=none) rfl hs R1 I5 U7 (h s Z S _ _ fun v x s₁ Z1 E5 k₁ S1 V1 X1=>k₁ s₁ Z1 x V1 S1 _ _ fun u y s2 Z2 F9 k2 S2 V2 X2=>?_);obtain⟨I9,led2⟩:=F9;refine Io k2 fun it gl l xs ys O6 e hI M5 hN E3 hsz H1 hK=>?_;clear k2;subst O6;dsimp only at e hK;subst e
 (have e_:=V2.inv;subst e_)
 refine GC (RR:=fun acc C=>compPost (ZP C0 w) A E none Q acc C) hA hN v_ I5 Q_ E3 hsz hI M5 H1 hJ S2 fun D C s' Z' eu S' X'=>?_;refine ae (S'.own _ (Zr ..)) fun m hn O=>?_;refine bB m hn (fun h' f_=>?_);refine aA (S'.lose f_) fun S3 X3=>?_;have S4:=S3.perm (l':=(C1.locals,.ns I9)::(D,.list (ys.filterMap id))::l) (o5 ..);have SF:D7 B C1 {s' with heap:=h' } Z' ⟨I9,(D,.list (ys.filterMap id))::l⟩:=C7.toF (st:=⟨I9,(D,.list (ys.filterMap id))::l⟩) S4 S2.kinds S2.fn;refine hQ (.ref D) (.ref D) _ Z' _ (hK D (ZL.mp SF.nodup).1) SF (.ref _) ((X1.trans X2).trans ?_);rw[dx,dx];refine(X'.trans X3).trans ?_;rw[dN (l:=(D,.list (ys.filterMap id))::(C1.locals,.ns I9)::l) (l':=(C1.locals,.ns I9)::(D,.list (ys.filterMap id))::l) (o5 ..)];exact .refl
theorem Hz{px ă:Pos}{elt:Expr}{K9:List Expr}{scope:Scope}{cl:List (Str×b0)}{K:D4->St->Prop}(vars:List Str)
  (hsw:swapsWith (.ListComp elt [⟨C3,iter,K9,0⟩] scope pos) (some (.Name x px)) ă.line C1=o4 true)
  (hA:D6 A k) (R1:closureFor scope C1=o4 cl) (I6:(scope.names.all fun y=>y.2 != .cell)=true) (I5:scope.kind=.function) (n_:(scope.names.all fun x=>x.2 != .local||scope.names.lookup x.1==some .local)=true)
  (hv:(vars.all fun x=>scope.names.lookup x==some .local)=true) (hs:∀x,w9 iter C1 x=o4 x) (hJ:J (vars.map fun x=>(x,.any)))
  (h:T C0 w A B C1 Val (k7 iter C1) st fun v E5=>F1 C0 w A B C1 Val pyIter v E5 fun u F9=>Ac C0 w A B C1 k N vars scope cl elt C3 K9 J (fun ys J2=>∀D,D∉keys J2.led->F1 C0 w A B C1 aS (A8 C1 x) (.ref D) ⟨J2.loc,(D,.list ys)::J2.led⟩ fun O N5=>K .next N5) u F9) :
  T C0 w A B C1 E1 (exec (.Assign [.Name x px] (.ListComp elt [⟨C3,iter,K9,0⟩] scope pos) ă) C1) st K:=fun s Z S Q E hQ=>by
 have v_:∀y∈scope.names,y.2 ≠ .cell:=fun y hy=>by simpa using c5.mp I6 y hy
 have U7:∀y∈scope.names,y.2=.local->scope.names.lookup y.1=some .local:=fun y hy e=>by
  have:=c5.mp n_ y hy;simpa[e] using this
 have Q_:∀x∈vars,scope.names.lookup x=some .local:=fun x hx=>by simpa using c5.mp hv x hx
 rw[exec_Assign_Name_used _ _ _ _ hsw];refine Zq (a9 (Zq ?_));show ZS _ A (do let _ ← comprehension (.ListComp elt [⟨C3,iter,K9,0⟩] scope pos) scope C1 _ (newList []) false (k7 iter C1) (some (m0 (.Name x px) C1))) _ _ s;refine Zq (e9 (wpAny_comprehension_free (use:=some (m0 (.Name x px) C1)) (Q:=fun O s'=>Q .next s') rfl hs R1 I5 U7
  (h s Z S _ _ fun v x s₁ Z1 E5 k₁ S1 V1 X1=>k₁ s₁ Z1 x V1 S1 _ _ fun u y s2 Z2 F9 k2 S2 V2 X2=>?_)) (fun O s' hq=>Zs (Zs hq)) fun O O e=>e)
 obtain⟨I9,led2⟩:=F9;refine Io k2 fun it gl l xs ys O6 e hI M5 hN E3 hsz H1 hK=>?_;clear k2;subst O6;dsimp only at e hK;subst e
 (have e_:=V2.inv;subst e_)
 refine GC (RR:=fun acc C=>compPost (ZP C0 w) A E (some (m0 (.Name _ px) C1)) (fun O s'=>Q .next s') acc C) hA hN v_ I5 Q_ E3 hsz hI M5 H1 hJ S2 fun D C s' Z' eu S' X'=>?_;have S3:=S'.drop1;have S4:=S3.perm (l':=(C1.locals,.ns I9)::(D,.list (ys.filterMap id))::l) (o5 ..);have SF:D7 B C1 s' Z' ⟨I9,(D,.list (ys.filterMap id))::l⟩:=C7.toF (st:=⟨I9,(D,.list (ys.filterMap id))::l⟩) S4 S2.kinds S2.fn;refine ae (S'.own _ (Zr ..)) fun m hn O=>?_;dsimp only at hn;have hC:C∉keys ((D,.list (ys.filterMap id))::(C1.locals,.ns I9)::l):=(ZL.mp S'.nodup).1;have hCZ:Z' C=none:=S'.apart _ (Zr ..);have ο : ¬ (aC C1 ⟨I9,(D,.list (ys.filterMap id))::l⟩).at_ C:=by
  rintro (q |q)
  ·exact hC (q▸Zt _ (Zr ..))
  ·rcases Zy.mp q with q |q
   ·exact hC (q▸Zr ..)
   ·exact hC (Zt _ (Zt _ q))
 have Xf:E7 (aC C1 st) s Z s' Z' (aj ((C,.ns eu)::(D,.list (ys.filterMap id))::(C1.locals,.ns I9)::l)):=by
  have:=X1.trans X2;rw[dx (C1:=C1) ⟨I9,gl++l⟩] at this;exact this.trans X'
 have hCs:(aC C1 st).at_ C∨s.heap.get? C=none:=Xf.grow C (Zr ..);have Xa:E7 (aC C1 st) s Z s' Z' (aC C1 ⟨I9,(D,.list (ys.filterMap id))::l⟩):=by
  refine(X1.trans X2).trans ?_;rw[dx,dx];refine X'.less (fun a ha=>?_) fun g hg=>?_
  ·rcases Zy.mp ha with q |ha
   ·exact q▸Zt _ (Zt _ (Zr ..))
   ·rcases Zy.mp ha with q |ha
    ·exact q▸Zt _ (Zr ..)
    ·exact Zt _ (Zt _ (Zt _ ha))
  ·exact hg
 show ZS _ A (m0 (.Name _ px) C1 (.ref D)) _ _ _;refine wpAny_assign_Name (hK D (ZL.mp SF.nodup).1 s' Z' (.ref D) (.ref _) SF _ _ fun O O s4 Z4 N5 k4 Q2 O X4=>?_);refine jx (id hn) fun oc oes oep H_ Ĕ=>?_;have hoc':=X4.kept _ _ H_ ο;refine bB m ⟨oc,oes,oep,hoc',Ĕ⟩ (fun h' f_=>?_);have I3:∀a,(aC C1 N5).at_ a->a≠C:=fun a ha q=>by
  subst q;rcases X4.grow a ha with q |q
  ·exact ο q
  ·rw[H_] at q;cases q
 have hZC:Z4 C=none:=by
  cases e:Z4 C with
  |none=>rfl
  |some o =>
   rcases X4.zgrow C o e with q |q |q
   ·rw[hCZ] at q;cases q
   ·exact(ο q).elim
   ·rw[H_] at q;cases q
 have keep:∀b o,b≠C->s4.heap.get? b=some o->h'.get? b=some o:=fun b o hb e=>f_.extBut b o hb e;refine hQ _ _ _ Z4 N5 k4 ⟨⟨Q2.base,fun a o e=>keep a o (fun q=>by rw[q,hZC] at e;cases e) (Q2.frozen a o e),Q2.nodup,Q2.apart,fun p hp=>(Q2.own p hp).mono (.refl _) (fun o e=>keep _ o (I3 _ (.inr (ZO hp))) e) (fun O O O e=>e),Q2.gnodup,Q2.bare⟩,
  Q2.locZ,Q2.locL,M1.mono (.refl _) (fun o e=>keep _ o (I3 _ (.inl rfl)) e) Q2.loc,Q2.kinds,Q2.fn⟩ .next ?_
 have Xb:=Xa.trans X4;refine⟨Xb.le,fun a o e h=>keep a o (fun q=>?_) (Xb.kept a o e h),Xb.grow,Xb.zgrow,Xb.os,Xb.gkept,Xb.ggrow⟩;subst q;rcases hCs with q |q
 ·exact h q
 ·rw[q] at e;cases e
end
section
open PySem PySem.W PySem.SeqAt
section
variable{N:aa}
theorem oL{a:Int}(h:K (.int a.natAbs) st):FC C0 w A B C1 (.blt "abs") [.int a] [] st K:=FC.b fun s Z S Q E hQ=>Vals.un <| Val.eInt fun O=>Vals.un0 <| by
 refine PyProof.Rows.call_abs_int fun u tk=>?_;have e:(if a<0 then -a else a)=(a.natAbs:Int):=if h:a<0 then (if_pos h).trans (Int.ofNat_natAbs_of_nonpos (Int.le_of_lt h)).symm else (if_neg h).trans (Int.natAbs_of_nonneg (Int.not_lt.mp h)).symm
 rw[e];exact hQ _ _ _ Z st h (S.toks _) (.int _ _) (.toks _)
theorem Vals.rep(h:Vals Z xs vs):∀k,Vals Z (t5 k xs).flatten (t5 k vs).flatten
 |0 => .nil
 |k+1=>by
  rw[List.replicate_succ,List.flatten_cons,List.replicate_succ,List.flatten_cons];exact h.append (Vals.rep h k)
theorem Yv{x:Int}(hl:F4 st.led v xs)(h0:0<=x)(h1:x<2^20)(hsz:xs.length * x.toNat<=2^24)
  (h:∀a,a∉keys st.led->K (.ref a) ⟨st.loc,(a,.list (t5 x.toNat xs).flatten)::st.led⟩):F2 C0 w A B C1 Val (binaryOp .Mult) v (.int x) st K:=F2.of fun s Z S Q E hQ=>fun G2 V1=>Val.eInt fun u=>by
 refine bv (hl.get V1 S.toC7) fun a items n O4 L3 hv=>?_;subst O4;have E3:items.size=xs.length:=by simpa using hv.length
 refine wpAny_binaryOp_repeat_ref (T := "list") (U := "int") (by decide) ⟨_,L3,rfl⟩ (fun s'=>typeIs_int s' x u) noFill_list_mul F.fills_int_mul F.slot_int_rmul repeat_list F.slot_int_index.lookup
  (call_meets F.slot_int_rmul (typeIs_int s x u) F.entry_int_rmul (F.args_int_rmul_2 _ _) (lm_int_rmul_list_any x u a items n none #[])
   ⟨L3,rfl,⟨_,L3,rfl⟩,call_meets F.slot_list_mul ⟨_,L3,rfl⟩ F.entry_list_mul (F.args_list_mul_2 _ _)
    (lm_list_mul_any a items n none #[] x u (by simp[Builtin.List.listFitsIndex];omega) (by rw[E3];omega) (by rw[E3];simp[Builtin.List.listTooLong,c9];omega))
    ⟨L3,?_⟩⟩)
 have P:=S.toC7.push (o:={ cls:=.type "list",data:=.seq (List.foldl (fun x1 x2=>x1++x2) #[] (t5 (if items.isEmpty=true then 0 else x.toNat) items))}) (ao:=.list (t5 x.toNat xs).flatten) rfl s.toks
  ⟨_,_,ZB _ rfl,by rw[PyProof.Rows.listMul_foldl_if];exact hv.rep _⟩
 exact hQ _ _ _ _ _ (h _ S.toC7.lfresh) (S.after P.1 P.2) (.ref _) P.2.toF
theorem lu{led':aa}(hl:F4 st.led v ys)(hsz:xs.length+ys.length<=2^20)(U:Upd a (.list xs) (.list (xs++ys)) st.led led')(h:K .none ⟨st.loc,led'⟩) :
  FC C0 w A B C1 (.blt "list.extend") [.ref a,v] [] st K:=fun s Z fx zs ks hf hx hk S Q E hQ=>by
 cases hf
 cases hk
 cases hx with
 |cons h1 hx =>
  cases hx with
  |cons h2 hx =>
   (have e_:=hx.inv;subst e_)
   (have e_:=h1.inv;subst e_)
   refine bv (hl.get h2 S.toC7) fun b items2 n2 O4 Ğ Ù=>?_;subst O4;refine bI (S.own _ U.mem) fun items n g vs=>?_;dsimp only at g;have E3:items.size=xs.length:=vs.size;have ě:items2.size=ys.length:=by simpa using Ù.length
   have hs:(2:Nat)^20<=c9:=by decide
   refine call_meets F.slot_list_extend (⟨_,g,rfl⟩) F.entry_list_extend (F.args_list_extend_2 _ _) (PySem.AutoSeq1.list_extend_list_list_0 a items n b items2 n2 (by simp[Builtin.List.listTooLong,E3,ě];intro _;omega) ⋯ ⋯) ⟨g,Ğ,?_⟩;have K3:∃n',(s.heap.update a (d9 fun x=>x++items2)).get? a=some {cls:=.type "list",data:=.seq (items++items2) n' }:=⟨_,c6 (d9 fun x=>x++items2) g rfl⟩;refine aw K3 ?_;clear K3;intro n' K3;have P:=S.toC7.upd U (h':=s.heap.update a (d9 fun x=>x++items2)) (tk:=s.toks) (fun b ob hb e=>(c0 ..).extBut b ob hb e) rfl rfl ⟨_,n',K3,by simpa using vs.append Ù⟩;exact hQ _ _ _ Z _ h (S.after P.1 P.2) .none P.2.toF
def tn[DecidableEq β](f:β->AV):Prop:=∀(Z:D3) (x y:β) (u v:Value),Val Z (f x) u->Val Z (f y) v->∀(A:ZI) (s:Zx),EqAt A s u v (decide (x=y))
theorem oo:tn AV.str:=fun Z x y u v h1 h2 A s=>by
 refine aw h1.inv fun t e=>?_;subst e;refine aw h2.inv fun Λ e=>?_;subst e
 have:=EqAt.str_str (A:=A) (s:=s) x t y Λ;rwa [show (x==y)=decide (x=y) from by rw[y1,beq_iff_eq,decide_eq_true_eq]] at this
theorem Us:tn AV.int:=fun Z x y u v h1 h2 A s=>by
 refine aw h1.inv fun t e=>?_;subst e;refine aw h2.inv fun Λ e=>?_;subst e
 have:=EqAt.int_int (A:=A) (s:=s) x t y Λ;rwa [show (x==y)=decide (x=y) from by rw[y1,beq_iff_eq,decide_eq_true_eq]] at this
theorem sR[DecidableEq β](as bs:List β)(h:as.length=bs.length):(List.range as.length).all (fun j=>decide (as[j]?=bs[j]?))=decide (as=bs):=by
 rw[y1,c5,decide_eq_true_eq];constructor
 ·intro h1;refine List.ext_getElem? fun j=>?_;by_cases q:j<as.length
  ·simpa using h1 j (List.mem_range.mpr q)
  ·rw[n8 ⋯,n8 ⋯]
 ·rintro rfl j _
  simp
theorem F4.isList{led:aa}(h:F4 led v xs){x:Value}(V:Val Z v x)(S:C7 B s Z led):∃a items,x=.ref a/\s.heap.IsList a items/\Vals Z xs items.toList:=by
 refine bv (h.get V S) fun a items n O4 L3 hv=>?_;subst O4;exact sX a items rfl ⟨_,L3,rfl,n,rfl⟩ hv
theorem Ur[DecidableEq β]{f:β->AV}(hf:tn f){as bs:List β}{items items2:Array Value}(h1:Vals Z (as.map f) items.toList)(h2:Vals Z (bs.map f) items2.toList)(hsz:as.length=bs.length)(A:ZI)(s:Zx) :
  ∀j (q1:j<items.size) (q2:j<items2.size),EqAt A s items[j] items2[j] (decide (as[j]?=bs[j]?)):=fun j q1 q2=>by
 have l1:items.size=as.length:=by simpa using h1.length
 have l2:items2.size=bs.length:=by simpa using h2.length
 refine ae (h1.get (i:=j) (x:=f (as[j]'⋯)) (by rw[d4,ZU ⋯];rfl)) fun u e1 V1=>?_;refine ae (h2.get (i:=j) (x:=f (bs[j]'⋯)) (by rw[d4,ZU ⋯];rfl)) fun v e2 V2=>?_;have g1:items[j]=u:=by rw[r9,m7 q1] at e1;exact r7 e1
 have g2:items2[j]=v:=by rw[r9,m7 q2] at e2;exact r7 e2
 rw[g1,g2]
 have:=hf Z _ _ u v V1 V2 A s;rwa [show decide (as[j]'⋯ = bs[j]'⋯)=decide (as[j]?=bs[j]?) from by
  rw[ZU (show j<as.length by omega),ZU (show j<bs.length by omega),y1,decide_eq_true_eq,decide_eq_true_eq,l8]] at this
theorem oM[DecidableEq β]{f:β->AV}(hf:tn f){u:AV}{as bs:List β}(hA:D6 A 1)(hl:F4 st.led v (as.map f))(hr:F4 st.led u (bs.map f))(h:K (.bool (!decide (as=bs))) st) :
  F2 C0 w A B C1 Val (u0 .NotEq) v u st K:=fun s Z G2 x2 V1 V2 S Q E hQ=>by
 refine bW (hl.isList V1 S.toC7) fun a items O3 hi hv=>?_;subst O3;refine bW (hr.isList V2 S.toC7) fun b items2 O3 hi2 Ù=>?_;subst O3;have l1:items.size=as.length:=by simpa using hv.length
 have l2:items2.size=bs.length:=by simpa using Ù.length
 by_cases hsz:as.length=bs.length
 ·refine RcNeAt.lists (e:=fun j=>decide (as[j]?=bs[j]?)) hi hi2 ⋯ hA.ult (Ur hf hv Ù hsz _ _) C0 w E _ ?_;rw[l1,sR as bs hsz];exact hQ _ _ s Z st h S (.bool _) .refl
 ·refine RcNeAt.lists_lengths hi hi2 (by simp;omega) hA.ult C0 w E _ ?_;rw[decide_eq_false (fun e=>hsz (by rw[e]))] at h;exact hQ _ _ s Z st h S (.bool _) .refl
theorem UF{t:b0}{items:Array Value}(I3:t≠it):∀(n i:Nat) (s:Zx) (Q:List Value->Zx->Prop),s.heap.IsListIter it t i->s.heap.IsList t items->i+n<=items.size ->
  (∀h',h'.IsListIter it t (i+n)->a7 it s.heap h'->Q ((items.toList.drop i).take n) {s with heap:=h' })->ZS (ZP C0 w) A (draw (.ref it) n) Q E s:=by
 intro t_;induction t_ with
 |zero =>
  intro i s Q hit _ _ hQ;show ZS _ _ (o4 []) Q E s;exact Zs (by simpa using hQ s.heap hit (Heap.SameBut.refl ..))
 |succ n ih =>
  intro i s Q hit ht hle hQ;have G8:i<items.size:=by omega
  show ZS _ _ (s6 (.ref it)>>=_) Q E s;refine Zq (wpAny_pyNext_list_item hit ht (x:=items[i]) (by simp[G8]) fun h1 q_ W4=>?_);refine Zq (ZF (ih (i+1) _ _ q_ (ht.extBut W4.extBut I3) ⋯ fun h2 ç É=>Zs ?_));have hd:items.toList.drop i=items[i]::items.toList.drop (i+1):=by simp[m6,G8]
  have:=hQ h2 (by rw[show i+(n+1)=i+1+n by omega];exact ç) (W4.trans É);rw[hd,List.take_succ_cons] at this;exact this
theorem Jf{t:b0}{items:Array Value}{Q:List Value->Zx->Prop}(hh:A.handled=none)(ht:s.heap.IsList t items)
  (hQ:∀h',Heap.ExtBut s.heap.objs.size s.heap h'->Q items.toList {s with heap:=h' }):ZS (ZP C0 w) A (unpackItems (.ref t) items.size none) Q E s:=by
 have G8:t≠s.heap.objs.size:=by refine ae ht fun o ho O=>?_;clear ht;exact j9 (e8 ho)
 unfold unpackItems;refine Zq ?_
 ·unfold notIterableAtAll;refine Zq (A7 ht.typeIs slot_list_iter.lookup ?_);refine Zs ?_;simp only[c7,if_false];refine Zq (ZF (wpAny_pyIter_list ht ?_));refine Zq (ZF (UF G8 items.size 0 _ _ ⟨_,ZB _ rfl,rfl,rfl⟩ (ht.push _) ⋯ fun h1 q_ W4=>?_));have J':List.take items.size (List.drop 0 items.toList)=items.toList:=by
   rw[List.drop_zero];exact List.take_of_length_le (by simp)
  rw[J'];refine cS (by simp) ?_;have ht1:h1.IsList t items:=(ht.push _).extBut W4.extBut G8;refine Zq (ZF (wpAny_pyNext_list_end hh q_ ht1 (by simp) fun h2 he2=>?_));simp only[Option.isSome_none,c7,if_false];refine Zs (hQ h2 fun b o hb e=>he2 b o hb (W4.extBut b o hb (ZC _ e)))
theorem Ze{x1:Nat}{vs:List AV}{K:Unit->St->Prop}(hh:A.handled=none)(hl:F4 st.led v vs)(hn:(n6 elts C1).length=vs.length)(M4:(n6 elts C1).findIdx? (·.1)=none)
  (h:FA C0 w A B C1 ((n6 elts C1).map (·.2)) vs st K):F1 C0 w A B C1 aS (m0 (.Tuple elts x1 pos) C1) v st K:=fun s Z u V S Q E hQ=>by
 refine bW (hl.isList V S.toC7) fun a items O3 hi hv=>?_;subst O3;have l1:items.size=vs.length:=by simpa using hv.length
 rw[arm_assign_Tuple];refine Zq (a9 ?_);unfold unpack;rw[hn,M4,← l1];refine Zq (ZF (Jf hh hi fun h' he=>?_));refine aA (S.ext1 he) fun S' X'=>?_;exact h _ Z _ hv S' Q E fun v x L5 J9 F0 k' J1 V' W7=>hQ v x L5 J9 F0 k' J1 V' (X'.trans W7)
end
end
section
open PySem PySem.W PySem.SeqAt
theorem SW:k8 (.type "generator") "__len__" = o4 none:=by rw[g4,b9];kernel_rfl
theorem SX:k8 (.type "generator") "__length_hint__" = o4 none:=by rw[g4,b9];kernel_rfl
theorem Ku(items:Array Value)(a b:Nat)(Ò:a<=b):slicePick items (some a) (some b) none=((items.toList.drop a).take (b-a)).toArray:=by
 rw[slicePick_plain];simp only[Option.elim,clipAt_nat];congr 1
 have hl:items.toList.length=items.size:=l5;rcases Nat.le_total b items.size with h |h
 ·rw[Nat.min_eq_left h,Nat.min_eq_left (d7 Ò h)]
 ·rw[Nat.min_eq_right h];rcases Nat.le_total a items.size with h' |h'
  ·rw[Nat.min_eq_left h',List.take_of_length_le (by rw[List.length_drop,hl];exact ZZ _),List.take_of_length_le (by rw[List.length_drop,hl];exact Nat.sub_le_sub_right h a)]
  ·rw[Nat.min_eq_right h',m5 (Nat.le_of_eq hl),m5 (d7 (Nat.le_of_eq hl) h'),List.take_nil,List.take_nil]
section
variable{N:aa}
theorem HG{lo hi:Expr}{p:Pos}(ht:∀o r,letTemporaryGo value o r=o4 ())
  (h:T C0 w A B C1 Val (k7 value C1) st fun v E5=>T C0 w A B C1 Val (k7 lo C1) E5 fun l F9=>T C0 w A B C1 Val (k7 hi C1) F9 fun u J2 =>
   ∃xs:List AV,∃i j:Nat,F4 J2.led v xs/\l=.int i/\u=.int j/\i<=j/\xs.length<=c9/\R (.lst ((xs.drop i).take (j-i))) J2) :
  T C0 w A B C1 Val (k7 (.Subscript value (.Slice (some lo) (some hi) none p) pos) C1) st R:=fun s Z S Q E hQ=>by
 refine wpAny_Subscript_list_slice (h s Z S _ _ fun v x s₁ Z1 E5 k₁ S1 V1 X1=>k₁ s₁ Z1 S1 _ _ fun l y s2 Z2 F9 k2 S2 V2 X2=>k2 s2 Z2 S2 _ _ fun u z s3 Z3 J2 k3 S3 V3 X3=>?_) ht;refine eh k3 fun xs i j hl O5 O6 L8 hsz k=>?_;clear k3;subst O5;subst O6;refine bv (hl.get (V1.mono (X2.le.trans X3.le)) S3.toC7) fun a items n O4 g vs=>?_;subst O4;have E3:items.size=xs.length:=vs.size;refine aw V2.inv fun t e=>?_;subst e;refine aw V3.inv fun Λ e=>?_;subst e;refine zJ a items (some i) (some j) rfl ⟨_,g,rfl,n,rfl⟩ ⋯ (.int _ _) (.int _ _) ?_;rw[Ku items i j L8];have P1:=S3.toC7.push0 (o:={ cls:=.type "slice",data:=.fields #[.int i t,.int j Λ,.none]}) s3.toks;have P2:=P1.1.pushZ (o:={ cls:=.type "list",data:=.seq ((items.toList.drop i).take (j-i)).toArray}) rfl s3.toks;have X:=P1.2.trans P2.2;have hs:(s3.heap.push {cls:=.type "slice",data:=.fields #[.int i t,.int j Λ,.none]}).objs.size=s3.heap.objs.size+1:=z5 ..;refine hQ _ _ _ _ _ k (S3.after P2.1 X) ?_ (((X1.trans X2).trans X3).trans X.toF);rw[← hs];exact .lst (D3.add_at ..) (((vs.drop i).take (j-i)).mono X.le)
theorem Zd{x1:Nat}{vs:List AV}{K:Unit->St->Prop}(hh:A.handled=none)(hl:F4 st.led v vs)(he:(n6 elts C1).map (·.2)=elts.map fun e=>m0 e C1)(hn:elts.length=vs.length)(M4:(n6 elts C1).findIdx? (·.1)=none)
  (h:FT C0 w A B C1 elts vs st K):F1 C0 w A B C1 aS (m0 (.Tuple elts x1 pos) C1) v st K :=
 Ze hh hl (by have:=congrArg y6 he;simp only[Zu] at this;omega) M4 (by exact(Eq.symm (he))▸h)
theorem gA{ga g:Nat}{gs:y7}{gl led:aa}(hG:G1 B)(hA:D6 A (n+4))(hN:G5 N led)(h0:I8 C0 w B N n C5 gl gs)(hsz:C5.length<=c9)(h:R (.lst C5) ⟨loc,led⟩) :
  FC C0 w A B C1 (.typ "list") [.ref ga] [] ⟨loc,((ga,.gen g gs)::gl)++led⟩ R:=by
 refine Ia (k:=n+1) (T' := "generator") hA hN (D5.gen hG (fun O O O O O O O O A Q E hq=>Zs hq) h0) hsz (fun s Z S=>?_) (by decide) (by decide) (fun A s Z S Q E hq=>?_) SW SX h
 ·exact(S.own _ (Zr ..)).1.typeIs
 ·exact wpAny_pyIter_gen (S.own _ (Zr ..)).1 hq
end
end
section
open PySem PySem.W PySem.SeqAt
noncomputable def cc(n:Nat)(x:Str):Str:=⟨(x.cps.toList.take n).toArray⟩
noncomputable def cW(n:Nat)(x:Str):Str:=⟨(x.cps.toList.drop n).toArray⟩
theorem kM(x:Str):x.cps.toList.length=x.length:=by simp[Str.length]
theorem Kr(x:Str)(n:Nat):Txt.slice x none (some (n:Int))=cc n x:=by
 by_cases h:n<=x.length
 ·have:=eq_of_beq (PyProof.Rows.slice_closes_toL (x:=x) (j:=n) ⋯ ⋯);rw[this,cc];simp
 ·rw[PyProof.Rows.slice_to_beyond ⋯]
  have:=eq_of_beq (PyProof.Rows.slice_closes_toL (x:=x) (j:=(x.length:Nat)) ⋯ ⋯);rw[this,cc];congr 1
  simp only[Int.toNat_zero,List.drop_zero,Int.sub_zero,c8];rw[List.take_of_length_le (Nat.le_of_eq (kM x)),List.take_of_length_le (by rw[kM];omega)]
theorem Kt(x:Str)(n:Nat):Txt.slice x (some (n:Int)) none=cW n x:=by
 refine(j4 x.length n).elim (fun h=>?_) fun h=>?_
 ·rw[PyProof.Rows.slice_from_beyond (Int.ofNat_le.mpr (n7 h)),cW,List.drop_eq_nil_of_le (by rw[kM];exact n7 h)]
 ·have:=eq_of_beq (PyProof.Rows.slice_closes_fromL (x:=x) (i:=n) (b:=(x.length:Nat)) (Int.natCast_nonneg _) (Int.ofNat_le.mpr h) rfl);rw[this,cW];congr 2
  refine List.take_of_length_le ?_;rw[List.length_drop,kM];show _<=(((x.length:Int)-(n:Int))).toNat;rw[Int.toNat_sub];exact ZZ _
theorem zA{q p:Pos}(ht:∀o r,letTemporaryGo value o r=o4 ())
  (h:T C0 w A B C1 Val (k7 value C1) st fun v E5=>∃x,v=.str x/\x.length<=c9/\R (.str (cc n x)) E5) :
  T C0 w A B C1 Val (k7 (.Subscript value (.Slice none (some (.Constant (.int (n:Int)) k q)) none p) pos) C1) st R:=fun s Z S Q E hQ=>by
 refine wpAny_Subscript_str_slice (h s Z S _ _ fun v y s₁ Z1 E5 k₁ S1 V1 X1=>?_) ht;refine aU k₁ fun x O1 hx k2=>?_;subst O1;refine aw V1.inv fun t O2=>?_;subst O2;rw[evalPart_none,evalPart_some];refine Zs (wpAny_Constant_int ⟨x,t,none,some ((n:Int),s₁.toks),rfl,rfl,rfl,?_⟩);have P1:=S1.toC7.push0 (o:={ cls:=.type "slice",data:=.fields #[.none,.int n s₁.toks,.none]}) (s₁.toks+1);refine PySem.post_val_or_str ⟨d7 (Txt.slice_le x none (some (n:Int))) hx,fun t' tk=>?_⟩;show Q (.str (Txt.slice x none (some (n:Int))) t') _;rw[Kr];have S2:=S1.after P1.1 P1.2;exact hQ _ _ _ _ _ k2 (S2.toks tk) (.str _ _) ((X1.trans P1.2.toF).trans (.toks tk))
theorem zB{q p:Pos}(ht:∀o r,letTemporaryGo value o r=o4 ())
  (h:T C0 w A B C1 Val (k7 value C1) st fun v E5=>∃x,v=.str x/\x.length<=c9/\R (.str (cW n x)) E5) :
  T C0 w A B C1 Val (k7 (.Subscript value (.Slice (some (.Constant (.int (n:Int)) k q)) none none p) pos) C1) st R:=fun s Z S Q E hQ=>by
 refine wpAny_Subscript_str_slice (h s Z S _ _ fun v y s₁ Z1 E5 k₁ S1 V1 X1=>?_) ht;refine aU k₁ fun x O1 hx k2=>?_;subst O1;refine aw V1.inv fun t O2=>?_;subst O2;rw[evalPart_none,evalPart_some];refine wpAny_Constant_int (Zs ⟨x,t,some ((n:Int),s₁.toks),none,rfl,rfl,rfl,?_⟩);have P1:=S1.toC7.push0 (o:={ cls:=.type "slice",data:=.fields #[.int n s₁.toks,.none,.none]}) (s₁.toks+1);refine PySem.post_val_or_str ⟨d7 (Txt.slice_le x (some (n:Int)) none) hx,fun t' tk=>?_⟩;show Q (.str (Txt.slice x (some (n:Int)) none) t') _;rw[Kt];have S2:=S1.after P1.1 P1.2;exact hQ _ _ _ _ _ k2 (S2.toks tk) (.str _ _) ((X1.trans P1.2.toF).trans (.toks tk))
theorem VF(hc:x.cps.toList[i]?=some c):(seqIndex? (i:Int) x.length).bind (x.cps[·]?)=some c:=by
 have G8:=(w6.mp hc).1;rw[kM] at G8;rw[seqIndex_of (Int.natCast_nonneg i) (Int.ofNat_lt.mpr G8)];exact(r9 ..).symm.trans hc
theorem Ph(hi:i<2^62):(decide ((i:Int) < -(2^63:Int))||decide ((i:Int) ≥ 2^63))=false:=by
 rw[decide_eq_false (Int.not_lt.mpr (Int.le_trans (by decide) (Int.natCast_nonneg i))),decide_eq_false (Int.not_le.mpr (Int.lt_of_lt_of_le (Int.ofNat_lt.mpr hi) (by decide)))];rfl
theorem jv(hi:i<2^62)(hc:x.cps.toList[i]?=some c)(h:K (.str ⟨#[c]⟩) st) :
  F2 C0 w A B C1 Val getItem (.str x) (.int i) st K:=F2.of fun s Z S Q E hQ=>Val.eStr fun O=>Val.eInt fun O=>P.getItem_str (Ph hi) (VF hc) (hQ _ _ _ Z st h (S.toks _) (.str _ _) (.toks _))
theorem YF{a b:Str}(hsz:a.length+b.length<10^6)(h:K (.str (a++b)) st):F2 C0 w A B C1 Val (inplaceOp .Add) (.str a) (.str b) st K:=F2.of fun s Z S Q E hQ=>Val.eStr fun O=>Val.eStr fun O =>
 PyProof.Rows.iadd_str (fun t' tk=>hQ _ _ _ Z st h (S.toks _) (.str _ _) (.toks _)) (d7 (n7 hsz) (by decide))
theorem XX{n:Int}(h:K (.int n) st):FC C0 w A B C1 (.typ "int") [.int n] [] st K:=FC.t fun s Z S Q E hQ=>Vals.un <| Val.eInt fun O=>Vals.un0 <| PySem.call_int_int (hQ _ _ s Z st h S (.int _ _) .refl)
theorem Yt(h:K (.str ⟨#[42,42,42,42,42,42,42,42,42,42,42,42,42,42,42]⟩) st) :
  F2 C0 w A B C1 Val (binaryOp .Mult) (.str MI) (.int 15) st K:=F2.of fun s Z S Q E hQ=>Val.eStr fun O=>Val.eInt fun O=>by
 refine P.mul_str (by decide) (fun O O=>by decide) (fun O O=>by decide) ?_;rw[if_neg (by decide),if_neg (by decide)];refine⟨by decide,?_⟩;exact hQ _ _ _ Z st h (S.toks _) (.str _ _) (.toks _)
noncomputable def Rw(x:Str)(y:Value):Bool:=@Value.casesOn (fun O=>Bool) y false false false (fun O=>false) (fun O O=>false) (fun O O=>false) (fun y O=>y==x) (fun O O=>false) (fun O=>false) (fun O=>false) fun O=>false
theorem YD{a b:Str}(hA:A.units+1<cLine)(h:K (.bool (x==a||x==b)) st):F2 C0 w A B C1 Val (u0 .In) (.str x) (.tup [.str a,.str b]) st K:=F2.of fun s Z S Q E hQ=>Val.eStr fun t=>Val.eTup fun l items n e vs =>
 Vals.un2 (P:=fun items=>Z l=some {cls:=.type "tuple",data:=.seq (List.toArray items) n}->ZS (ZP C0 w) A (u0 .In (.str x t) (.ref l)) Q E s) (Val.eStr fun t1=>Val.eStr fun t2=>fun e=>PySem.SeqAt.in_tupleAt (Rw x) ⟨_,S.frozen _ _ e,rfl,n,rfl⟩ (fun y hy=>(Zy.mp (List.mem_toArray.mp hy)).elim (fun q=>q▸EqAt.str_str a t1 x t) fun hy=>ZK.mp hy▸EqAt.str_str b t2 x t)
  (by
   rw[← Array.any_toList];show Q (.bool (a==x||(b==x||false))) s;rw[Bool.or_false,BEq.comm (a:=a),BEq.comm (a:=b)];exact hQ _ _ s Z st h S (.bool _) .refl)) items vs e
theorem WL{i j:Int}{k1 k2 k3 k4:Nat}{p1 p2 p3 p4:Pos}{led:aa}(L8:i≠j)
  (h:∀d,d∉keys led->R (.ref d) ⟨loc,(d,au (y3 C0 w) [(i,.str x),(j,.str y)])::led⟩) :
  T C0 w A B C1 Val (k7 (.Dict [some (.Constant (.int i) k1 p1),some (.Constant (.int j) k2 p2)] [.Constant (.str x) k3 p3,.Constant (.str y) k4 p4] pos) C1) ⟨loc,led⟩ R:=fun s Z S Q E hQ=>by
 have P1:=S.toC7.push (o:={ cls:=.type "dict",data:=.dict #[]}) (ao:=au (y3 C0 w) []) rfl s.toks (ib (s:={ s with heap:=s.heap.push {cls:=.type "dict",data:=.dict #[]} }) (Heap.DictOf.new s.heap) .nil);refine wpAny_Dict_walk (knd:=y3 C0 w) (by simp) rfl (by simp) (by simp) ?_;refine pairTrees_cons_walk ?_;refine wpAny_Constant_int (w0 ?_);refine pairTrees_cons_walk ?_;refine wpAny_Constant_int (w0 ?_);refine pairTrees_nil_walk ?_;dsimp only;have hm:merged ([]:List (Int×Value)) [(i,.str x (s.toks+1)),(j,.str y (s.toks+1+1+1))]=[(i,.str x (s.toks+1)),(j,.str y (s.toks+1+1+1))]:=by
  simp[merged,stored,L8]
 refine⟨[(i,.str x (s.toks+1)),(j,.str y (s.toks+1+1+1))],⟨(intKind_is C0 w i _),rfl,(intKind_is C0 w j _),rfl,trivial⟩,Heap.DictOf.new s.heap,fun h' hD K1=>?_⟩;rw[hm] at hD;have P2:=P1.1.upd (led':=(s.heap.objs.size,au (y3 C0 w) [(i,.str x),(j,.str y)])::led) .here (h':=h') (tk:=s.toks+1+1+1+1+2) (fun b ob hb e=>(K1.2 b hb).trans e) rfl rfl
  (ib (s:={ s with heap:=h',toks:=s.toks+1+1+1+1+2}) hD (.cons (.str _ _) (.cons (.str _ _) .nil)))
 exact hQ _ _ _ _ _ (h _ S.toC7.lfresh) (S.after P2.1 (P1.2.trans P2.2)) (.ref _) ((P1.2.trans P2.2).toF)
theorem Wo{h0:ExceptHandler}{hs:List ExceptHandler}{K:D4->St->Prop}
  (h:T C0 w A B C1 E1 (execs body C1) st K):T C0 w A B C1 E1 (exec (.Try body (h0::hs) [] [] pos) C1) st K:=fun s Z S Q E hQ=>by
 refine wpAny_Try_except (h s Z S _ _ fun v x s' Z' C4 k S' V X=>?_);cases x with
 |next=>exact Zs (hQ v .next s' Z' C4 k S' V X)
 |_=>exact hQ v _ s' Z' C4 k S' V X
end
noncomputable def aL(t:Str)(xs:List Str):List Str:=(xs.filter fun x=>cc 2 x==MY||cc 2 x==t).map (cW 2)
theorem pE{t:Str}{xs:List Str}:aL t (x::xs)=if cc 2 x==MY||cc 2 x==t then cW 2 x::aL t xs else aL t xs:=by
 unfold aL;rw[List.filter_cons];split <;> rfl
section
variable(xs:List Str)(wh:Int)(t:Str)
noncomputable abbrev EL(tg pf ln:AV:=.any):List (Str×AV):=[(Ct,.int wh),(Cu,.lst (xs.map .str)),(kd,tg),(Cs,pf),(lY,ln)]
def Xr(ys:List Str)(P:St->List AV->Prop):Prop:=∀v,(∀y∈ys,y.length<2^20)->P ⟨EL xs wh (.str t) (.tup [.str MY,.str t]) v,[]⟩ ((aL t ys).map .str)
end
theorem jJ{xs:List Str}{wh:Int}{t:Str}{led N:aa}(hA:D6 A 30)(hw:(wh=1/\t=Na)∨(wh=2/\t=Nb))
  (hx:∀x∈xs,x.length<2^20) :
  TC af w A (ak w) (.ref 290) [.lst (xs.map .str),.int wh] [] led (H8 af w (ak w) N 23 ((aL t xs).map .str) led):=by
 refine WQ (m:=20) (EL xs wh) (bA w) hA.lt (fun O O=>@_) @_ @_ (Tr _) fun L=>?_;have hG:=fun(A:ZI) (hh:A.handled=none)=>(gk w A (ap (nj w.params)) L 290 289 @_ @_ hh).g (SN w) @_ @_;refine cK (dI fun A' D0 led' F6=>aF (hG A' D0.h) 20 ?_);refine ò.mk [] ?_;refine cK (dI fun A' D0 led' F6=>?_);refine Wo ?_;refine bx (hG A' D0.h) 20 ?_;refine C6.mk ?_;refine HF ?_ ?_
 ·exact fun O O=>@_
 refine WL ?_ ?_
 ·decide
 refine fun d hd=>?_;refine ad (hG A' D0.h) 20 ?_;refine C6.mk (XX ?_);refine⟨.mk F.slot_dict_getitem.lookup (lE (knd:=y3 _ _) (Zr ..)),?_⟩;refine zU (knd:=y3 _ _) (k:=wh) (u:=.str t) (ym wh) (Zr ..) ?_ ?_
 ·rcases hw with ⟨rfl,rfl⟩ |⟨rfl,rfl⟩ <;> rfl
 refine ò.mk [(d,au (y3 af w) [(1,.str Na),(2,.str Nb)])] ?_;refine TG.weak .drop ?_;refine cK (dI fun A' D0 led' F6=>?_);refine aF (hG A' D0.h) 20 ?_;refine ò.mk [] ?_;refine ig (k:=5) .str (Xr xs wh t) (by decide) (fun A' D0 led' F6=>ad (hG A' D0.h) 20 (eH (k:=5) fun it gl hI => .mk (l:=[]) hI (.mk (fun O q=>q .any hx) @_))) ?_ (fun O O=>bk rfl) (fun O=>@_);intro gl y ys v Č;have hyz:y.length<=c9:=d7 (n7 (Č y (Zr ..))) (j5 rfl);have ċ:=fun q hq=>Č q (Zt _ hq);refine .mk (fun A' D0 led' F6=>cx (bp rfl rfl)) ?_;refine cK (eE (p:=(cc 2 y==MY||cc 2 y==t)=true) (fun A' D0 led' F6=>?_) (fun c=>?_) fun c=>?_)
 ·refine cb (hG A' D0.h) 20 ?_;refine C6.mk ?_;refine zA ?_ ?_
  ·exact fun O O=>rfl
  refine ad (hG A' D0.h) 20 ?_;exact⟨y,rfl,hyz,C6.mk (YD (show A'.units+1<cLine by have:=D0.u;omega) ⟨rfl,Iff.rfl⟩)⟩
 ·refine TG.eq (show _=AV.str (cW 2 y)::(aL t ys).map .str by rw[pE,if_pos c];rfl) ?_;exact fR gl (fun A' D0 led' F6=>ad (hG A' D0.h) 20 (C6.mk (zB (fun O O=>rfl) (ad (hG A' D0.h) 20 ⟨y,rfl,hyz,.mk⟩)))) (bk (bk (.next (l:=[]) (.mk (fun O q=>q (.str y) ċ) @_)))) @_ @_
 ·exact TG.eq (show _=(aL t ys).map .str by rw[pE,if_neg c]) (bk (bk (.next (l:=[]) (.mk (fun O q=>q (.str y) ċ) @_))))
inductive M0 (a:b0) (xs:List AV):List AV->List AV->Prop
 |nil:M0 a xs [] []
 |keep {v:AV} {l l':List AV}:M0 a xs l l'->M0 a xs (v::l) (v::l')
 |cast {l l':List AV}:M0 a xs l l'->M0 a xs (.ref a::l) (.lst xs::l')
theorem M0.refl:∀l:List AV,M0 a xs l l
 | [] => .nil
 |_::l => .keep (M0.refl l)
theorem M0.app{l l':List AV}(h:M0 a xs l l'):∀k:List AV,M0 a xs (k++l) (k++l')
 | []=>h
 |_::k => .keep (h.app k)
theorem M0.vals(V:Val Z (.lst xs) (.ref a)){l l':List AV}(h:M0 a xs l l'):∀ {vs:List Value},Vals Z l vs->Vals Z l' vs:=by
 induction h with
 |nil=>exact fun h=>h
 |keep _ ih=>intro vs h;cases h with |cons h1 h2=>exact .cons h1 (ih h2)
 |cast _ ih =>
  intro vs h;cases h with
  |cons h1 h2 =>
   cases h1
   exact .cons V (ih h2)
theorem T.freezeIn{rel:D3->α->β->Prop}{t:Sem β}{b:b0}{Ô:List AV}{led:aa}{K:α->St->Prop}(hr:M0 a xs ys Ô)
  (h:T C0 w A B C1 rel t ⟨loc,(b,.list Ô)::led⟩ K):T C0 w A B C1 rel t ⟨loc,(a,.list xs)::(b,.list ys)::led⟩ K:=fun s Z S Q E hQ=>by
 obtain⟨Z',S',V,le,X⟩:=S.toC7.freeze;have SF:=S.after S' X;have S2:C7 B s Z' ((b,.list Ô)::led):=⟨S'.base,S'.frozen,S'.nodup,fun p hp=>by
   rcases Zy.mp hp with rfl |hp
   ·exact S'.apart (b,.list ys) (Zr ..)
   ·exact S'.apart p (Zt _ hp),fun p hp=>by
   rcases Zy.mp hp with rfl |hp
   ·obtain⟨items,n,g,v⟩:=S'.own (b,.list ys) (Zr ..);exact⟨items,n,g,hr.vals V v⟩
   ·exact S'.own p (Zt _ hp),S'.gnodup,S'.bare⟩
 have X2:E7 (aC C1 ⟨loc,(a,.list xs)::(b,.list ys)::led⟩) s Z s Z' (aC C1 ⟨loc,(b,.list Ô)::led⟩):=X.toF (st:=⟨loc,(a,.list xs)::(b,.list ys)::led⟩);exact h s Z' ⟨S2,SF.locZ,SF.locL,SF.loc,SF.kinds,SF.fn⟩ Q E fun v x s' J9 C4 k J1 V' X'=>hQ v x s' J9 C4 k J1 V' (X2.trans X')
noncomputable def ub:Str:=⟨#[42,42]⟩
noncomputable def ua:Str:=⟨#[45,45]⟩
noncomputable def ci(r:Str):Bool:=cc 2 r==ub||cc 2 r==ua
noncomputable def jG:Str:=⟨#[42,42,42,42,42,42,42,42,42,42,42,42,42,42,42,10]⟩
noncomputable def dA(r:Str):Nat:=r.cps.toList.headD 0
structure R6 where
 done:List (List Str×List Str)
 cur:Option (List Str×List Str)
 half:Nat
noncomputable def R6.all(s:R6):List (List Str×List Str):=s.done++s.cur.toList
noncomputable def bM(h:Nat)(r:Str):Str:=if dA r=33 then (if h=0 then (⟨#[45]⟩:Str) else ⟨#[43]⟩)++cW 1 r else r
noncomputable def bE(st:R6)(r:Str):R6 :=
 if ci r then
  if r==jG then ⟨st.all,some ([],[]),if dA r=42 then 0 else 1⟩ else ⟨st.done,st.cur,if dA r=42 then 0 else 1⟩
 else match st.cur with
  |some (l,m)=>if st.half=0 then ⟨st.done,some (l++[bM 0 r],m),st.half⟩ else ⟨st.done,some (l,m++[bM 1 r]),st.half⟩
  |none=>st
def jl:R6->List Str->Prop
 |_,[]=>True
 |st,r::rs=>(ci r=true∨st.cur.isSome=true)/\jl (bE st r) rs
noncomputable def dw(p:List Str×List Str):AV:=.lst [.lst (p.1.map .str),.lst (p.2.map .str)]
noncomputable def gX(st:R6):Nat:=st.done.length+(match st.cur with |some (l,m)=>l.length+m.length+1 |none=>0)
theorem RP(st:R6)(r:Str):gX (bE st r)<=gX st+1:=by
 obtain⟨d,c,h⟩:=st;unfold bE;split
 ·split
  ·unfold gX R6.all;cases c with
   |none=>simp
   |some p=>obtain⟨l,m⟩:=p;simp
  ·unfold gX;simp
 ·cases c with
  |none=>exact Nat.le_succ _
  |some p =>
   obtain⟨l,m⟩:=p;dsimp only;split <;> (unfold gX;simp;omega)
theorem RQ(st:R6):st.all.length<=gX st:=by
 obtain⟨d,c,h⟩:=st;unfold gX R6.all;cases c with
 |none=>simp
 |some p=>obtain⟨l,m⟩:=p;simp
theorem za(n:Nat)(x:Str):(cW n x).length<=x.length:=by
 unfold cW;show (x.cps.toList.drop n).toArray.size<=x.cps.size;simp
theorem sq{r:Str}(h:r.cps.toList≠[]):r.cps.toList[0]?=some (dA r):=by
 unfold dA;cases e:r.cps.toList with
 |nil=>exact absurd e h
 |cons c cs=>rfl
theorem Sh(st:R6)(r:Str)(h:st.half<=1):(bE st r).half<=1:=by
 obtain⟨d,c,hf⟩:=st;unfold bE;split
 ·split <;> (dsimp only;split <;> omega)
 ·cases c with
  |none=>exact h
  |some p =>
   obtain⟨l,m⟩:=p;dsimp only;split <;> exact h
noncomputable def kT(P p la ra:b0)(st:R6):aa:=match st.cur with
 |none=>[(P,.list (st.done.map dw))]
 |some (l,m)=>[(p,.list [.ref la,.ref ra]),(ra,.list (m.map .str)),(la,.list (l.map .str)),(P,.list (st.done.map dw++[.ref p]))]
theorem T.hFreeze{rel:D3->α->β->Prop}{t:Sem β}{P p la ra:b0}{st:R6}{rest:aa}{K:α->St->Prop}
  (h:T C0 w A B C1 rel t ⟨loc,(P,.list (st.all.map dw))::rest⟩ K):T C0 w A B C1 rel t ⟨loc,kT P p la ra st++rest⟩ K:=by
 obtain⟨d,c,hf⟩:=st;cases c with
 |none =>
  simp only[R6.all,Option.toList_none,g7] at h;exact h
 |some q =>
  obtain⟨l,m⟩:=q;simp only[R6.all,Option.toList_some,ZT,ZD,y2] at h;show T C0 w A B C1 rel t ⟨loc,(p,.list [.ref la,.ref ra])::(ra,.list (m.map .str))::(la,.list (l.map .str))::(P,.list (d.map dw++[.ref p]))::rest⟩ K;refine T.perm (l':=(la,.list (l.map .str))::(p,.list [.ref la,.ref ra])::(ra,.list (m.map .str))::(P,.list (d.map dw++[.ref p]))::rest) (List.perm_append_comm_assoc [_,_] [_] _) ?_;refine T.freezeIn (Ô:=[.lst (l.map .str),.ref ra]) (.cast (.keep .nil)) ?_;refine T.perm (l':=(ra,.list (m.map .str))::(p,.list [.lst (l.map .str),.ref ra])::(P,.list (d.map dw++[.ref p]))::rest) (o5 _ _ _) ?_;refine T.freezeIn (Ô:=[.lst (l.map .str),.lst (m.map .str)]) (.keep (.cast .nil)) ?_;exact T.freezeIn (Ô:=d.map dw++[dw (l,m)]) ((M0.cast .nil).app _) h
theorem yF{st:R6}(hd:ci y=true)(hc:(y==jG)=true):bE st y=⟨st.all,some ([],[]),if dA y=42 then 0 else 1⟩:=by unfold bE;rw[if_pos hd,if_pos hc]
theorem nY{st:R6}(hd:ci y=true)(hc:(y==jG)=false):bE st y=⟨st.done,st.cur,if dA y=42 then 0 else 1⟩:=by unfold bE;rw[if_pos hd,hc];rfl
theorem Fw{d:List (List Str×List Str)}{l m:List Str}(hd:ci y=false):bE ⟨d,some (l,m),0⟩ y=⟨d,some (l++[bM 0 y],m),0⟩:=by unfold bE;rw[hd];rfl
theorem Fv{d:List (List Str×List Str)}{l m:List Str}(hd:ci y=false):bE ⟨d,some (l,m),1⟩ y=⟨d,some (l,m++[bM 1 y]),1⟩:=by unfold bE;rw[hd];rfl
theorem PT(h:dA y=33):bM 0 y=(⟨#[45]⟩:Str)++cW 1 y:=if_pos h
theorem PS(h:dA y=33):bM 1 y=(⟨#[43]⟩:Str)++cW 1 y:=if_pos h
theorem ED(h : ¬ dA y=33):bM i y=y:=if_neg h
theorem vK{d:Nat}:((⟨#[c]⟩:Str)==⟨⟨[d]⟩⟩)=decide (c=d):=by
 rw[y1,beq_iff_eq,decide_eq_true_eq];exact⟨fun q=>by injection q with q;injection q with q;injection q,fun q=>q▸rfl⟩
theorem vI{d:Nat}(h:((⟨#[c]⟩:Str)==⟨⟨[d]⟩⟩)=true):c=d:=of_decide_eq_true (vK.symm.trans h)
theorem vJ{d:Nat}(h:((⟨#[c]⟩:Str)==⟨⟨[d]⟩⟩)=false) : ¬ c=d:=of_decide_eq_false (vK.symm.trans h)
theorem RD(h:(cc 2 y==(MK:Str))=true):true=ci y:=by unfold ci;rw[show (cc 2 y==ub)=true from h];rfl
theorem RB(h:(cc 2 y==(MJ:Str))=true):true=ci y:=by unfold ci;rw[show (cc 2 y==ua)=true from h,Bool.or_true]
theorem RC(h:(cc 2 y==(MK:Str))=false)(h':(cc 2 y==(MJ:Str))=false):false=ci y:=by unfold ci;rw[show (cc 2 y==ub)=false from h,show (cc 2 y==ua)=false from h'];rfl
section
variable(C5:List Str)(P:b0)(fin:R6)(l0 gl:aa)
noncomputable abbrev kJ(pa h r:AV:=.any):List (Str×AV):=[(uU,.lst (C5.map .str)),(Cr,pa),(Cq,h),(Cp,r)]
def Xv(ys:List Str)(Q:St->Prop):Prop:=∀st p la ra v,(∀y∈ys,y∈C5)->ys.foldl bE st=fin->jl st ys->gX st+ys.length<=10^5->st.half<=1->Q ⟨kJ C5 (.ref P) (.int st.half) v,kT P p la ra st++l0⟩
def Xm(st:R6)(y:Str)(Q:St->Prop):Prop:=∀p la ra,Q ⟨kJ C5 (.ref P) (.int st.half) (.str y),(kT P p la ra st++l0)++gl⟩
def Xo(Q:St->Prop):Prop:=∀p la ra v h,Q ⟨kJ C5 (.ref P) h v,kT P p la ra fin++l0⟩
end
theorem QS{C5:List Str}{led:aa}(hA:D6 A 20)(E3:C5.length<=10^5)(hr:∀r∈C5,r.cps.toList≠[]/\r.length<10^5)
  (G_:jl ⟨[],none,0⟩ C5) :
  TC af w A (ak w) (.ref 304) [.lst (C5.map .str)] [] led fun v led'=>led'=led/\v=.lst ((C5.foldl bE ⟨[],none,0⟩).all.map dw):=by
 refine TC.weak (dD (kJ C5) (bA w) hA.lt (fun O=>@_) @_ @_ (Tp _) fun L hL=>?_);have D0:=hA.deeper (k:=17) (C1:=bf (ap (kr w.params)) L 304 303);have hG:=(gk w (A.deeper _) (ap (kr w.params)) L 304 303 @_ @_ D0.h).m ⟨Mg,1, "list.append"⟩ F.plainAttrs_list jH F.type_list_append;refine aB (aF hG 20 (C6.mk (cR rfl fun P hP=>?_)));refine aB (aF hG 20 ?_);generalize Χ:C5.foldl bE ⟨[],none,0⟩=fin;refine aB (T.join (Xo C5 P fin led) (oD (k:=5) .str (Xv C5 P fin led) (D0.mono ⋯) (ad hG 20 (eH (k:=5) fun it gl hI => .mk hI (.mk (fun O q=>q ⟨[],none,0⟩ 0 0 0 .any (fun y hy=>hy) Χ G_ (by show 0+0+_<=_;omega) (by decide)) @_))) ?_ (fun st p la ra v O e O O O=>by cases(show st=fin from e);exact⟨rfl,_,G6.self _,fun O q=>q p la ra v (.int _)⟩) (fun O=>@_)) fun p la ra v h=>?_)
 ·intro gl y ys st p la ra v Υ hf hk hsz hh;refine aA (hr y (Υ y (Zr ..))) fun č Ł=>?_;obtain⟨C4,he⟩:∃C4,bE st y=C4:=⟨_,rfl⟩;refine cx (bp rfl (aB (T.join (Xm C5 P led gl C4 y) (ic (T.to (ci y) ?_ ?_)) fun p' ŀ Ŀ=>?_)))
  ·refine cb hG 20 ?_;refine C6.mk ?_;refine zA ?_ ?_
   ·exact fun O O=>rfl
   refine ad hG 20 ?_;refine⟨y,rfl,d7 (n7 Ł) (j5 rfl),?_⟩;refine bK (fun c1=>?_) fun c1=>?_
   ·exact⟨RD c1,rfl⟩
   ·refine C6.mk ?_;refine zA ?_ ?_
    ·exact fun O O=>rfl
    refine ad hG 20 ?_;refine⟨y,rfl,d7 (n7 Ł) (j5 rfl),?_⟩;exact bK (fun c2=>⟨RB c2,rfl⟩) fun c2=>⟨RC c1 c2,rfl⟩
  ·cases hd:ci y with
   |true =>
    rw[if_pos rfl];refine aB (T.join (fun Q=>Q ⟨kJ C5 (.ref P) (.int (if dA y=42 then 0 else 1:Nat)) (.str y),(kT P p la ra st++led)++gl⟩) (aF hG 20 (C6.mk (jv (i:=0) (by decide) (sq č) (bK (fun c => .mk (fun O q=>q) (by rw[if_pos (vI c)];kernel_rfl)) fun c => .mk (fun O q=>q) (by rw[if_neg (vJ c)];kernel_rfl))))) ?_);refine aB (ic (T.to (y==jG) ?_ ?_))
    ·exact cb hG 20 (C6.mk (Yt (C6.mk (gE (by decide) ⟨rfl,rfl⟩))))
    ·cases hc:y==jG with
     |true =>
      cases he.symm.trans (yF hd hc)
      rw[if_pos rfl];refine(ZW .. ▸ T.hFreeze ?_);have hsa:=RQ st;rw[Zz] at hsz;exact bx hG 20 ⟨bz (Zr ..),C6.mk (jq (bP hG 20 (C6.mk (cR rfl fun ŀ hla'=>C6.mk (cR rfl fun Ŀ hra'=>⟨(by decide:2<=c9),fun p' Ë=>C6.mk (dn (xs:=st.all.map dw) (.there (.there (.there .here))) (by rw[Zu,j7];omega) (cu (.mk (fun O q=>q p' ŀ Ŀ) @_)))⟩)))))⟩
     |false =>
      cases he.symm.trans (nY hd hc)
      exact cu (cu (.mk (fun O q=>q p la ra) @_))
   |false =>
    have hk1:=hk.1;rw[Zz] at hsz;obtain⟨d,c,h⟩:=st;cases c with
    |none=>exact(hk1.elim (fun q=>nomatch hd.symm.trans q) fun q=>nomatch q)
    |some q =>
     obtain⟨l,m⟩:=q;have W4:d.length+(l.length+m.length+1)+(ys.length+1)<=10^5:=hsz;cases h with
     |zero =>
      cases he.symm.trans (Fw hd)
      refine bx hG 40 ⟨.mk list_getitem_lookup (bz (by repeat constructor)),C6.mk (ly (xs:=d.map dw) (.own (by repeat constructor)) rfl (by rw[Zu];omega) ?_)⟩;refine⟨.mk list_getitem_lookup (bz (by repeat constructor)),C6.mk (ee (x:=.ref la) (.own (by repeat constructor)) (Int.natCast_nonneg _) (show ((0:Nat):Int)<2^63 by decide) rfl ?_)⟩;refine⟨bz (by repeat constructor),C6.mk (jv (i:=0) (by decide) (sq č) (bK (fun c=>?_) fun c=>?_))⟩
      ·refine C6.mk (jv (i:=0) (c:=45) (by decide) rfl ?_);refine C6.mk ?_;refine zB ?_ ?_
       ·exact fun O O=>rfl
       refine ad hG 20 ⟨y,rfl,d7 (n7 Ł) (j5 rfl),C6.mk (gE (by show 1+(cW 1 y).length<_;have:=za 1 y;omega) ?_)⟩;exact C6.mk (dn (xs:=l.map .str) (by repeat constructor) (by rw[Zu,j7];omega) (Nx.mkE (fun O q=>q p la ra) (by rw[PT (vI c)];show _=(p,D9.list [.ref la,.ref ra])::(ra,D9.list (m.map .str))::(la,D9.list ((l++[_]).map AV.str))::_;rw[ZT];rfl) @_))
      ·exact C6.mk (dn (xs:=l.map .str) (by repeat constructor) (by rw[Zu,j7];omega) (Nx.mkE (fun O q=>q p la ra) (by rw[ED (vJ c)];show _=(p,D9.list [.ref la,.ref ra])::(ra,D9.list (m.map .str))::(la,D9.list ((l++[_]).map AV.str))::_;rw[ZT];rfl) @_))
     |succ h =>
      cases Nat.le_zero.mp (Nat.le_of_succ_le_succ hh)
      cases he.symm.trans (Fv hd)
      refine bx hG 40 ⟨.mk list_getitem_lookup (bz (by repeat constructor)),C6.mk (ly (xs:=d.map dw) (.own (by repeat constructor)) rfl (by rw[Zu];omega) ?_)⟩;refine⟨.mk list_getitem_lookup (bz (by repeat constructor)),C6.mk (ee (x:=.ref ra) (.own (by repeat constructor)) (Int.natCast_nonneg _) (show ((1:Nat):Int)<2^63 by decide) rfl ?_)⟩;refine⟨bz (by repeat constructor),C6.mk (jv (i:=0) (by decide) (sq č) (bK (fun c=>?_) fun c=>?_))⟩
      ·refine C6.mk (jv (i:=1) (c:=43) (by decide) rfl ?_);refine C6.mk ?_;refine zB ?_ ?_
       ·exact fun O O=>rfl
       refine ad hG 20 ⟨y,rfl,d7 (n7 Ł) (j5 rfl),C6.mk (gE (by show 1+(cW 1 y).length<_;have:=za 1 y;omega) ?_)⟩;exact C6.mk (dn (xs:=m.map .str) (by repeat constructor) (by rw[Zu,j7];omega) (Nx.mkE (fun O q=>q p la ra) (by rw[PS (vI c)];show _=(p,D9.list [.ref la,.ref ra])::(ra,D9.list ((m++[_]).map AV.str))::_;rw[ZT];rfl) @_))
      ·exact C6.mk (dn (xs:=m.map .str) (by repeat constructor) (by rw[Zu,j7];omega) (Nx.mkE (fun O q=>q p la ra) (by rw[ED (vJ c)];show _=(p,D9.list [.ref la,.ref ra])::(ra,D9.list ((m++[_]).map AV.str))::_;rw[ZT];rfl) @_))
  ·have J8:=RP st y;rw[Zz] at hsz;rw[he] at J8;exact cu (.next (l:=kT P p' ŀ Ŀ C4++led) (.mk (fun O q=>q C4 p' ŀ Ŀ (.str y) (fun z hz=>Υ z (Zt _ hz)) (he▸hf) (he▸hk.2) ⋯ (he▸Sh st y hh)) @_))
 ·refine T.hFreeze ?_;refine T.freeze (a:=P) (xs:=fin.all.map dw) (D8:=kJ C5 (.lst (fin.all.map dw)) h v) (.keep (.cast (.keep (.keep .nil)))) ?_;exact bx hG 20 ⟨_,.refl _,rfl,rfl⟩
noncomputable abbrev ur:List Nat:=[64,10,32,45,43,63,33,42,97,35]
noncomputable def lN(d:Nat):Nat:=ur.getD d 0
noncomputable def eX:Nat->Nat->List Nat
 |0,_=>[]
 |f+1,x=>if x=0 then [] else lN (x % 10)::eX f (x / 10)
noncomputable def gW(x:Nat):Str:=⟨(eX 4 x).toArray⟩
theorem KX:∀d,d<10->ur[d]?=some (lN d):=by decide
theorem Qz:∀f x,(eX f x).length<=f:=by
 intro f;induction f with
 |zero=>exact fun O=>ZZ _
 |succ f ih=>exact fun x=>iteInduction (motive:=fun l:List Nat=>l.length<=f+1) (fun O=>ZM _) fun O=>Nat.succ_le_succ (ih (x / 10))
theorem lx{a b:Nat}(hb:b≠0)(h:K (.int (a % b:Nat)) st):F2 C0 w A B C1 Val (binaryOp .Mod) (.int a) (.int b) st K :=
 Yw (fun e=>hb (Int.ofNat.inj e)) (by rw[Int.fmod_eq_emod_of_nonneg _ (Int.natCast_nonneg b),← Int.natCast_emod];exact h)
theorem zV{a b:Nat}(hb:b≠0)(hs:b<1073741824)(h:K (.int (a / b:Nat)) st):F2 C0 w A B C1 Val (binaryOp .FloorDiv) (.int a) (.int b) st K :=
 Ii (fun e=>hb (Int.ofNat.inj e)) hs (by rw[Int.fdiv_eq_ediv_of_nonneg _ (Int.natCast_nonneg b),← Int.natCast_ediv];exact h)
theorem XU{l:List Nat}(hl:l.length<2^62)(h:K (.int (l.length:Nat)) st):FC C0 w A B C1 (.blt "len") [.str ⟨l.toArray⟩] [] st K:=FC.b fun s Z S Q E hQ=>Vals.un <| Val.eStr fun O=>Vals.un0 <|
 P.len_str (by show ¬ ((l.toArray.size:Nat):Int) ≥ 2^63;rw[List.size_toArray];omega) (hQ _ _ _ Z st h (S.toks _) (.int _ _) (.toks _))
theorem YE{l m:List Nat}(hsz:l.length+m.length<10^6)(h:K (.str ⟨(l++m).toArray⟩) st):F2 C0 w A B C1 Val (inplaceOp .Add) (.str ⟨l.toArray⟩) (.str ⟨⟨m⟩⟩) st K :=
 YF hsz ((show (⟨l.toArray⟩:Str)++⟨⟨m⟩⟩=⟨(l++m).toArray⟩ from congrArg Str.mk (List.append_toArray l m))▸h)
theorem KI(y:Nat):(Zw "@\n -+?!*a#").cps.toList[y % 10]?=some (lN (y % 10)):=by
 rw[show (Zw "@\n -+?!*a#").cps.toList=ur from by decide +kernel];exact KX _ (Nat.mod_lt _ (by decide))
structure c_ (x:Nat) (acc:List Nat) (y:Nat):Prop where
 len:acc.length<=4
 e:acc++eX (4-acc.length) y=eX 4 x
theorem c_.step{x y:Nat}{acc:List Nat}(h:c_ x acc y)(c1:(0:Int)<y)(c2:((acc.length:Nat):Int)<4):y / 10<y/\c_ x (acc++[lN (y % 10)]) (y / 10):=by
 have c2:acc.length<4:=Int.ofNat_lt.mp c2;have c1:0<y:=Int.ofNat_lt.mp c1;refine⟨Nat.div_lt_self c1 (by decide),by rw[ZA];exact c2,?_⟩;rw[← h.e,ZW,ZA,r8,(Nat.succ_sub (Nat.le_of_lt_succ c2)).trans (congrArg Nat.succ (Nat.succ_sub_succ 3 acc.length).symm)];exact congrArg (acc ++ ·) (if_neg (Nat.ne_of_gt c1)).symm
theorem c_.stop1{x y:Nat}{acc:List Nat}(h:c_ x acc y)(c : ¬ (0:Int)<y):acc=eX 4 x:=by
 cases Nat.eq_zero_of_not_pos fun q=>c (Int.ofNat_lt.mpr q)
 have:eX (4-acc.length) 0=[]:=by cases 4-acc.length <;> rfl
 rw[← h.e,this,g7]
theorem c_.stop2{x y:Nat}{acc:List Nat}(h:c_ x acc y)(c : ¬ ((acc.length:Nat):Int)<4):acc=eX 4 x:=by
 have h4:acc.length=4:=Nat.le_antisymm h.len (Nat.not_lt.mp fun q=>c (Int.ofNat_lt.mpr q));rw[← h.e,h4,show eX (4-4) y=[] from rfl,g7]
section
variable(x:Nat)(led:aa)
def Xu(y:Nat)(P:St->Prop):Prop:=∀acc,c_ x acc y->P ⟨[(vy,.int (y:Nat)),(lY,.str ⟨acc.toArray⟩)],led⟩
def KLn(P:St->Prop):Prop:=P ⟨[(vy,.any),(lY,.str (gW x))],led⟩
variable{x led}
theorem KLn.mk{acc:List Nat}(e:acc=eX 4 x):Nx (KLn x led) .next ⟨[(vy,v),(lY,.str ⟨acc.toArray⟩)],led⟩:=by subst e;exact .mk (fun O y=>y) @_
end
theorem QR{x:Nat}{led:aa}(hA:D6 A 20):TC af w A (ak w) (.ref 297) [.int x] [] led fun v led'=>led'=led/\v=.str (gW x):=by
 refine TC.weak (dD [(vy,.int x),(lY,.any)] (bA w) hA.lt (fun O=>@_) @_ @_ (Tq _) fun L hL=>?_);have hG:=((gk w (A.deeper (bf (ap (kt w.params)) L 297 296)) (ap (kt w.params)) L 297 296 @_ @_ hA.h).g (gY w) @_ @_);refine aB (aF hG 10 ?_);refine aB (T.join (KLn x led) (lp (Xu x led) (fun y acc h=>?_) (n:=x) (.mk (fun O y=>y [] ⟨by decide,rfl⟩) @_)) ?_)
 ·have h4:=h.len;refine cb hG 20 (bL (fun c1=>C6.mk (XU ⋯ (bL (fun c2=>?_) fun c2=>KLn.mk (h.stop2 c2)))) fun c1=>KLn.mk (h.stop1 c1));have h10:=Nat.mod_lt y (show 0<10 by decide);exact bx hG 30 (C6.mk (lx (a:=y) (b:=10) (by decide) (C6.mk (jv (i:=y % 10) ⋯ (KI y) (C6.mk (YE (m:=[lN (y % 10)]) (by rw[r8];omega) (C6.mk (zV (a:=y) (b:=10) (by decide) (by decide) ⟨_,(h.step c1 c2).1,.mk (fun O y=>y _ (h.step c1 c2).2) @_⟩))))))))
 ·exact bx hG 20 ⟨_,.refl _,rfl,rfl⟩
theorem lq(h:T C0 w A B C1 Vals (spliced (u5 pos (f0 elts C1))) st fun vs C4=>vs.length<=c9/\K (.lst vs) C4) :
  T C0 w A B C1 Val (k7 (.List elts pos) C1) st K:=fun s Z S Q E hQ=>by
 rw[arm_eval_List];refine Zq (a9 (Zq (h s Z S _ _ fun vs xs s' Z' C4 k S' V X=>?_)));refine wpAny_newList ?_ (by rw[V.length];exact k.1);have P:=S'.toC7.pushZ (o:={ cls:=.type "list",data:=.seq xs.toArray}) rfl s'.toks;exact hQ _ _ _ _ _ k.2 (S'.after P.1 P.2) (.lst (D3.add_at ..) (V.mono P.2.le)) (X.trans P.2.toF)
theorem gC{N:aa}{f:AV}{led:aa}(h:TC C0 w A B f args kw led (H8 C0 w B N n C5 led))
  (hk:∀ga gn gs gl,I8 C0 w B N n C5 gl gs->K (.ref ga) ⟨loc,((ga,.gen gn gs)::gl)++led⟩):FC C0 w A B C1 f args kw ⟨loc,led⟩ K :=
 gD h (H8.elim hk)
theorem jK(t:Str)(xs:List Str):(aL t xs).length<=xs.length:=(Zu ..).symm▸List.length_filter_le ..
noncomputable abbrev eN:Str:=Na
noncomputable abbrev eM:Str:=Nb
noncomputable def KJ(C5:List Str):AV:=.lst [.lst ((aL eN C5).map .str),.lst ((aL eM C5).map .str)]
theorem sc{C5:List Str}{led:aa}(hA:D6 A 60)(E3:C5.length<=10^6)(hx:∀r∈C5,r.length<2^20) :
  TC af w A (ak w) (.ref 311) [.lst (C5.map .str)] [] led fun v led'=>led'=led/\v=KJ C5:=by
 refine TC.weak (dD [(uU,.lst (C5.map .str))] (bA w) hA.lt (fun O=>@_) @_ @_ (To _) fun L hL=>?_);have D0:=hA.deeper (k:=57) (C1:=bf (ap (kq w.params)) L 311 310);have hG:=((((gk w (A.deeper _) (ap (kq w.params)) L 311 310 @_ @_ D0.h).g (sp w) @_ @_).g (FJ w) @_ @_)).f (f:=290) (bS @_);have h1:∀t,((aL t C5).map AV.str).length<=c9:=fun t=>by rw[Zu];exact d7 (d7 (jK t C5) E3) (j5 rfl)
 refine bx hG 40 (C6.mk ?_);refine lq (bP hG 40 ?_);refine C6.mk (gC (jJ (N:=[]) (D0.mono ⋯) (.inl ⟨rfl,rfl⟩) hx) fun ga gn gs gl N3=>C6.mk (gA (bA w) (D0.mono ⋯) .nil N3 (h1 _) ?_));exact C6.mk (gC (jJ (N:=[]) (D0.mono ⋯) (.inr ⟨rfl,rfl⟩) hx) fun ga gn gs gl N3=>C6.mk (gA (bA w) (D0.mono ⋯) .nil N3 (h1 _) ⟨(by decide:2<=c9),_,.refl _,rfl,rfl⟩))
section
open PySem PySem.W PySem.SeqAt
noncomputable abbrev cA(xs:List Str):AV:=.lst (xs.map .str)
theorem JR{xs:List Str}:∀ {ys:List Str} {vs:List Value},Vals Z (xs.map .str) vs->Vals Z (ys.map .str) vs->xs=ys:=by
 induction xs with
 |nil =>
  intro ys vs h1 h2;cases h1
  cases ys with
  |nil=>rfl
  |cons y ys=>cases h2
 |cons x xs ih =>
  intro ys vs h1 h2;obtain _ |⟨a1,h1⟩:=h1
  cases ys with
  |nil=>cases h2
  |cons y ys =>
   obtain _ |⟨b1,h2⟩:=h2
   refine aw b1.inv fun t e=>?_;subst e;refine aw a1.inv fun t' e=>?_;rw[ih h1 h2,Value.str.inj e |>.1]
theorem yq[DecidableEq β]{f:β->AV}(hf:∀(x y:β) (u v:Value),Val Z (f x) u->Val Z (f y) v->EqAt A s u v (decide (x=y))){as bs:List β}{items items2:Array Value}(h1:Vals Z (as.map f) items.toList)(h2:Vals Z (bs.map f) items2.toList)(hsz:as.length=bs.length) :
  ∀j (q1:j<items.size) (q2:j<items2.size),EqAt A s items[j] items2[j] (decide (as[j]?=bs[j]?)):=fun j q1 q2=>by
 have l1:items.size=as.length:=h1.size.trans (Zu ..);have l2:items2.size=bs.length:=h2.size.trans (Zu ..);have ja:j<as.length:=l1▸q1;have jb:j<bs.length:=l2▸q2;refine ae (h1.get (i:=j) (x:=f as[j]) (by rw[d4,ZU ja];rfl)) fun u e1 V1=>?_;refine ae (h2.get (i:=j) (x:=f bs[j]) (by rw[d4,ZU jb];rfl)) fun v e2 V2=>?_;have g1:items[j]=u:=by rw[r9,m7 q1] at e1;exact r7 e1
 have g2:items2[j]=v:=by rw[r9,m7 q2] at e2;exact r7 e2
 rw[g1,g2]
 have:=hf _ _ u v V1 V2;rwa [show decide (as[j]=bs[j])=decide (as[j]?=bs[j]?) from by
  rw[ZU ja,ZU jb,y1,decide_eq_true_eq,decide_eq_true_eq,l8]] at this
theorem Gp(hu:A.units<cLine)(hZ:∀b o,Z b=some o->s.heap.get? b=some o)(xs ys:List Str)(u v:Value)(h1:Val Z (cA xs) u)(h2:Val Z (cA ys) v):EqAt A s u v (decide (xs=ys)):=by
 refine bv (ex h1) fun a items n qv e vs=>?_;subst qv;refine bv (ex h2) fun b items2 n2 qv e2 M'=>?_;subst qv;by_cases Ò:a=b
 ·subst Ò;cases r7 (e.symm.trans e2)
  rw[JR vs M',decide_eq_true rfl];exact EqAt.same _
 ·have hl:s.heap.IsList a items.toArray:=⟨_,hZ _ _ e,rfl,n,rfl⟩;have o_:s.heap.IsList b items2.toArray:=⟨_,hZ _ _ e2,rfl,n2,rfl⟩;have l1:items.toArray.size=xs.length:=vs.length.trans (Zu ..);have l2:items2.toArray.size=ys.length:=M'.length.trans (Zu ..);refine EqAt.of_refs Ò ?_;by_cases hsz:xs.length=ys.length
  ·have k:=RcAt.lists hl o_ (l1.trans (hsz.trans l2.symm)) hu (yq (A:=A.in1) (fun x y u v V1 V2=>oo Z x y u v V1 V2 A.in1 s) (items:=items.toArray) (items2:=items2.toArray) vs M' hsz);rwa [l1,sR xs ys hsz] at k
  ·rw[decide_eq_false (fun e=>hsz (congrArg y6 e))];exact RcAt.lists_lengths hl o_ (bne_iff_ne.mpr fun e=>hsz (l1.symm.trans (e.trans l2))) hu
section
variable{T5 T4:List (List Str)}
theorem Yr(hA:D6 A 5)(h:K (.bool (!decide (T5=T4))) st):F2 C0 w A B C1 Val (u0 .NotEq) (.lst (T5.map cA)) (.lst (T4.map cA)) st K:=fun s Z G2 x2 V1 V2 S Q E hQ=>by
 refine bv (ex V1) fun a items n qv e vs=>?_;subst qv;refine bv (ex V2) fun b items2 n2 qv e2 M'=>?_;subst qv;have hl:s.heap.IsList a items.toArray:=⟨_,S.frozen _ _ e,rfl,n,rfl⟩;have o_:s.heap.IsList b items2.toArray:=⟨_,S.frozen _ _ e2,rfl,n2,rfl⟩;have l1:items.toArray.size=T5.length:=vs.length.trans (Zu ..);have l2:items2.toArray.size=T4.length:=M'.length.trans (Zu ..);by_cases hsz:T5.length=T4.length
 ·refine RcNeAt.lists hl o_ (l1.trans (hsz.trans l2.symm)) hA.ult (yq (A:=A.in1) (Gp (by have:=hA.u;show A.units+1<cLine;omega) S.frozen) (items:=items.toArray) (items2:=items2.toArray) vs M' hsz) C0 w E _ ?_;rw[l1,sR T5 T4 hsz];exact hQ _ _ s Z st h S (.bool _) .refl
 ·refine RcNeAt.lists_lengths hl o_ (bne_iff_ne.mpr fun e=>hsz (l1.symm.trans (e.trans l2))) hA.ult C0 w E _ ?_;rw[decide_eq_false (fun e=>hsz (by rw[e]))] at h;exact hQ _ _ s Z st h S (.bool _) .refl
theorem YM(hA:D6 A 5)(h:K (.bool (decide (T5=T4))) st):F2 C0 w A B C1 Val (u0 .Eq) (.lst (T5.map cA)) (.lst (T4.map cA)) st K:=fun s Z G2 x2 V1 V2 S Q E hQ=>by
 refine bv (ex V1) fun a items n qv e vs=>?_;subst qv;refine bv (ex V2) fun b items2 n2 qv e2 M'=>?_;subst qv;have hl:s.heap.IsList a items.toArray:=⟨_,S.frozen _ _ e,rfl,n,rfl⟩;have o_:s.heap.IsList b items2.toArray:=⟨_,S.frozen _ _ e2,rfl,n2,rfl⟩;have l1:items.toArray.size=T5.length:=vs.length.trans (Zu ..);have l2:items2.toArray.size=T4.length:=M'.length.trans (Zu ..);by_cases hsz:T5.length=T4.length
 ·refine eq_listAt hl o_ (l1.trans (hsz.trans l2.symm)) hA.ult (yq (A:=A.in1) (Gp (by have:=hA.u;show A.units+1<cLine;omega) S.frozen) (items:=items.toArray) (items2:=items2.toArray) vs M' hsz) ?_;rw[l1,sR T5 T4 hsz];exact hQ _ _ s Z st h S (.bool _) .refl
 ·refine eq_list_lengthsAt hl o_ (bne_iff_ne.mpr fun e=>hsz (l1.symm.trans (e.trans l2))) hA.ult ?_;rw[decide_eq_false (fun e=>hsz (by rw[e]))] at h;exact hQ _ _ s Z st h S (.bool _) .refl
end
end
noncomputable def yY:List Int->Nat
 | []=>0
 |x::_=>x.natAbs
noncomputable def kG(C2:List Int):Nat:=yY C2 % 6
noncomputable def dF(C2:List Int):List Str×List Str:=if C2.length % 2=0 then ([MD],[MC]) else ([],[])
noncomputable def df(x:Int):List Str:=t5 (x.natAbs / 3 % 4+1) (gW (x.natAbs / 12))
noncomputable def fo(a:List Str)(x:Int):List Str:=if x.natAbs % 3≠2 then a++df x else a
noncomputable def fP(b:List Str)(x:Int):List Str:=if x.natAbs % 3≠1 then b++df x else b
noncomputable def gO(C2:List Int):List Int:=(C2.drop 1).take 62
noncomputable def dm(C2:List Int):List Str:=(gO C2).foldl fo (dF C2).1
noncomputable def dh(C2:List Int):List Str:=(gO C2).foldl fP (dF C2).2
noncomputable abbrev nR(C2:List Int)(v1 va vb vx vl v2 v3 v4 v5 v6 v7 v8 v9 Q8 Q7:AV:=.any):List (Str×AV) :=
 [(MF,.lst (C2.map .int)),(lW,v1),(dG,va),(du,vb),(vy,vx),(MB,vl),(Mz,v2),(My,v3),(Mx,v4),(Mw,v5),(Mv,v6),(q1,v7),(Mu,v8),(Mt,v9),(uY,Q8),(Ms,Q7)]
theorem Qy(x:Nat):(gW x).length<=4:=by show (eX 4 x).toArray.size<=4;rw[List.size_toArray];exact Qz 4 x
theorem EO(x:Int):(df x).length<=4:=by
 have h4:x.natAbs / 3 % 4<4:=Nat.mod_lt _ (by decide);rw[df,B4];exact h4
theorem BI(C2:List Int):(gO C2).length<=62:=by unfold gO;rw[List.length_take];exact Nat.min_le_left ..
theorem uc(C2:List Int):(dF C2).1.length<=1/\(dF C2).2.length<=1:=by unfold dF;split <;> exact⟨by decide,by decide⟩
structure Â (C2 ys:List Int) (a b:List Str):Prop where
 fa:ys.foldl fo a=dm C2
 fb:ys.foldl fP b=dh C2
 la:a.length+4 * ys.length<=249
 lb:b.length+4 * ys.length<=249
theorem Â.start(C2:List Int):Â C2 (gO C2) (dF C2).1 (dF C2).2:=by
 have h:=BI C2;have h2:=uc C2;exact⟨rfl,rfl,by omega,by omega⟩
theorem Ho{p:Prop}[Decidable p](a:List Str)(y:Int):(if p then a++df y else a).length<=a.length+4:=by
 have:=EO y;split
 ·rw[ZA];omega
 ·omega
theorem Hs(a:List Str)(y:Int):(fo a y).length<=a.length+4:=Ho a y
theorem Hr(a:List Str)(y:Int):(fP a y).length<=a.length+4:=Ho a y
section
variable{C2 ys:List Int}{y:Int}{a b:List Str}
theorem Â.step(h:Â C2 (y::ys) a b):Â C2 ys (fo a y) (fP b y):=by
 have h1:=Hs a y;have h2:=Hr b y;have h3:=h.la;have h4:=h.lb;rw[Zz] at h3 h4;exact⟨h.fa,h.fb,by omega,by omega⟩
theorem Wk(c:(y.natAbs % 3:Nat)≠(2:Int)):a.map AV.str++(df y).map .str=(fo a y).map .str:=by rw[fo,if_pos (fun e=>c (by rw[e];rfl)),ZT]
theorem Wl(c:(y.natAbs % 3:Nat)=(2:Int)):a.map AV.str=(fo a y).map .str:=by rw[fo,if_neg (fun e=>e (Int.ofNat.inj c))]
theorem Wi(c:(y.natAbs % 3:Nat)≠(1:Int)):a.map AV.str++(df y).map .str=(fP a y).map .str:=by rw[fP,if_pos (fun e=>c (by rw[e];rfl)),ZT]
theorem Wj(c:(y.natAbs % 3:Nat)=(1:Int)):a.map AV.str=(fP a y).map .str:=by rw[fP,if_neg (fun e=>e (Int.ofNat.inj c))]
theorem Qw:(t5 ((y.natAbs / 3 % 4:Nat)+1:Int).toNat [AV.str (gW (y.natAbs / 12))]).flatten=(df y).map .str:=by
 rw[show ((y.natAbs / 3 % 4:Nat)+1:Int).toNat=y.natAbs / 3 % 4+1 from rfl,PyProof.Rows.lm_rep_flat_one,df,List.map_replicate]
end
theorem yS{f:List Str->Int->List Str}(hf:∀a y,(f a y).length<=a.length+4):∀(xs:List Int) (a:List Str),a.length+4 * xs.length<=249->(xs.foldl f a).length<=249
 | [],_,h=>h
 |x::xs,a,h=>yS hf xs _ (by have:=hf a x;rw[Zz] at h;omega)
theorem zr(C2:List Int):(dm C2).length<=249:=yS Hs _ _ (Â.start C2).la
theorem zm(C2:List Int):(dh C2).length<=249:=yS Hr _ _ (Â.start C2).lb
noncomputable abbrev N7:aa:=[(271,jF lV)]
theorem G5.push{N l:aa}(h:G5 N l)(p:b0×D9):G5 N (p::l):=fun q hq=>Zt _ (h q hq)
theorem Q1.drop2{p q:b0×D9}{l:aa}:Q1 (p::q::l) l:=⟨[p,q],.refl _⟩
theorem Ym{a:Int}(e:a.natAbs=n)(h:K (.int n) st):FC C0 w A B C1 (.blt "abs") [.int a] [] st K:=by subst e;exact oL h
theorem Sa(c:(!decide (C2=[]))=true):(C2.map AV.int)[(0:Int).toNat]?=some (.int (C2.headD 0)):=by
 cases C2 with
 |nil=>cases c
 |cons x xs=>rfl
theorem TR(C2:List Int):(C2.headD 0).natAbs=yY C2:=by cases C2 <;> rfl
theorem TQ(c:(!decide (C2=[]))=false):kG C2=0:=by
 cases C2 with
 |nil=>rfl
 |cons x xs=>cases c
theorem Ka(h:(((C2.map AV.int).length % 2:Nat):Int)=0):dF C2=([MD],[MC]):=if_pos (by rw[Zu] at h;exact Int.ofNat.inj h)
theorem Kb(h1:(((C2.map AV.int).length % 2:Nat):Int)≠0):dF C2=([],[]):=if_neg (by rw[Zu] at h1;exact fun e=>h1 (congrArg Int.ofNat e))
theorem Yu{x:Int}(hl:F4 st.led v xs)(h0:0<=x)(h1:x<2^20)(hsz:xs.length * x.toNat<=2^24)(e:(t5 x.toNat xs).flatten=ys)
  (h:∀a,a∉keys st.led->K (.ref a) ⟨st.loc,(a,.list ys)::st.led⟩):F2 C0 w A B C1 Val (binaryOp .Mult) v (.int x) st K:=by subst e;exact Yv hl h0 h1 hsz h
section
variable(C2:List Int)(al bl:b0)(y:Int)(a b:List Str)(l gl G0:aa)
noncomputable abbrev fG(va vb vx vl v2 v3 v4 v5 v6 v7 v8 v9 Q8 Q7:AV:=.any):List (Str×AV):=nR C2 (.int (kG C2:Nat)) va vb vx vl v2 v3 v4 v5 v6 v7 v8 v9 Q8 Q7
def Xl(P:St->Prop):Prop:=∀l,P ⟨fG C2,l++G0⟩
def Xk(P:St->Prop):Prop:=∀al bl,P ⟨fG C2 (.ref al) (.ref bl),(bl,.list ((dF C2).2.map .str))::(al,.list ((dF C2).1.map .str))::G0⟩
def ś(ys:List Int)(P:St->Prop):Prop:=∀a b l,Â C2 ys a b->G5 N7 l->P ⟨fG C2 (.ref al) (.ref bl),(bl,.list (b.map .str))::(al,.list (a.map .str))::l⟩
def HV(P:St->Prop):Prop:=∀l,G5 N7 l->P ⟨fG C2 (.ref al) (.ref bl),(bl,.list ((dh C2).map .str))::(al,.list ((dm C2).map .str))::l⟩
theorem ś.nil:ś C2 al bl [] (Nx (HV C2 al bl) .next):=fun a b l h hN =>
 .mkE (fun O y=>y l hN) (by rw[show a=dm C2 from h.fa,show b=dh C2 from h.fb]) @_
def Xj(P:St->Prop):Prop:=∀õ Ç X1 X2,P ⟨fG C2 (.ref al) (.ref bl) (.int y) (.ref Ç),(Ç,X2)::(õ,X1)::(((bl,.list ((fP b y).map .str))::(al,.list ((fo a y).map .str))::l)++gl)⟩
end
noncomputable abbrev cQ(w:ZQ)(L:b0):Env:=bf (ap (fC w.params)) L 316 315
theorem QQ{L:b0}{led:aa}{K:D4->St->Prop}(D0:D6 A 397)(hs:C2.length<=63)(hN:G5 N7 led)
  (k:∀l,G5 N7 l->T af w A (ak w) (cQ w L) E1 (execs ((bo (aE 16)).drop 3) (cQ w L)) ⟨fG C2 (.lst ((dm C2).map .str)) (.lst ((dh C2).map .str)),l⟩ K) :
  T af w A (ak w) (cQ w L) E1 (execs (bo (aE 16)) (cQ w L)) ⟨nR C2,led⟩ K:=by
 have hh:=D0.h;have hG:=((((((gk w A (ap (fC w.params)) L 316 315 @_ @_ hh).g (SU w) @_ @_).g (gY w) @_ @_).g (SJ w) @_ @_).f (f:=297) (bS @_)).m ⟨MA,1, "list.extend"⟩ F.plainAttrs_list Bj F.type_list_extend);refine aB (T.join (Xl C2 led) (aF hG 20 (C6.mk (cR rfl fun nn m_=>C6.mk (oM (f:=AV.int) Us (as:=C2) (bs:=[]) (D0.mono ⋯) .frz (.own (Zr ..)) (bK (fun c=>?_) fun c=>?_))))) fun l=>?_)
 ·exact C6.mk (ee (x:=.int (C2.headD 0)) .frz (by decide) (by decide) (Sa c) (C6.mk (Ym (TR C2) (C6.mk (lx (a:=yY C2) (b:=6) (by decide) (.mk (fun O y=>y [(nn,.list [])]) @_))))))
 ·exact .mk (fun O y=>y [(nn,.list [])]) (by rw[fG,TQ c];kernel_rfl)
 have Η:G5 N7 (l++led):=fun p hp=>ZY _ (hN p hp);generalize l++led=G0 at Η;refine aB (T.join (Xk C2 G0) (ec rfl rfl rfl (ad hG 40 (C6.mk (gB (xs:=C2.map .int) .frz (by rw[Zu];omega) (C6.mk (lx (a:=(C2.map AV.int).length) (b:=2) (by decide) (mh (fun c=>?_) fun c=>?_))))))) fun al bl=>?_)
 ·have e:=Ka c;exact C6.mk (jq (bP hG 5 ⟨by decide,fun al N4=>C6.mk (jq (bP hG 5 ⟨by decide,fun bl T9=>dK hh @_ @_ @_ (cY _ rfl _ _ rfl rfl (.mkE (fun O y=>y al bl) (by rw[e];rfl) @_))⟩))⟩))
 ·have e:=Kb c;exact C6.mk (cR rfl fun al N4=>C6.mk (cR rfl fun bl T9=>dK hh @_ @_ @_ (cY _ rfl _ _ rfl rfl (.mkE (fun O y=>y al bl) (by rw[e];rfl) @_))))
 refine aB (T.join (HV C2 al bl) (oE (k:=5) AV.int (ś C2 al bl) (D0.mono ⋯) (HG (fun O O=>@_) (ad hG 5 (ad hG 5 (ad hG 5 ⟨C2.map .int,1,63,.frz,rfl,rfl,by decide,by rw[Zu];exact d7 hs (by decide),?_⟩)))) ?_ (ś.nil _ _ _) fun O=>@_) fun l Ī=>?_)
 ·rw[← List.map_drop,← List.map_take];exact eH (k:=5) fun it gl hI => .mk hI (.mk (fun O y=>y _ _ _ (Â.start C2) Η) @_)
 ·intro gl y ys a b l h hN4;refine⟨rfl,T.joinW (Xj C2 al bl y a b l gl) ?_ fun õ Ç X1 X2=>⟨_,Q1.drop2,.next (.mk (fun O y=>y _ _ _ h.step hN4) @_)⟩⟩;have h3:=Nat.mod_lt (y.natAbs / 3) (show 4 > 0 by decide);refine aB (aF hG 40 (C6.mk (jq (bP hG 20 ?_))));refine C6.mk (oL (C6.mk (zV (a:=y.natAbs) (b:=12) (by decide) (by decide) (C6.mk (eG (QR (D0.mono ⋯)) ⟨(by decide:1<=c9),fun õ h1=>?_⟩)))));refine C6.mk (oL (C6.mk (zV (a:=y.natAbs) (b:=3) (by decide) (by decide) (C6.mk (lx (a:=y.natAbs / 3) (b:=4) (by decide) ?_)))));refine C6.mk (Yu (xs:=[.str (gW (y.natAbs / 12))]) (ys:=(df y).map .str) (.own (Zr ..)) ⋯ ⋯ (by simp only[Zz,ZR];omega) Qw fun Ç hln2=>?_);have hl4:=EO y;have O':=h.la;have ō:=h.lb;refine aB (T.join (KW (fG C2 (.ref al) (.ref bl) (.int y) (.ref Ç)) (fun o=>(Ç,.list ((df y).map .str))::(õ,.list [.str (gW (y.natAbs / 12))])::(((bl,.list (b.map .str))::(al,o)::l)++gl)) ((fo a y).map .str)) (aF hG 40 (C6.mk (oL (C6.mk (lx (a:=y.natAbs) (b:=3) (by decide) (pO (fun c=>⟨bz (xs:=a.map .str) (by repeat constructor),C6.mk (lu (xs:=a.map .str) (ys:=(df y).map .str) (.own (Zr ..)) (by simp only[Zu];omega) (by repeat constructor) (KW.mk (Wk c) @_ rfl))⟩) fun c=>KW.mk (Wl c) @_ rfl)))))) ?_);refine bx hG 40 (C6.mk (oL (C6.mk (lx (a:=y.natAbs) (b:=3) (by decide) (pO (fun c=>⟨bz (xs:=b.map .str) (by repeat constructor),C6.mk (lu (xs:=b.map .str) (ys:=(df y).map .str) (.own (Zr ..)) (by simp only[Zu];omega) (by repeat constructor) ?_)⟩) fun c=>?_)))))
  ·exact .mkE (fun O y=>y õ Ç _ _) (by rw[Wi (a:=b) c];rfl) @_
  ·exact .mkE (fun O y=>y õ Ç _ _) (by rw[Wj (a:=b) c]) @_
 ·exact T.freeze (a:=bl) (xs:=(dh C2).map .str) (D8:=fG C2 (.ref al) (.lst ((dh C2).map .str))) (by repeat constructor) (T.freeze (a:=al) (xs:=(dm C2).map .str) (D8:=fG C2 (.lst ((dm C2).map .str)) (.lst ((dh C2).map .str))) (by repeat constructor) (k l Ī))
theorem Ad{γ:Type}(f:α->β)(h:α->γ):∀(g:List α),(g.map f).zip (g.map h)=g.map fun o=>(f o,h o)
 | []=>rfl
 |_::g=>by rw[ZD,ZD,u7,Ad f h g,ZD]
theorem zd{f:β->AV}{g:β->Option AV}{xs:List β}{p:Pos}{elt:Expr}{K9:List Expr}{scope:Scope}{vars:List Str}{K:List AV->St->Prop}(e:(xs.map g).filterMap id=ys)(hsz:xs.length<=c9)
  (hs:∀L,∀y∈xs,oT C0 w A B (compEnvC scope [] L C1) (.Name x p) elt K9 [] J (f y) (g y)) (h:K ys st):F1 C0 w A B C1 Val pyIter (.lst (xs.map f)) st fun u F9=>Ac C0 w A B C1 k [] vars scope [] elt (.Name x p) K9 J K u F9 :=
 Im fun it gl hI hS=>⟨it,gl,_,xs.map f,xs.map g,rfl,rfl,hI _ _,hS _,.nil,by rw[Zu,Zu],by rw[Zu];exact hsz,fun L p hp=>by
  rw[Ad] at hp;refine ae (ZV.mp hp) fun y hy O3=>?_;subst O3;exact hs L y hy,e▸h⟩
theorem Be{γ:Type}(f:γ->AV)(g:β->γ)(xs:List β):(xs.map fun y=>some (f (g y))).filterMap id=(xs.map g).map f:=by rw[A5,m4];exact List.filterMap_eq_map▸rfl
noncomputable def av(x:Str):Str:=Ng++x
theorem Kl(x:Str):(av x).length=1+x.length:=Str.length_append ..
theorem pw{a:List Str}(h:∀y∈a,y.length<=4)(x:Str)(hx:x∈a.map av):x.length<10^4:=by
 refine ae (ZV.mp hx) fun y hy e=>?_;rw[← e,Kl]
 have:=h y hy;omega
noncomputable abbrev ei(a b:List Str)(n:Nat):List Str:=dk a b ag ag ag ag aN false (aI n (bR (aQ (aM a b) a.length b.length)))
noncomputable abbrev bD(a b:List Str)(n:Nat):List Str:=cE a b ag ag ag ag aN false (aI n (bR (aQ (aM a b) a.length b.length)))
section
variable(C2:List Int)(n:Nat)(a b:List Str)
noncomputable abbrev eW(v4 v5 v6 v7 v8 v9 Q8 Q7:AV:=.any):List (Str×AV):=nR C2 (.int n) (.lst (a.map .str)) (.lst (b.map .str)) .any .any (.lst ((a.map av).map .str)) (.lst ((b.map av).map .str)) v4 v5 v6 v7 v8 v9 Q8 Q7
end
theorem QT{a b:List Str}{L:b0}{led:aa}{K:D4->St->Prop}(D0:D6 A 397)(hN:G5 N7 led)(N4:a.length<=249)(T9:b.length<=249)(ĩ:∀y∈a,y.length<=4)(ħ:∀y∈b,y.length<=4)
  (L7:(aY (aM (a.map av) (b.map av)) (0,(a.map av).length,0,(b.map av).length)).length<64) (hU:(ei (a.map av) (b.map av) (a.length+b.length)).length<=2^20)
  (k:∀l,G5 N7 l->T af w A (ak w) (cQ w L) E1 (execs ((bo (aE 16)).drop 6) (cQ w L)) ⟨eW C2 n a b (.lst ((ei (a.map av) (b.map av) (a.length+b.length)).map .str)),l⟩ K) :
  T af w A (ak w) (cQ w L) E1 (execs ((bo (aE 16)).drop 3) (cQ w L)) ⟨nR C2 (.int n) (.lst (a.map .str)) (.lst (b.map .str)),led⟩ K:=by
 have hh:=D0.h;have h20:∀n:Nat,n<=249->n<=c9:=fun n h=>d7 h (by decide);have hG:=((((gk w A (ap (fC w.params)) L 316 315 @_ @_ hh).g (gY w) @_ @_).g (sp w) @_ @_).g (FH w) @_ @_).f (f:=261) (bS @_);refine aB (Hz (k:=5) (N:=[]) (cl:=[]) (J:=fun loc=>∃v,loc=[(lY,v)]) [lY] @_ (D0.mono ⋯) (B1 (by decide)) @_ @_ @_ @_ (fun O=>@_) ⟨_,rfl⟩ (ad hG 20 (zd (g:=fun y=>some (.str (av y))) (Be AV.str av _) (h20 _ N4) (fun L2 y hy=>?_) fun D hD=>bp rfl (T.freeze (a:=D) (xs:=(a.map av).map .str) (by repeat constructor) ?_))))
 ·intro loc Y2;refine aw Y2 fun v Ļ=>?_;clear Y2;subst Ļ;intro led' F6
  have:=ĩ y hy;exact cx (bp rfl (Hw (ad (jm @_ @_ @_ @_ hh) 20 (C6.mk (gE (by show 1+y.length<_;omega) ⟨rfl,rfl,_,rfl⟩)))))
 refine aB (Hz (k:=5) (N:=[]) (cl:=[]) (J:=fun loc=>∃v,loc=[(lY,v)]) [lY] @_ (D0.mono ⋯) (B1 (by decide)) @_ @_ @_ @_ (fun O=>@_) ⟨_,rfl⟩ (ad hG 20 (zd (g:=fun y=>some (.str (av y))) (Be AV.str av _) (h20 _ T9) (fun L2 y hy=>?_) fun D hD=>bp rfl (T.freeze (a:=D) (xs:=(b.map av).map .str) (by repeat constructor) ?_))))
 ·intro loc Y2;refine aw Y2 fun v Ļ=>?_;clear Y2;subst Ļ;intro led' F6
  have:=ħ y hy;exact cx (bp rfl (Hw (ad (jm @_ @_ @_ @_ hh) 20 (C6.mk (gE (by show 1+y.length<_;omega) ⟨rfl,rfl,_,rfl⟩)))))
 refine aB (aF hG 40 (C6.mk ?_));refine zF ?_ ?_ ?_
 ·kernel_rfl
 ·rfl
 refine ad hG 5 ⟨bS @_,bP hG 5 (ad hG 20 (C6.mk (gB .frz (by rw[Zu];omega) (C6.mk (gB .frz (by rw[Zu];omega) ?_)))))⟩;rw[Zu,Zu];refine gC (led:=led) (Au (n:=a.length+b.length) GX (D0.mono ⋯) ⋯ (by rw[Zu];omega) (by rw[Zu];omega) (by decide) (by decide) (by decide) (by decide) (by decide) (pw ĩ) (pw ħ) L7) fun ga gn gs gl N3=>C6.mk (gA (bA w) (D0.mono ⋯) hN N3 ?_ ?_)
 ·rw[Zu];exact d7 hU (by decide)
 ·exact k led hN
theorem zT{T5 T4:List (List Str)}(hA:D6 A 5)(e:T5=T4)(h:K (.bool false) st):F2 C0 w A B C1 Val (u0 .NotEq) (.lst (T5.map cA)) (.lst (T4.map cA)) st K :=
 Yr hA (by rw[decide_eq_true e];exact h)
noncomputable def cm(C5:List Str):List (List Str):=[aL eN C5,aL eM C5]
noncomputable def gx(r:Str):Bool := !decide (dA r=32)
noncomputable def lC(n:Nat)(R:List Str)(k:Nat):List Str:=((R.drop (k-n)).take (k+n+1-(k-n))).filter gx
noncomputable def eU(n:Nat)(R:List Str)(k:Nat):Option Str:=if lC n R k=[] then none else R[k]?
noncomputable def eV(n:Nat)(R:List Str):List Str:=(g9 0 R.length).filterMap (eU n R)
section
variable(C2:List Int)(n:Nat)(a b:List Str)(U:List Str)
theorem QV{L:b0}{led:aa}{K:D4->St->Prop}(D0:D6 A 397)(hN:G5 N7 led)(hU:U.length<=10^6)(hUl:∀r∈U,r.length<2^20)
  (hM:cm U=if a=b then [[],[]] else [a,b])
  (k:∀l nr,G5 N7 l->T af w A (ak w) (cQ w L) E1 (execs ((bo (aE 16)).drop 9) (cQ w L)) ⟨eW C2 n a b (.lst (U.map .str)) (.lst ((U.drop 3).map .str)) (.ref nr),(nr,.list [])::l⟩ K) :
  T af w A (ak w) (cQ w L) E1 (execs ((bo (aE 16)).drop 6) (cQ w L)) ⟨eW C2 n a b (.lst (U.map .str)),led⟩ K:=by
 have hh:=D0.h;have hG:=(((gk w A (ap (fC w.params)) L 316 315 @_ @_ hh).g (FM w) @_ @_).f (f:=311) (bS @_));refine aB (T.join (fun P=>P ⟨eW C2 n a b (.lst (U.map .str)),led⟩) (aF hG 40 (C6.mk (eG (sc (D0.mono ⋯) hU hUl) (C6.mk (oM (f:=AV.str) oo (as:=a) (bs:=b) (D0.mono ⋯) .frz .frz (bK (fun c=>?_) fun c=>?_)))))) ?_)
 ·refine C6.mk (lq (bP hG 20 ⟨(by decide:2<=c9),?_⟩));exact C6.mk (zT (T5:=cm U) (T4:=[a,b]) (D0.mono ⋯) (hM.trans (if_neg (by simpa using c))) (.mk (fun O y=>y) @_))
 ·refine C6.mk (lq (bP hG 20 (C6.mk (lq (bP hG 5 ⟨ZM _,C6.mk (lq (bP hG 5 ⟨ZM _,(by decide:2<=c9),?_⟩))⟩)))));exact C6.mk (zT (T5:=cm U) (T4:=[[],[]]) (D0.mono ⋯) (hM.trans (if_pos (by simpa using c))) (.mk (fun O y=>y) @_))
 ·refine aB (aF hG 20 (C6.mk (WI (fun O O=>rfl) (ad hG 20 (ad hG 20 ⟨U.map .str,3,.frz,rfl,by rw[Zu];exact d7 hU (by decide),?_⟩)))));rw[← List.map_drop];exact aB (aF hG 20 (C6.mk (cR rfl fun nr hnr=>k led nr hN)))
end
theorem PJ(k n:Nat):max (0:Int) ((k:Int)-(n:Int))=((k-n:Nat):Int):=by omega
noncomputable def yK(r:Str):Option AV:=if gx r=true then some (.str r) else none
theorem SY(xs:List Str):(xs.map yK).filterMap id=(xs.filter gx).map .str:=by
 induction xs with
 |nil=>rfl
 |cons x xs ih =>
  rw[ZD,k9,List.filter_cons];unfold yK at *;cases gx x with
  |true=>exact congrArg (AV.str x :: ·) ih
  |false=>exact ih
theorem TK(f:α->Option β)(x:α)(xs:List α):(x::xs).filterMap f=(f x).toList++xs.filterMap f:=by
 rw[k9];cases f x <;> rfl
theorem GG:((⟨#[dA y]⟩:Str) != Ng)=gx y:=congrArg not vK
theorem xU(n:Nat)(R:List Str):(eV n R).length<=R.length:=d7 (List.length_filterMap_le ..) (Nat.le_of_eq List.length_range')
theorem Pb{R:List Str}(h:k<R.length)(c:(!decide (lC n R k=[]))=true):eU n R k=some R[k]:=by
 unfold eU;rw[if_neg (by simpa using c),ZU h]
theorem Pd{R:List Str}(c:(!decide (lC n R k=[]))=false):eU n R k=none:=by
 unfold eU;rw[if_pos (by simpa using c)]
section
variable(C2:List Int)(n:Nat)(a b U R:List Str)(nr:b0)(acc:List Str)(k:Nat)(l gl:aa)
def Xs(ks:List Nat)(P:St->Prop):Prop:=∀acc l v,acc++ks.filterMap (eU n R)=eV n R->(∀i∈ks,i<R.length)->G5 N7 l->P ⟨eW C2 n a b (.lst (U.map .str)) (.lst (R.map .str)) (.ref nr) v,(nr,.list (acc.map .str))::l⟩
def Xh(P:St->Prop):Prop:=∀l,G5 N7 l->P ⟨eW C2 n a b (.lst (U.map .str)) (.lst (R.map .str)) (.ref nr),(nr,.list ((eV n R).map .str))::l⟩
def Xg(P:St->Prop):Prop:=∀d1 d2 X1 X2,P ⟨eW C2 n a b (.lst (U.map .str)) (.lst (R.map .str)) (.ref nr) (.int k),(d2,X2)::(d1,X1)::(((nr,.list ((acc++(eU n R k).toList).map .str))::l)++gl)⟩
end
theorem QP{a b U R:List Str}{nr:b0}{L:b0}{led:aa}{K:D4->St->Prop}(D0:D6 A 397)(hN:G5 N7 led)(hn:n<10^5)(hR:R.length<=10^6)(hRl:∀r∈R,r.cps.toList≠[])
  (h:∀l,G5 N7 l->T af w A (ak w) (cQ w L) E1 (execs ((bo (aE 16)).drop 10) (cQ w L)) ⟨eW C2 n a b (.lst (U.map .str)) (.lst (R.map .str)) (.lst ((eV n R).map .str)),l⟩ K) :
  T af w A (ak w) (cQ w L) E1 (execs ((bo (aE 16)).drop 9) (cQ w L)) ⟨eW C2 n a b (.lst (U.map .str)) (.lst (R.map .str)) (.ref nr),(nr,.list [])::led⟩ K:=by
 have hh:=D0.h;have hG:=((((gk w A (ap (fC w.params)) L 316 315 @_ @_ hh).g (gY w) @_ @_).g (FK w) @_ @_).g (FL w) @_ @_).m ⟨Mg,1, "list.append"⟩ F.plainAttrs_list jH F.type_list_append;refine aB (T.join (Xh C2 n a b U R nr) (oE (k:=5) (fun i:Nat=>AV.int (i:Int)) (Xs C2 n a b U R nr) (D0.mono ⋯) (ad hG 20 ?_) ?_ ?_ fun O=>@_) fun l Ī=>?_)
 ·refine C6.mk (gB .frz (by rw[Zu];omega) ?_);rw[Zu];exact C6.mk (XQ (Il ⋯ ⋯ ⋯ ⋯ fun it gl hI => .mk ((show eP 0 (R.length:Int)=(g9 0 R.length).map fun i:Nat=>AV.int (i:Int) from BF 0 R.length)▸hI) (.mk (fun O y=>y [] led .any rfl (fun i hi=>Nat.lt_of_lt_of_eq (List.mem_range'_1.mp hi).2 (Nat.zero_add _)) hN) @_)))
 ·intro gl k ks acc l v e hk Η;have hkl:=hk k (Zr ..);refine⟨rfl,T.joinW (Xg C2 n a b U R nr acc k l gl) ?_ fun d1 d2 X1 X2=>⟨_,Q1.drop2,.next (.mk (fun O y=>y (acc++(eU n R k).toList) l (.int k) (by rw[ZW,← TK];exact e) (fun i hi=>hk i (Zt _ hi)) Η) @_)⟩⟩;refine bx hG 60 (C6.mk (WJ (k:=5) (N:=[]) (cl:=[]) (J:=fun loc=>∃v,loc=[(Cp,v)]) [Cp] (D0.mono ⋯) (B1 (by decide)) @_ @_ @_ @_ (fun O=>@_) ⟨_,rfl⟩ (ad hG 40 (C6.mk (HG (fun O O=>rfl) (ad hG 20 (ad hG 20 (C6.mk (oK hh (ad hG 20 ?_))))))))));refine⟨R.map .str,k-n,k+n+1,.frz,congrArg AV.int (PJ k n),rfl,by omega,by rw[Zu];exact d7 hR (by decide),?_⟩;rw[← List.map_drop,← List.map_take];refine zd (g:=yK) (SY _) ?_ (fun L2 y hy=>?_) fun D hD=>?_
  ·rw[List.length_take,List.length_drop];exact d7 (d7 (Nat.min_le_right ..) (Nat.sub_le ..)) (d7 hR (by decide))
  ·intro loc Y2;refine aw Y2 fun v Ļ=>?_;clear Y2;subst Ļ;intro led' F6;have č:=hRl y (List.mem_of_mem_drop (List.mem_of_mem_take hy));exact cx (bp rfl (Wm (cb (jm @_ @_ @_ @_ hh) 20 (C6.mk (jv (i:=0) (by decide) (sq č) (yr (fun c=>ad (jm @_ @_ @_ @_ hh) 20 ⟨if_pos (GG.symm.trans c),rfl,_,rfl⟩) fun c=>⟨if_neg (show ¬ gx y=true by rw[GG.symm.trans c];exact d3),rfl,_,rfl⟩))))))
  ·have N4:acc.length<=10^6:=d7 (d7 (ZA▸Nat.le_add_right _ _) (Nat.le_of_eq (congrArg y6 e))) (d7 (xU n R) hR);refine C6.mk (cR rfl fun e1 he1=>C6.mk (oM (f:=AV.str) oo (as:=lC n R k) (bs:=[]) (D0.mono ⋯) (.own (Zt _ (Zr ..))) (.own (Zr ..)) (bK (fun c=>?_) fun c=>?_)))
   ·exact⟨bz (by repeat constructor),C6.mk (ee (x:=.str R[k]) .frz (Int.natCast_nonneg k) ⋯ (by rw[c8,d4,ZU hkl];rfl) (C6.mk (dn (xs:=acc.map .str) (by repeat constructor) (by rw[Zu,j7];omega) (.mkE (fun O q=>q D e1 _ _) (by rw[Pb hkl c,Option.toList_some,ZT];rfl) @_))))⟩
   ·exact .mkE (fun O q=>q D e1 _ _) (by rw[Pd c,Option.toList_none,g7]) @_
 ·intro acc l v e _ Η;cases(g7 acc).symm.trans e
  exact .mk (fun O q=>q l Η) @_
 ·exact T.freeze (a:=nr) (xs:=(eV n R).map .str) (D8:=eW C2 n a b (.lst (U.map .str)) (.lst (R.map .str)) (.lst ((eV n R).map .str))) (by repeat constructor) (h l Ī)
noncomputable abbrev cf(C:List Str):List (List Str×List Str):=(C.foldl bE ⟨[],none,0⟩).all
noncomputable def cO(p:List Str×List Str):List Str:=aL eN (if p.1=[] then p.2 else p.1)
noncomputable def cM(p:List Str×List Str):List Str:=aL eM (if p.2=[] then p.1 else p.2)
def PB(p:List Str×List Str):Prop:=(∀r∈p.1++p.2,r.length<2^20)/\p.1.length<=10^5/\p.2.length<=10^5
section
variable(C2:List Int)(n:Nat)(a b U R E:List Str)(al ar:b0)(Lf Rf P6 L9:List Str)(p:List Str×List Str)(l gl:aa)
noncomputable abbrev gV(v8 v9 Q8 Q7:AV:=.any):List (Str×AV):=eW C2 n a b (.lst (U.map .str)) (.lst (R.map .str)) (.lst (E.map .str)) .any v8 v9 Q8 Q7
def Xw(ps:List (List Str×List Str))(P:St->Prop):Prop:=∀P6 L9 l Q8 Q7,P6++ps.flatMap cO=Lf->L9++ps.flatMap cM=Rf->(∀q∈ps,PB q)->G5 N7 l->P ⟨gV C2 n a b U R E (.ref al) (.ref ar) Q8 Q7,(ar,.list (L9.map .str))::(al,.list (P6.map .str))::l⟩
def Xn(P:St->Prop):Prop:=∀l,G5 N7 l->P ⟨gV C2 n a b U R E (.ref al) (.ref ar),(ar,.list (Rf.map .str))::(al,.list (Lf.map .str))::l⟩
def Xq(P:St->Prop):Prop:=∀d X,P ⟨gV C2 n a b U R E (.ref al) (.ref ar) (cA p.1) (cA p.2),(d,X)::(((ar,.list (L9.map .str))::(al,.list ((P6++cO p).map .str))::l)++gl)⟩
def Xp(P:St->Prop):Prop:=∀d X d' X',P ⟨gV C2 n a b U R E (.ref al) (.ref ar) (cA p.1) (cA p.2),(d',X')::(d,X)::(((ar,.list ((L9++cM p).map .str))::(al,.list ((P6++cO p).map .str))::l)++gl)⟩
end
theorem YL{T5 T4:List (List Str)}(hA:D6 A 5)(e:T5=T4)(h:K (.bool true) st):F2 C0 w A B C1 Val (u0 .Eq) (.lst (T5.map cA)) (.lst (T4.map cA)) st K :=
 YM hA (by rw[decide_eq_true e];exact h)
theorem ER{p:List Str×List Str}(c:(!decide (p.1=[]))=true):cO p=aL eN p.1:=by unfold cO;rw[if_neg (by simpa using c)]
theorem ES{p:List Str×List Str}(c:(!decide (p.1=[]))=false):cO p=aL eN p.2:=by unfold cO;rw[if_pos (by simpa using c)]
theorem BG{p:List Str×List Str}(c:(!decide (p.2=[]))=true):cM p=aL eM p.2:=by unfold cM;rw[if_neg (by simpa using c)]
theorem BH{p:List Str×List Str}(c:(!decide (p.2=[]))=false):cM p=aL eM p.1:=by unfold cM;rw[if_pos (by simpa using c)]
theorem hsz(t:Str)(xs:List Str)(h:xs.length<=10^5):((aL t xs).map AV.str).length<=c9:=by rw[Zu];exact d7 (d7 (jK t xs) h) (by decide)
theorem EQ{f:α->List β}{x:α}{xs:List α}{acc M_:List β}(e:acc++(x::xs).flatMap f=M_):acc.length+(f x).length<=M_.length:=by
 rw[← e,List.flatMap_cons,ZA,ZA];omega
theorem QU{a b U R E:List Str}{L:b0}{led:aa}{K:D4->St->Prop}(D0:D6 A 397)(hN:G5 N7 led)(hn:n<10^5)(N4:a.length<=249)(T9:b.length<=249)(ĩ:∀y∈a,y.length<=4)(ħ:∀y∈b,y.length<=4)
  (L7:(aY (aM (a.map av) (b.map av)) (0,(a.map av).length,0,(b.map av).length)).length<64) (ĕ:(aY (aM a b) (0,a.length,0,b.length)).length<64)
  (hV:(ei (a.map av) (b.map av) n).length<=10^6) (hVl:∀r∈ei (a.map av) (b.map av) n,r.length<2^20) (hE:E.length<=10^6) (hEl:∀r∈E,r.length<2^20)
  (hC:(bD a b n).length<=10^5) (hCl:∀r∈bD a b n,r.cps.toList≠[]/\r.length<10^5) (G_:jl ⟨[],none,0⟩ (bD a b n))
  (hP:∀p∈cf (bD a b n),PB p)
  (hM2:cm (ei (a.map av) (b.map av) n)=cm E) (hM3:[(cf (bD a b n)).flatMap cO,(cf (bD a b n)).flatMap cM]=cm E)
  (hK:∀st,G5 N7 st.led->K (.ret (.bool true)) st) :
  T af w A (ak w) (cQ w L) E1 (execs ((bo (aE 16)).drop 10) (cQ w L)) ⟨gV C2 n a b U R E,led⟩ K:=by
 have hh:=D0.h;have hG:=((((((((((gk w A (ap (fC w.params)) L 316 315 @_ @_ hh).g (sp w) @_ @_).g (FM w) @_ @_).g (SK w) @_ @_).g (FJ w) @_ @_).g (FH w) @_ @_).g (SS w) @_ @_).f (f:=311) (bS @_)).f (f:=304) (bS @_)).f (f:=290) (bS @_)).m ⟨MA,1, "list.extend"⟩ F.plainAttrs_list Bj F.type_list_extend;have hLf:((cf (bD a b n)).flatMap cO).length<=10^6:=by
  rw[(p5 hM3).1];exact d7 (jK _ _) hE
 have hRf:((cf (bD a b n)).flatMap cM).length<=10^6:=by
  rw[(p5 (p5 hM3).2).1];exact d7 (jK _ _) hE
 refine aB (T.join (fun P=>P ⟨gV C2 n a b U R E,led⟩) (aF hG 40 (C6.mk (zF ?_ ?_ ?_))) ?_)
 ·kernel_rfl
 ·rfl
 ·refine ad hG 5 ⟨bS @_,bP hG 5 (ad hG 5 ?_)⟩;refine gC (led:=led) (Au (n:=n) GX (D0.mono ⋯) hn (by rw[Zu];omega) (by rw[Zu];omega) (by decide) (by decide) (by decide) (by decide) (by decide) (pw ĩ) (pw ħ) L7) fun ga gn gs gl N3=>C6.mk (gA (bA w) (D0.mono ⋯) hN N3 ?_ ?_)
  ·rw[Zu];exact d7 hV (by decide)
  ·exact C6.mk (eG (sc (D0.mono ⋯) hV hVl) (C6.mk (eG (sc (D0.mono ⋯) hE hEl) (C6.mk (zT (T5:=cm (ei (a.map av) (b.map av) n)) (T4:=cm E) (D0.mono ⋯) hM2 (.mk (fun O y=>y) @_))))))
 refine aB (aF hG 20 (C6.mk (cR rfl fun al N4=>aB (aF hG 20 (C6.mk (cR rfl fun ar har=>?_))))));refine aB (T.join (Xn C2 n a b U R E al ar ((cf (bD a b n)).flatMap cO) ((cf (bD a b n)).flatMap cM)) (oD (k:=5) dw (Xw C2 n a b U R E al ar ((cf (bD a b n)).flatMap cO) ((cf (bD a b n)).flatMap cM)) (D0.mono ⋯) (ad hG 20 ?_) ?_ ?_ fun O=>@_) fun l Ī=>?_)
 ·refine C6.mk (zF ?_ ?_ ?_)
  ·kernel_rfl
  ·rfl
  refine ad hG 5 ⟨bS @_,bP hG 5 (ad hG 5 ?_)⟩;refine gC (led:=(ar,.list [])::(al,.list [])::led) (UN (n:=n) (N:=N7) Vx (D0.mono ⋯) (Zr ..) hn ⋯ ⋯ (by decide) (by decide) (by decide) (by decide) (by decide) (fun x hx=>Nat.lt_of_le_of_lt (ĩ x hx) (by decide)) (fun x hx=>Nat.lt_of_le_of_lt (ħ x hx) (by decide)) ĕ) fun ga gn gs gl N3=>C6.mk (gA (bA w) (D0.mono ⋯) ((hN.push _).push _) N3 ?_ ?_)
  ·rw[Zu];exact d7 hC (by decide)
  ·refine C6.mk (eG (QS (D0.mono ⋯) hC hCl G_) ?_);exact eH (k:=5) fun it gl hI => .mk hI (.mk (fun O q=>q [] [] led .any .any rfl rfl hP hN) @_)
 ·intro gl p ps P6 L9 l Q8 Q7 eL eR hB Η;have hp:=hB p (Zr ..);have Đ:=d7 (EQ eL) hLf;have ď:=d7 (EQ eR) hRf;refine Zd hh (vs:=[cA p.1,cA p.2]) .frz @_ @_ @_ (cY _ rfl _ _ rfl rfl ?_);refine T.joinW (Xp C2 n a b U R E al ar P6 L9 p l gl) ?_ fun d X d' X'=>⟨_,Q1.drop2,.next (.mk (fun O q=>q (P6++cO p) (L9++cM p) l (cA p.1) (cA p.2) (by rw[← eL,List.flatMap_cons,ZW]) (by rw[← eR,List.flatMap_cons,ZW]) (fun r hr=>hB r (Zt _ hr)) Η) @_)⟩;refine aB (T.join (Xq C2 n a b U R E al ar P6 L9 p l gl) (aF hG 40 ⟨bz (by repeat constructor),C6.mk (cR rfl fun d hd=>C6.mk (oM (f:=AV.str) oo (as:=p.1) (bs:=[]) (D0.mono ⋯) .frz (.own (Zr ..)) (bK (fun c=>?_) fun c=>?_)))⟩) fun d X=>?_)
  ·refine C6.mk (gC (jJ (xs:=p.1) (N:=[]) (D0.mono ⋯) (.inl ⟨rfl,rfl⟩) (fun x hx=>hp.1 x (f8 _ hx))) fun ga gn gs gl' N3=>C6.mk (gA (bA w) (D0.mono ⋯) .nil N3 (hsz _ _ hp.2.1) (C6.mk (lu (xs:=P6.map .str) (ys:=(aL eN p.1).map .str) .frz ?_ (by repeat constructor) (.mkE (fun O q=>q d _) (by rw[ER c,ZT];rfl) @_)))));rw[Zu,Zu,← ER c];exact d7 Đ (by decide)
  ·refine C6.mk (gC (jJ (xs:=p.2) (N:=[]) (D0.mono ⋯) (.inl ⟨rfl,rfl⟩) (fun x hx=>hp.1 x (ZY _ hx))) fun ga gn gs gl' N3=>C6.mk (gA (bA w) (D0.mono ⋯) .nil N3 (hsz _ _ hp.2.2) (C6.mk (lu (xs:=P6.map .str) (ys:=(aL eN p.2).map .str) .frz ?_ (by repeat constructor) (.mkE (fun O q=>q d _) (by rw[ES c,ZT];rfl) @_)))));rw[Zu,Zu,← ES c];exact d7 Đ (by decide)
  ·refine bx hG 40 ⟨bz (by repeat constructor),C6.mk (cR rfl fun d' Ε=>C6.mk (oM (f:=AV.str) oo (as:=p.2) (bs:=[]) (D0.mono ⋯) .frz (.own (Zr ..)) (bK (fun c=>?_) fun c=>?_)))⟩
   ·refine C6.mk (gC (jJ (xs:=p.2) (N:=[]) (D0.mono ⋯) (.inr ⟨rfl,rfl⟩) (fun x hx=>hp.1 x (ZY _ hx))) fun ga gn gs gl' N3=>C6.mk (gA (bA w) (D0.mono ⋯) .nil N3 (hsz _ _ hp.2.2) (C6.mk (lu (xs:=L9.map .str) (ys:=(aL eM p.2).map .str) .frz ?_ (by repeat constructor) (.mkE (fun O q=>q d X d' _) (by rw[BG c,ZT (l₁:=L9)];rfl) @_)))));rw[Zu,Zu,← BG c];exact d7 ď (by decide)
   ·refine C6.mk (gC (jJ (xs:=p.1) (N:=[]) (D0.mono ⋯) (.inr ⟨rfl,rfl⟩) (fun x hx=>hp.1 x (f8 _ hx))) fun ga gn gs gl' N3=>C6.mk (gA (bA w) (D0.mono ⋯) .nil N3 (hsz _ _ hp.2.1) (C6.mk (lu (xs:=L9.map .str) (ys:=(aL eM p.1).map .str) .frz ?_ (by repeat constructor) (.mkE (fun O q=>q d X d' _) (by rw[BH c,ZT (l₁:=L9)];rfl) @_)))));rw[Zu,Zu,← BH c];exact d7 ď (by decide)
 ·intro P6 L9 l Q8 Q7 eL eR _ Η;cases(g7 P6).symm.trans eL
  cases(g7 L9).symm.trans eR
  exact .mk (fun O q=>q l Η) @_
 ·refine T.freeze (a:=ar) (xs:=((cf (bD a b n)).flatMap cM).map .str) (D8:=gV C2 n a b U R E (.ref al) (cA ((cf (bD a b n)).flatMap cM))) (by repeat constructor) (T.freeze (a:=al) (xs:=((cf (bD a b n)).flatMap cO).map .str) (D8:=gV C2 n a b U R E (cA ((cf (bD a b n)).flatMap cO)) (cA ((cf (bD a b n)).flatMap cM))) (by repeat constructor) ?_);refine aB (aF hG 40 (C6.mk (lq (bP hG 10 ⟨(by decide:2<=c9),C6.mk (eG (sc (D0.mono ⋯) hE hEl) (C6.mk (YL (T5:=[(cf (bD a b n)).flatMap cO,(cf (bD a b n)).flatMap cM]) (T4:=cm E) (D0.mono ⋯) hM3 (hK _ Ī))))⟩))))
noncomputable abbrev dW(a b:List Str):List Str:=ei (a.map av) (b.map av) (a.length+b.length)
noncomputable abbrev lh(n:Nat)(a b:List Str):List Str:=eV n ((dW a b).drop 3)
structure Ok7 (n:Nat) (a b:List Str):Prop where
 raw:(aY (aM (a.map av) (b.map av)) (0,(a.map av).length,0,(b.map av).length)).length<64
 raw2:(aY (aM a b) (0,a.length,0,b.length)).length<64
 lenU:∀k,(ei (a.map av) (b.map av) k).length<=10^6
 memU:∀k,∀r∈ei (a.map av) (b.map av) k,r.length<2^20
 neU:∀r∈(dW a b).drop 3,r.cps.toList≠[]
 lenC:(bD a b n).length<=10^5
 memC:∀r∈bD a b n,r.cps.toList≠[]/\r.length<10^5
 okC:jl ⟨[],none,0⟩ (bD a b n)
 okP:∀p∈cf (bD a b n),PB p
 m1:cm (dW a b)=if a=b then [[],[]] else [a,b]
 m2:cm (ei (a.map av) (b.map av) n)=cm (lh n a b)
 m3:[(cf (bD a b n)).flatMap cO,(cf (bD a b n)).flatMap cM]=cm (lh n a b)
theorem Pc{R:List Str}{r:Str}(h:eU n R k=some r):r∈R:=by
 unfold eU at h;split at h
 ·cases h
 ·exact List.mem_of_getElem? h
theorem Pe{R:List Str}{r:Str}(h:r∈eV n R):r∈R:=ae (List.mem_filterMap.mp h) fun k O e=>Pc e
theorem yR{f:List Str->Int->List Str}(hf:∀a x,(∀y∈a,y.length<=4)->∀y∈f a x,y.length<=4):∀(xs:List Int) (a:List Str),(∀y∈a,y.length<=4)->∀y∈xs.foldl f a,y.length<=4
 | [],a,h=>h
 |x::xs,a,h=>yR hf xs (f a x) (hf a x h)
theorem Qx{x:Int}:∀y∈df x,y.length<=4:=fun y hy=>by
 rw[(List.mem_replicate.mp hy).2];exact Qy _
theorem AX(C2:List Int):(∀y∈(dF C2).1,y.length<=4)/\(∀y∈(dF C2).2,y.length<=4):=by
 unfold dF;split <;> exact⟨by decide,by decide⟩
theorem Hn{p:Prop}[Decidable p]{a:List Str}{x:Int}(h:∀y∈a,y.length<=4)(y:Str)(hy:y∈if p then a++df x else a):y.length<=4:=by
 split at hy
 ·exact(d8.mp hy).elim (h y) (Qx y)
 ·exact h y hy
theorem zq(C2:List Int):∀y∈dm C2,y.length<=4:=yR (fun a x h=>Hn h) _ _ (AX C2).1
theorem zl(C2:List Int):∀y∈dh C2,y.length<=4:=yR (fun a x h=>Hn h) _ _ (AX C2).2
theorem QO{led:aa}(hA:D6 A 400)(hs:C2.length<=63)(ok:Ok7 (kG C2) (dm C2) (dh C2)) :
  TC af w A (ak w) (.ref 316) [.lst (C2.map .int)] [] ((271,jF lV)::led) fun v led'=>v=.bool true/\G5 N7 led':=by
 refine TC.weak (dD (nR C2) (bA w) hA.lt (fun O=>@_) @_ @_ (Tm _) fun L hL=>?_);have D0:=hA.deeper (k:=397) (C1:=cQ w L);have hn:kG C2<10^5:=Nat.lt_of_lt_of_le (Nat.mod_lt _ (by decide)) (by decide);have ģ:∀r∈(dW (dm C2) (dh C2)).drop 3,r∈dW (dm C2) (dh C2):=fun r hr=>List.mem_of_mem_drop hr;have ü:((dW (dm C2) (dh C2)).drop 3).length<=10^6:=d7 (d7 (Nat.le_of_eq (List.length_drop ..)) (Nat.sub_le ..)) (ok.lenU _);refine QQ D0 hs (fun p hp=>f8 led hp) fun l1 h1=>QT D0 h1 (zr _) (zm _) (zq _) (zl _) ok.raw (d7 (ok.lenU _) (by decide)) fun l2 h2=>QV C2 (kG C2) (dm C2) (dh C2) _ D0 h2 (ok.lenU _) (ok.memU _) ok.m1 fun l3 nr h3 =>
  QP D0 h3 hn ü ok.neU fun l4 h4=>QU D0 h4 hn (zr _) (zm _) (zq _) (zl _) ok.raw ok.raw2 (ok.lenU _) (ok.memU _) (d7 (xU ..) ü) (fun r hr=>ok.memU _ r (ģ r (Pe hr))) ok.lenC ok.memC ok.okC ok.okP ok.m2 ok.m3 fun st h=>?_
 exact⟨_,.refl _,rfl,h⟩
section
noncomputable def kp(n:Nat):Nat->List (Bool×α)->List (Bool×α)
 |_,[]=>[]
 |c,(true,x)::r=>(true,x)::kp n n r
 |c,(false,x)::r=>(if 0<c∨(r.take n).any (·.1)=true then [(false,x)] else [])++kp n (c-1) r
noncomputable def fT(x:α):Bool×α:=(true,x)
noncomputable def fF(x:α):Bool×α:=(false,x)
theorem EW{x:α}{r:List (Bool×α)}:kp n c (fF x::r)=(if 0<c∨(r.take n).any (·.1)=true then [fF x] else [])++kp n (c-1) r:=rfl
theorem EV(n:Nat)(r:List (Bool×α))(U:List α):∀c,(U≠[]∨c=n)->kp n c (U.map fT++r)=U.map fT++kp n n r:=by
 induction U with
 |nil=>exact fun c h=>h.elim (fun h=>absurd rfl h) fun h=>h▸rfl
 |cons u U ih=>exact fun c O=>congrArg (List.cons (fT u)) (ih n (.inr rfl))
theorem Wb(U:List α):(U.map fF).any (·.1)=false:=by
 induction U with
 |nil=>rfl
 |cons u U ih=>exact ih
theorem Wa(U:List α)(n:Nat):((U.map fF).take n).any (·.1)=false:=by rw[← List.map_take];exact Wb _
theorem EU(n:Nat)(U:List α):∀c,kp n c (U.map fF)=(U.take c).map fF:=by
 induction U with
 |nil=>intro c;rw[List.take_nil];rfl
 |cons u U ih =>
  intro c;rw[ZD,EW,ih,Wa];cases c with
  |zero=>exact congrArg (· ++ _) (if_neg fun h=>h.elim (fun h=>absurd h (r6 0)) fun h=>nomatch h)
  |succ c=>exact congrArg (· ++ _) (if_pos (.inl (Nat.succ_pos c)))
theorem VY(x:α)(r:List (Bool×α))(U:List α):∀n,((U.map fF++fT x::r).take n).any (·.1)=decide (U.length<n):=by
 induction U with
 |nil=>intro n;cases n <;> rfl
 |cons u U ih =>
  intro n;cases n with
  |zero=>rfl
  |succ n=>exact(ih n).trans (decide_eq_decide.mpr Nat.succ_lt_succ_iff.symm)
noncomputable def jd(n c:Nat)(U:List α):List α:=if U.length<=c+n then U else U.take c++U.drop (U.length-n)
theorem Pl(n c:Nat)(u:α)(U:List α):jd n c (u::U)=(if 0<c∨U.length<n then [u] else [])++jd n (c-1) U:=by
 unfold jd;rw[Zz];cases c with
 |succ c =>
  rw[Nat.succ_sub_one,show (if 0<c+1∨U.length<n then [u] else [])=[u] from if_pos (.inl (Nat.succ_pos c)),Nat.add_right_comm c 1 n];refine(j4 (c+n) U.length).elim (fun h=>?_) fun h=>?_
  ·rw[if_neg (Nat.not_le.mpr h),if_neg (Nat.not_le.mpr (Nat.succ_lt_succ h)),Nat.succ_sub (d7 (Nat.le_add_left n c) (n7 h))];rfl
  ·rw[if_pos h,if_pos (Nat.succ_le_succ h)];rfl
 |zero =>
  rw[Nat.zero_add,Nat.zero_sub];refine(j4 U.length n).elim (fun h=>?_) fun h=>?_
  ·rw[show (if 0<0∨U.length<n then [u] else [])=[u] from if_pos (.inr h),if_pos (Nat.succ_le_of_lt h),if_pos (n7 h)];rfl
  ·rw[show (if 0<0∨U.length<n then [u] else [])=[] from if_neg (fun q=>q.elim (r6 0) (Nat.not_lt.mpr h)),if_neg (Nat.not_le.mpr (Nat.lt_succ_of_le h)),Nat.succ_sub h];refine iteInduction (motive:=fun z=>(u::U).take 0++(u::U).drop (U.length-n+1)=[]++z) (fun q=>?_) fun O=>rfl;rw[Nat.sub_eq_zero_of_le q];rfl
theorem ET(n:Nat)(x:α)(r:List (Bool×α))(U:List α):∀c,kp n c (U.map fF++fT x::r)=(jd n c U).map fF++kp n n (fT x::r):=by
 induction U with
 |nil=>exact fun c=>congrArg (fun z=>List.map fF z++kp n n (fT x::r)) (show []=jd n c ([]:List α) from(if_pos (ZM (c+n))).symm)
 |cons u U ih =>
  intro c;rw[ZD,ZE,EW,ih,VY,Pl,ZT,ZW];refine congrArg (· ++ _) ?_;refine(Decidable.em (0<c∨U.length<n)).elim (fun h=>?_) fun h=>?_
  ·rw[if_pos h,if_pos (h.imp_right decide_eq_true)];rfl
  ·rw[if_neg h,if_neg (fun q=>h (q.imp_right of_decide_eq_true))];rfl
noncomputable def jD(n:Nat)(R:List (Bool×α))(k:Nat):Bool:=((R.drop (k-n)).take (k+n+1-(k-n))).any (·.1)
noncomputable def rO(n:Nat)(R:List (Bool×α)):List (Bool×α):=(g9 0 R.length).filterMap fun k=>if jD n R k then R[k]? else none
def W3(n:Nat)(P:List (Bool×α))(c:Nat):Prop:=∀m,m<=n->((P.drop (P.length-m)).any (·.1)=true↔n<c+m)
theorem Gx{P:List (Bool×α)}:(P.drop P.length).any (·.1)=false:=by rw[List.drop_length];rfl
theorem UH{m:Nat}(hm:m+1<=n):n<c+m↔n<c-1+(m+1):=by
 cases c with
 |zero=>rw[Nat.zero_sub,Nat.zero_add,Nat.zero_add];exact⟨fun h=>absurd h (Nat.not_lt.mpr (Nat.le_of_succ_le hm)),fun h=>absurd h (Nat.not_lt.mpr hm)⟩
 |succ c=>rw[Nat.succ_sub_one,Nat.succ_add,Nat.add_succ]
theorem W3.snoc{P:List (Bool×α)}{x:Bool×α}(h:W3 n P c):W3 n (P++[x]) (if x.1 then n else c-1):=fun m hm=>by
 cases m with
 |zero =>
  have h0 : ¬ n<c:=fun q=>Bool.noConfusion (Gx.symm.trans ((h 0 (ZM n)).mpr q));rw[Nat.sub_zero,Nat.add_zero,Gx];refine⟨fun q=>(nomatch q),fun q=>absurd q ?_⟩;cases x.1 with
  |true=>exact r6 n
  |false=>exact fun q=>h0 (Nat.lt_of_lt_of_le q (Nat.sub_le c 1))
 |succ m =>
  rw[ZA,r8,Nat.add_sub_add_right,List.drop_append_of_le_length (Nat.sub_le ..),List.any_append,Bool.or_eq_true,h m (Nat.le_of_succ_le hm)];obtain⟨b,y⟩:=x;cases b with
  |true=>exact⟨fun O=>Nat.lt_add_of_pos_right (Nat.succ_pos m),fun O => .inr rfl⟩
  |false=>exact(or_iff_left (fun q=>nomatch q)).trans (UH hm)
theorem IR(k n:Nat):k+n+1-(k-n)=k-(k-n)+(n+1):=by
 rw[Nat.add_assoc,Nat.sub_add_comm (Nat.sub_le k n)]
theorem IQ(n:Nat)(P S:List (Bool×α))(x:Bool×α):jD n (P++x::S) P.length=((P.drop (P.length-n)).any (·.1)||(x.1||(S.take n).any (·.1))):=by
 unfold jD;rw[List.drop_append_of_le_length (Nat.sub_le ..),IR,← List.length_drop,List.take_length_add_append,List.any_append];rfl
theorem Pa(n:Nat)(S:List (Bool×α)):∀(P:List (Bool×α)) (c:Nat),W3 n P c->(g9 P.length S.length).filterMap (fun k=>if jD n (P++S) k then (P++S)[k]? else none)=kp n c S:=by
 induction S with
 |nil=>exact fun O O O=>rfl
 |cons x S ih =>
  intro P c h;have ih:=ih (P++[x]) _ h.snoc;rw[ZA,r8,ZW,List.singleton_append] at ih;rw[Zz,List.range'_succ,k9,IQ,ih,List.getElem?_append_right (ZZ _),Nat.sub_self];have hd:=h n (ZZ _);generalize (P.drop (P.length-n)).any (·.1)=q at hd;have hd:q=true↔0<c:=hd.trans ⟨fun h=>Nat.pos_of_lt_add_left h,Nat.lt_add_of_pos_left⟩;obtain⟨b,y⟩:=x;cases b with
  |true=>rw[Bool.true_or,Bool.or_true];rfl
  |false =>
   show _=(if 0<c∨(S.take n).any (·.1)=true then [(false,y)] else [])++kp n (c-1) S;rw[Bool.false_or];generalize (S.take n).any (·.1)=r;refine(Decidable.em (0<c∨r=true)).elim (fun h=>?_) fun h=>?_
   ·rw[show (if 0<c∨r=true then [(false,y)] else [])=_ from if_pos h,show (q||r)=true from(Bool.or_eq_true ..).mpr (h.imp_left hd.mpr)];rfl
   ·rw[show (if 0<c∨r=true then [(false,y)] else [])=_ from if_neg h,show (q||r)=false from Bool.eq_false_iff.mpr fun z=>h (((Bool.or_eq_true ..).mp z).imp_left hd.mp)];rfl
theorem OZ(n:Nat)(R:List (Bool×α)):rO n R=kp n 0 R:=Pa n R [] 0 fun m hm=>⟨fun h=>(by rw[List.drop_nil] at h;cases h),fun h=>absurd h (Nat.not_lt.mpr ((Nat.zero_add m).symm▸hm))⟩
noncomputable def bX(ka:List α)(ch:Op->List α)(o:Op):List (Bool×α):=if o.tag=ah then ((ka.drop o.i1).take (o.i2-o.i1)).map fF else (ch o).map fT
def P8:List Op->Prop
 | []=>True
 | [_]=>True
 |o::p::os => ¬ (o.tag=ah/\p.tag=ah)/\P8 (p::os)
theorem P8.tail{o:Op}(h:P8 (o::os)):P8 os:=by
 cases os with
 |nil=>trivial
 |cons p os=>exact h.2
def sZ(ka:List α)(ch:Op->List α)(o:Op):Prop:=(o.tag=ah->o.i1<=o.i2/\o.i2<=ka.length)/\(o.tag≠ah->ch o≠[])
variable{ka:List α}{ch:Op->List α}{o:Op}{os g:List Op}
noncomputable def gK(ka:List α)(o:Op):List α:=(ka.drop o.i1).take (o.i2-o.i1)
theorem lR(he:o.tag=ah):bX ka ch o=(gK ka o).map fF:=if_pos he
theorem uA(he : ¬ o.tag=ah):bX ka ch o=(ch o).map fT:=if_neg he
theorem Bk(he:o.tag=ah)(h:sZ ka ch o):(gK ka o).length=o.i2-o.i1:=by
 unfold gK;rw[List.length_take,List.length_drop,Nat.min_eq_left (Nat.sub_le_sub_right (h.1 he).2 _)]
theorem By(he:o.tag=ah):bX ka ch ⟨o.tag,o.i1,min o.i2 (o.i1+n),o.j1,min o.j2 (o.j1+n)⟩=((gK ka o).take n).map fF:=by
 refine(if_pos he).trans ?_;unfold gK;rw[List.take_take];refine congrArg (fun k=>((ka.drop o.i1).take k).map fF) ?_;show min o.i2 (o.i1+n)-o.i1=_;rw[← Nat.sub_min_sub_right,Nat.add_sub_cancel_left,Nat.min_comm]
theorem yl(a b n:Nat):max a (b-n)=a+(b-a-n):=by rw[Nat.sub_right_comm,Nat.add_comm,Nat.sub_add_eq_max,Nat.max_comm]
theorem Bv(he:o.tag=ah):bX ka ch ⟨o.tag,max o.i1 (o.i2-n),o.i2,max o.j1 (o.j2-n),o.j2⟩=((gK ka o).drop (o.i2-o.i1-n)).map fF:=by
 unfold gK;rw[List.drop_take,List.drop_drop];refine(if_pos he).trans ?_;show ((ka.drop (max o.i1 (o.i2-n))).take (o.i2-max o.i1 (o.i2-n))).map fF=_;rw[yl,Nat.sub_add_eq]
theorem Fy(hc:∃o∈g,o.tag≠ah):bt n g []=[g] :=
 fi (P:=(· = [g])) (fun e=>hc.elim fun o h=>nomatch (List.isEmpty_iff.mp e▸h.1:o∈[])) (fun e=>hc.elim fun o h=>absurd (r7 ((by
  obtain⟨q,rfl⟩:=List.length_eq_one_iff.mp e.1;rw[ZK.mp h.1];rfl:some o.tag=_).trans e.2)) h.2) fun O O=>rfl
theorem kY(h : ¬ (o.tag=ah/\o.i1+(n+n)<o.i2)):bt n g (o::os)=bt n (g++[o]) os:=if_neg h
theorem pA(R:List (Bool×α)):(g++[o]).flatMap (bX ka ch)++R=g.flatMap (bX ka ch)++(bX ka ch o++R):=by
 rw[List.flatMap_append,List.flatMap_cons,List.flatMap_nil,g7,ZW]
theorem Sc(hc:∃p∈g++o::os,p.tag≠ah):∃p∈(g++[o])++os,p.tag≠ah:=sP g o os▸hc
theorem QX{o:Op}(he : ¬ o.tag=ah):aZ n o=o:=if_neg he
theorem yk{o:Op} : ¬ ((aZ n o).tag=ah/\(aZ n o).i1+(n+n)<(aZ n o).i2):=fun h=>by
 rw[kN] at h;unfold aZ at h;rw[if_pos h.1] at h;exact Nat.not_lt.mpr (d7 (Nat.min_le_right ..) (Nat.add_le_add_left (Nat.le_add_right ..) _)) h.2
theorem LH(he:o.tag=ah):bX ka ch (aZ n o)=((gK ka o).take n).map fF:=by
 unfold aZ;rw[if_pos he];exact By he
theorem GS{p:Op}(hp : ¬ p.tag=ah)(h:sZ ka ch p):∃u V,(p::os).flatMap (bX ka ch)=fT u::(V++os.flatMap (bX ka ch)):=by
 rw[List.flatMap_cons,uA hp]
 have:=h.2 hp;generalize ch p=l at this;cases l with
 |nil=>exact absurd rfl this
 |cons u V=>exact⟨u,V.map fT,rfl⟩
theorem GY{a b:Nat}:b-a<=n+n ↔ ¬ a+(n+n)<b:=Nat.sub_le_iff_le_add'.trans Nat.not_lt.symm
noncomputable abbrev gu(ka:List α)(ch:Op->List α)(gs:List (List Op)):List (Bool×α):=gs.flatMap fun g=>g.flatMap (bX ka ch)
theorem SB(g0 : ¬ o.tag=ah->ch o≠[])(hd:o.tag=ah->c=n):bX ka ch (aZ n o)=kp n c ([o].flatMap (bX ka ch)):=by
 rw[List.flatMap_cons,List.flatMap_nil,g7];refine(Decidable.em (o.tag=ah)).elim (fun he=>?_) fun he=>?_
 ·rw[lR he,EU,hd he,LH he]
 ·rw[QX he,uA he]
  have:=EV n [] (ch o) c (.inl (g0 he));rw[g7] at this;exact(this.trans (g7 _)).symm
theorem FD(codes:List Op):∀(g:List Op) (c:Nat),P8 codes->(∀o∈codes,sZ ka ch o)->(∃o∈g++codes,o.tag≠ah)->(∀o os,codes=o::os->o.tag=ah->c=n) ->
  gu ka ch (bt n g (ce (aZ n) codes))=g.flatMap (bX ka ch)++kp n c (codes.flatMap (bX ka ch)):=by
 induction codes with
 |nil =>
  intro g c _ _ hc _;rw[g7] at hc;exact congrArg (gu ka ch) (Fy hc)
 |cons o os ih =>
  intro g c ha hg hc hd;have go:=hg o (Zr ..);have Ψ:=Sc hc;have he0:=hd o os rfl;cases os with
  |nil =>
   rw[g7] at Ψ;show gu ka ch (bt n g [aZ n o])=_;rw[kY yk,Fy]
   ·refine(g7 _).trans ((g7 _).symm.trans ((pA []).trans ?_));rw[g7,SB go.2 he0]
   ·obtain⟨p,hp,I3⟩:=Ψ;refine(d8.mp hp).elim (fun hp=>⟨p,f8 _ hp,I3⟩) fun hp=>⟨aZ n o,ZY _ (List.mem_singleton_self _),?_⟩;rw[kN,← ZK.mp hp];exact I3
  |cons p os =>
   have K3:=fun q hq=>hg q (Zt o hq);have gp:=K3 p (Zr ..);show gu ka ch (bt n g (o::ce (aZ n) (p::os)))=_++kp n c (bX ka ch o++(p::os).flatMap (bX ka ch));refine(Decidable.em (o.tag=ah)).elim (fun he=>?_) fun he=>?_
   ·have hp : ¬ p.tag=ah:=fun q=>ha.1 ⟨he,q⟩;have ih:=fun g hc=>ih g n ha.2 K3 hc fun O O e q=>absurd (p5 e |>.1▸q) hp;cases he0 he
    refine gF (GS (os:=os) hp gp) fun u V hu=>?_;rw[lR he,hu,ET,← hu];unfold jd;rw[Bk he go];refine(Decidable.em (o.i1+(n+n)<o.i2)).elim (fun q=>?_) fun q=>?_
    ·rw[if_neg (fun z=>GY.mp z q),show bt n g (o::ce (aZ n) (p::os))=_ from if_pos ⟨he,q⟩];show (g++[_]).flatMap (bX ka ch)++gu ka ch _=_;rw[ih _ ⟨p,ZY _ (Zr ..),hp⟩,pA,By he,List.flatMap_cons,List.flatMap_nil,g7,Bv he,ZT,ZW]
    ·rw[if_pos (GY.mpr q),kY (fun z=>q z.2),ih _ Ψ,pA,lR he]
   ·rw[kY (fun q=>he q.1),ih _ n ha.2 K3 Ψ fun O O O O=>rfl,pA,uA he,EV n _ _ c (.inl (go.2 he))]
theorem Fp(he:o.tag=ah):br n o=⟨o.tag,max o.i1 (o.i2-n),o.i2,max o.j1 (o.j2-n),o.j2⟩:=if_pos he
theorem Fm: ¬ ((br n o).tag=ah/\(br n o).i1+(n+n)<(br n o).i2):=fun h=>by
 rw[nX] at h;rw[Fp h.1] at h;exact Nat.not_lt.mpr (d7 (Nat.le_add_of_sub_le (Nat.le_max_right o.i1 (o.i2-n))) (Nat.add_le_add_left (Nat.le_add_left ..) _)) h.2
theorem So(codes:List Op)(ha:P8 codes)(hg:∀o∈codes,sZ ka ch o):(aI n codes).flatMap (fun g=>g.flatMap (bX ka ch))=rO n (codes.flatMap (bX ka ch)):=by
 rw[OZ];cases codes with
 |nil=>rw[kX];rfl
 |cons o os =>
  show gu ka ch (bt n [] (ce (aZ n) (br n o::os)))=_;have go:=hg o (Zr ..);refine(Decidable.em (o.tag=ah)).elim (fun he=>?_) fun he=>?_
  ·cases os with
   |nil =>
    show gu ka ch (bt n [] [aZ n (br n o)])=_;rw[kY yk,List.flatMap_cons,List.flatMap_nil,g7,lR he,EU];refine fi (P:=fun l=>gu ka ch l=_) (fun O=>rfl) (fun O=>rfl) fun O h=>absurd ⟨rfl,?_⟩ h;show some (aZ n (br n o)).tag=_;rw[kN,nX,he]
   |cons p os =>
    have K3:=fun q hq=>hg q (Zt o hq);have hp : ¬ p.tag=ah:=fun q=>ha.1 ⟨he,q⟩;refine gF (GS (os:=os) hp (K3 p (Zr ..))) fun u V hu=>?_;show gu ka ch (bt n [] (br n o::ce (aZ n) (p::os)))=kp n 0 (bX ka ch o++(p::os).flatMap (bX ka ch));rw[kY Fm,FD (p::os) _ n ha.2 K3 ⟨p,ZY _ (Zr ..),hp⟩ fun O O e q=>absurd (p5 e |>.1▸q) hp];rw[lR he,hu,ET,← hu,Fp he];refine congrArg (· ++ _) ?_;show bX ka ch _++[]=_;rw[g7,Bv he];unfold jd;rw[Bk he go,Nat.zero_add];refine(Decidable.em (o.i2-o.i1<=n)).elim (fun q=>?_) fun q=>?_
    ·rw[if_pos q,Nat.sub_eq_zero_of_le q];rfl
    ·rw[if_neg q];rfl
  ·rw[show br n o=o from if_neg he];exact FD (o::os) [] 0 ha hg ⟨o,Zr ..,he⟩ fun O O e q=>absurd (p5 e |>.1▸q) he
end
noncomputable def aJ[DecidableEq α](a:List α):Nat->Nat
 |0=>0
 |n+1=>aJ a n+if a[n+1]?=a[n]? then 0 else 1
section
variable[DecidableEq α]
theorem jp(a:List α)(n:Nat):aJ a (n+1)=aJ a n+if a[n+1]?=a[n]? then 0 else 1:=rfl
theorem GJ(a:List α)(m d:Nat):aJ a m<=aJ a (m+d):=by
 induction d with
 |zero=>exact ZZ _
 |succ d ih=>exact d7 ih (Nat.le_add_right ..)
theorem gy(a:List α){m:Nat}(h:m<=n):aJ a m<=aJ a n:=aw (Nat.le.dest h) fun d e=>e▸GJ a m d
theorem VW{x y:Nat}(h:x<=y) : ¬ y+1=x:=fun e=>absurd (e▸h:y+1<=y) (Nat.not_succ_le_self y)
theorem GH(a:List α)(m d:Nat):(aJ a (m+d)=aJ a m->a[m+d]?=a[m]?)/\(aJ a (m+d)=aJ a m+1->a[m+d]? ≠ a[m]?):=by
 induction d with
 |zero=>exact⟨fun O=>rfl,fun h=>absurd h.symm (Nat.succ_ne_self _)⟩
 |succ d ih =>
  have hm:=GJ a m d;rw[show m+(d+1)=(m+d)+1 from rfl,jp];by_cases e:a[m+d+1]?=a[m+d]?
  ·rw[if_pos e,e,Nat.add_zero];exact ih
  ·rw[if_neg e];exact⟨fun h=>absurd h (VW hm),fun h=>(ih.1 (Nat.succ.inj h))▸e⟩
theorem ze(a:List α){m:Nat}(h:m<=n):aJ a n=aJ a m->a[n]?=a[m]?:=aw (Nat.le.dest h) fun d e=>e▸(GH a m d).1
theorem GI(a:List α){m:Nat}(h:m<=n):aJ a n=aJ a m+1->a[n]? ≠ a[m]?:=aw (Nat.le.dest h) fun d e=>e▸(GH a m d).2
theorem sK(a:List α){p m:Nat}(h1:p<=m)(h2:m<=i)(e:aJ a i=aJ a p):a[m]?=a[p]?:=ze a h1 (Nat.le_antisymm (e▸gy a h2) (gy a h1))
theorem Vd(a:List α)(b:List α)(n:Nat):n<a.length->aJ (a++b) n=aJ a n:=by
 induction n with
 |zero=>exact fun O=>rfl
 |succ n ih =>
  intro h;rw[jp,jp,ih (Nat.lt_of_succ_lt h),List.getElem?_append_left h,List.getElem?_append_left (Nat.lt_of_succ_lt h)]
theorem RI{c:Prop}[Decidable c]:(if c then 0 else 1)<=1:=by split <;> decide
theorem Va(a:List α)(y:α)(m d:Nat):d<m->aJ (a++t5 m y) (a.length+d)<=aJ a (a.length-1)+1:=by
 induction d with
 |zero =>
  intro h;rw[Nat.add_zero];cases hl:a.length with
  |zero=>exact ZM _
  |succ n =>
   rw[jp,Vd a _ n (hl▸t9 n)];exact Nat.add_le_add_left RI _
 |succ d ih =>
  intro h;have g:∀k,k<m->(a++t5 m y)[a.length+k]?=some y:=fun k hk=>by
   rw[List.getElem?_append_right (Nat.le_add_right ..),Nat.add_sub_cancel_left,List.getElem?_replicate,if_pos hk]
  have g':(a++t5 m y)[a.length+d+1]?=(a++t5 m y)[a.length+d]?:=(g (d+1) h).trans (g d (Nat.lt_of_succ_lt h)).symm;rw[show a.length+(d+1)=(a.length+d)+1 from rfl,jp,if_pos g'];exact ih (Nat.lt_of_succ_lt h)
theorem UZ(a:List α)(y:α)(m:Nat):aJ (a++t5 m y) ((a++t5 m y).length-1)<=aJ a (a.length-1)+1:=by
 cases m with
 |zero=>simp
 |succ m =>
  rw[ZA,B4];exact Va a y (m+1) m (t9 m)
theorem VV{x y u v:Nat}(h:x<y)(h':u<v):x+u+2<=y+v:=d7 (Nat.le_of_eq (Nat.add_add_add_comm x 1 u 1).symm) (Nat.add_le_add h h')
theorem VU{x u v:Nat}(h:u<v)(h':v≠u+1):x+u+2<=x+v:=Nat.add_le_add_left (Nat.lt_of_le_of_ne h h'.symm) x
theorem VT{x u v:Nat}(h:u<v)(h':v≠u+1):u+x+2<=v+x:=d7 (Nat.le_of_eq (Nat.add_right_comm u x 2)) (Nat.add_le_add_right (Nat.lt_of_le_of_ne h h'.symm) x)
theorem FU(a b:List α){p q:Nat}(hp:p<i)(hq:q<j)(h0:a[p]?=b[q]?)(h1:a[i]?=b[j]?)
  (Ŋ : ¬ (a[i-1]?=b[j-1]?) ∨ ¬ (a[p+1]?=b[q+1]?)):aJ a p+aJ b q+2<=aJ a i+aJ b j:=by
 have Ë:=n7 hp;have Ň:=n7 hq;refine(Nat.eq_or_lt_of_le (gy a Ë)).elim (fun da=>?_) fun da=>?_
 ·have ea:=ze a Ë da.symm;refine(Nat.eq_or_lt_of_le (gy b Ň)).elim (fun db=>?_) fun db=>?_
  ·exact(Ŋ.elim (fun h=>h ((sK a (Nat.le_sub_one_of_lt hp) (Nat.sub_le ..) da.symm).trans (h0.trans (sK b (Nat.le_sub_one_of_lt hq) (Nat.sub_le ..) db.symm).symm)))
    fun h=>h ((sK a (Nat.le_succ p) hp da.symm).trans (h0.trans (sK b (Nat.le_succ q) hq db.symm).symm))).elim
  ·exact da▸VU db fun e=>GI b Ň e (h1.symm.trans (ea.trans h0))
 ·refine(Nat.eq_or_lt_of_le (gy b Ň)).elim (fun db=>?_) fun db=>VV da db;exact db▸VT da fun e=>GI a Ë e (h1.trans ((ze b Ň db.symm).trans h0.symm))
end
theorem PG{fl:Nat->Nat->Nat->Nat->ab}(ok:cw fl)(mx:d_ e fl):∀(f alo D1 C8 C9:Nat),alo<=D1->C8<=C9->∀t∈cH fl f alo D1 C8 C9,E6 e t :=
 nP ok (P:=fun O O O O L=>∀t∈L,E6 e t) (fun O O O O O O=>bC) fun alo D1 C8 C9 i j k l r h1 h2 e O O O O hl hr=>rT hl (e▸mx.run _ _ _ _ h1 h2) hr
structure Pt (a b:List Str) (alo D1 C8 C9 p q:Nat):Prop where
 a1:alo<=p
 a2:p<D1
 b1:C8<=q
 b2:q<C9
 eq:a[p]?=b[q]?
theorem Pt.wide{a b:List Str}{D1 Ĺ ĺ ķ ĸ p q:Nat}(h:Pt a b alo D1 C8 C9 p q)(h1:Ĺ<=alo)(h2:D1<=ĺ)(h3:ķ<=C8)(h4:C9<=ĸ):Pt a b Ĺ ĺ ķ ĸ p q :=
 ⟨d7 h1 h.a1,Nat.lt_of_lt_of_le h.a2 h2,d7 h3 h.b1,Nat.lt_of_lt_of_le h.b2 h4,h.eq⟩
def Iu(a b:List Str)(alo D1 C8 C9:Nat)(L:List ab):Prop:=L=[]∨∃p q p' q',Pt a b alo D1 C8 C9 p q/\Pt a b alo D1 C8 C9 p' q'/\2 * L.length+(aJ a p+aJ b q)<=aJ a p'+aJ b q'+2
theorem VS{l r x y u v:Nat}(h1:2 * l+x<=u)(h2:2 * r+v<=y)(h3:u<=v):2 * (l+(r+1))+x<=y+2:=by
 rw[Nat.mul_add,Nat.add_right_comm];exact d7 (Nat.add_le_add_right (d7 h1 h3) (2 * r+2)) (Nat.add_le_add_right (d7 (Nat.le_of_eq (Nat.add_comm v (2 * r))) h2) 2)
theorem VR{l x y z:Nat}(h1:2 * l+x<=y+2)(h2:z+2<=x):2 * l+z<=y:=Nat.le_of_add_le_add_right (b:=2) (d7 (Nat.add_le_add_left h2 (2 * l)) h1)
theorem PI(a b:List Str){fl:Nat->Nat->Nat->Nat->ab}(ok:cw fl)(mx:d_ (ay a b) fl):∀(f alo D1 C8 C9:Nat),alo<=D1->C8<=C9->Iu a b alo D1 C8 C9 (cH fl f alo D1 C8 C9) :=
 nP ok (P:=Iu a b) (fun O O O O O O => .inl rfl) fun alo D1 C8 C9 i j k l r h1 h2 he a1 a2 a3 a4 hl hr=>by
  have Ý:=mx.run _ _ _ _ h1 h2;have Î:=mx.left _ _ _ _ h1 h2;have U':=mx.right _ _ _ _ h1 h2;rw[he] at Ý Î U';have e0:a[i]?=b[j]?:=beq_iff_eq.mp (Ý 0 (Nat.succ_pos k));have e1:a[i+k]?=b[j+k]?:=beq_iff_eq.mp (Ý k (t9 k));have p0:Pt a b alo D1 C8 C9 i j:=⟨a1,Nat.lt_of_lt_of_le (Nat.lt_add_of_pos_right (Nat.succ_pos k)) a2,a3,Nat.lt_of_lt_of_le (Nat.lt_add_of_pos_right (Nat.succ_pos k)) a4,e0⟩;have p1:Pt a b alo D1 C8 C9 (i+k) (j+k):=⟨d7 a1 (Nat.le_add_right ..),a2,d7 a3 (Nat.le_add_right ..),a4,e1⟩;have L:∃p q,Pt a b alo D1 C8 C9 p q/\2 * l.length+(aJ a p+aJ b q)<=aJ a i+aJ b j:=hl.elim (fun e=>⟨i,j,p0,e▸Nat.le_of_eq (Nat.zero_add _)⟩) fun h =>
   dq h fun p q p' q' h h' c=>⟨p,q,h.wide (ZZ _) (n7 p0.a2) (ZZ _) (n7 p0.b2),d7 c (FU a b h'.a2 h'.b2 h'.eq e0 (.inl fun g =>
    Î ⟨Nat.lt_of_le_of_lt h'.a1 h'.a2,Nat.lt_of_le_of_lt h'.b1 h'.b2,beq_iff_eq.mpr g⟩))⟩
  have R:∃p q,Pt a b alo D1 C8 C9 p q/\2 * r.length+(aJ a (i+k)+aJ b (j+k))<=aJ a p+aJ b q:=hr.elim (fun e=>⟨i+k,j+k,p1,e▸Nat.le_of_eq (Nat.zero_add _)⟩) fun h =>
   dq h fun p q p' q' h h' c=>⟨p',q',h'.wide (d7 a1 (Nat.le_add_right ..)) (ZZ _) (d7 a3 (Nat.le_add_right ..)) (ZZ _),VR c (FU a b h.a1 h.b1 e1 h.eq (.inr fun g =>
    U' ⟨Nat.lt_of_le_of_lt h.a1 h.a2,Nat.lt_of_le_of_lt h.b1 h.b2,beq_iff_eq.mpr g⟩))⟩
  refine bI L fun p q hp c=>bI R fun p' q' Ë c' => .inr ⟨p,q,p',q',hp,Ë,?_⟩;rw[ZA,Zz];exact VS c c' (Nat.add_le_add (gy a (Nat.le_add_right ..)) (gy b (Nat.le_add_right ..)))
theorem Ew(a b:List Str)(hc:aJ a (a.length-1)+aJ b (b.length-1)<126):(aY (bZ (ay a b) (aO a b)) (0,a.length,0,b.length)).length<64:=by
 have ok:=dH (ay a b) (aO a b);unfold aY;dsimp only;exact(PI a b ok (Gf a b) (a.length-0) 0 a.length 0 b.length (ZM _) (ZM _)).elim (fun h=>h▸by decide) fun h=>dq h fun p q p' q' O h c=>Nat.lt_of_mul_lt_mul_left (a:=2) (Nat.lt_of_le_of_lt (d7 (Nat.le_add_right _ _) c) (Nat.add_lt_add_right (Nat.lt_of_le_of_lt (Nat.add_le_add (gy a (Nat.le_sub_one_of_lt h.a2)) (gy b (Nat.le_sub_one_of_lt h.b2))) hc) 2))
section
variable[DecidableEq β]
noncomputable def Go(a b:List β)(i j:Nat):Bool:=decide (a[i]?=b[j]?)
noncomputable def sn(b:List β)(k:β):List Nat:=(List.range b.length).filter fun j=>decide (b[j]?=some k)
noncomputable def Fk(a b:List β)(i:Nat):List Nat:=(a[i]?).elim [] fun k=>if decide (200<=b.length)&&decide (b.length / 100+1<(sn b k).length) then [] else sn b k
theorem ye{f:β->Str}(hf:∀x y,f x=f y->x=y)(u v:Option β):(u.map f=v.map f)↔u=v:=by
 cases u <;> cases v <;> simp
 exact⟨hf _ _,fun h=>h▸rfl⟩
theorem Gn{f:β->Str}(hf:∀x y,f x=f y->x=y)(a b:List β):ay (a.map f) (b.map f)=Go a b:=by
 funext i j
 unfold ay Go;rw[d4,d4,y1,beq_iff_eq,decide_eq_true_eq];exact ye hf _ _
theorem RW{f:β->Str}(hf:∀x y,f x=f y->x=y)(b:List β)(k:β):cB (b.map f) (f k)=sn b k:=by
 unfold cB sn;rw[Zu];refine List.filter_congr fun j O=>?_;rw[d4,y1,beq_iff_eq,decide_eq_true_eq];exact ye hf (b[j]?) (some k)
theorem Fh{f:β->Str}(hf:∀x y,f x=f y->x=y)(a b:List β):aO (a.map f) (b.map f)=Fk a b:=by
 funext i
 unfold aO Fk;rw[d4];cases a[i]? with
 |none=>rfl
 |some x =>
  show bq (b.map f) (f x)=_;unfold bq kh;rw[RW hf,Zu];rfl
theorem TO{f g:β->Str}(hf:∀x y,f x=f y->x=y)(hg:∀x y,g x=g y->x=y)(a b:List β):bZ (ay (a.map f) (b.map f)) (aO (a.map f) (b.map f))=bZ (ay (a.map g) (b.map g)) (aO (a.map g) (b.map g)):=by
 rw[Gn hf,Gn hg,Fh hf,Fh hg]
theorem GK{f:β->Str}(hf:∀x y,f x=f y->x=y)(a:List β)(n:Nat):aJ (a.map f) n=aJ a n:=by
 induction n with
 |zero=>rfl
 |succ n ih =>
  rw[jp,jp,ih,d4,d4];congr 1
  simp only[ye hf]
end
theorem E6.join{l:Nat}(h1:E6 e (i,j,k))(h2:E6 e (i+k,j+k,l)):E6 e (i,j,k+l):=fun d hd =>
 (j4 d k).elim (h1 d) fun q=>aw (Nat.le.dest q) fun c e=>e▸Nat.add_assoc i k c▸Nat.add_assoc j k c▸h2 c (Nat.lt_of_add_lt_add_left (e.symm▸hd:k+c<k+l))
theorem nN{Q:α->Prop}{xs:List α}{x:α}(h1:∀t∈xs,Q t)(h2:Q x)(t:α)(h:t∈xs++[x]):Q t:=(d8.mp h).elim (h1 t) fun h=>ZK.mp h▸h2
theorem Hl{Q:ab->Prop}{s:ab×List ab}(h1:Q s.1)(h2:∀t∈s.2,Q t):∀t∈(if s.1.2.2=0 then s.2 else s.2++[s.1]),Q t:=by
 split
 ·exact h2
 ·exact nN h2 h1
theorem Wf(ts:List ab):∀s:ab×List ab,E6 e s.1->(∀t∈s.2,E6 e t)->(∀t∈ts,E6 e t)->∀t∈fm (ts.foldl cD s),E6 e t:=by
 induction ts with
 |nil=>exact fun s h1 h2 O=>Hl h1 h2
 |cons x ts ih =>
  intro s h1 h2 h3;have hx:=h3 x (Zr ..);have h3':=fun t ht=>h3 t (Zt _ ht);rw[g6];unfold cD;split
  ·rename_i hc
   refine ih _ (E6.join h1 ?_) h2 h3';rw[hc.1,hc.2];exact hx
  ·exact ih _ hx (Hl h1 h2) h3'
theorem Vt{fl:Nat->Nat->Nat->Nat->ab}(ok:cw fl)(mx:d_ e fl)(la lb:Nat):∀t∈aQ fl la lb,E6 e t :=
 nN (Wf _ ((0,0,0),[]) .none bC (PG ok mx _ _ _ _ _ (ZM _) (ZM _))) .none
def ew(o:Op):Prop:=o.tag=ah
def oQ(e:Nat->Nat->Bool)(o:Op):Prop:=ew o->∃k,o.i2=o.i1+k/\o.j2=o.j1+k/\E6 e (o.i1,o.j1,k)
theorem zf{Q:Op->Prop}(h:∀t i ai j bj,t=ba∨t=bc∨t=bb->Q ⟨t,i,ai,j,bj⟩){ai bj:Nat}:∀o∈bG i ai j bj,Q o:=by
 unfold bG;split
 ·exact fun o ho=>ZK.mp ho▸h _ _ _ _ _ (.inl rfl)
 ·split
  ·exact fun o ho=>ZK.mp ho▸h _ _ _ _ _ (.inr (.inl rfl))
  ·split
   ·exact fun o ho=>ZK.mp ho▸h _ _ _ _ _ (.inr (.inr rfl))
   ·exact bC
theorem rL{t:Str}(h:t=ba∨t=bc∨t=bb):t≠ah:=by rcases h with rfl |rfl |rfl <;> decide
theorem Og(ts:List ab):∀s:(Nat×Nat)×List Op,(∀t∈ts,E6 e t)->(∀o∈s.2,oQ e o)->∀o∈(ts.foldl cz s).2,oQ e o:=by
 induction ts with
 |nil=>exact fun O O h=>h
 |cons t ts ih =>
  intro s h1 h2;refine ih (cz s t) (fun u hu=>h1 u (Zt _ hu)) fun o ho=>(d8.mp ho).elim (fun ho=>(d8.mp ho).elim (h2 o) (zf (fun O O O O O g q=>absurd q (rL g)) o)) ?_;unfold cV;split
  ·exact nofun
  ·exact fun q=>ZK.mp q▸fun O=>⟨t.2.2,rfl,rfl,h1 t (Zr ..)⟩
theorem De(a b:List Str):∀o∈bR (aQ (bZ (ay a b) (aO a b)) a.length b.length),oQ (ay a b) o :=
 Og _ _ (Vt (dH _ _) (Gf a b) _ _) bC
theorem Su(codes:List Op):∀group,bt n group codes=[]->∀o∈group++codes,ew o:=by
 induction codes with
 |nil=>exact fun group=>(g7 group).symm▸fi (P:=fun l=>l=[]->∀o∈group,ew o) (fun c O=>List.isEmpty_iff.mp c▸bC) (fun c O=>aw (List.length_eq_one_iff.mp c.1) fun x e o ho=>ZK.mp (e▸ho)▸r7 (e▸c.2:Option.map _ (List.head? [x])=_)) fun O O h=>nomatch h
 |cons o os ih=>exact fun group=>nZ (P:=fun l=>l=[]->∀p∈group++o::os,ew p) (fun O h=>nomatch h) fun O h=>sP group o os▸ih _ h
theorem OH{f:Op->Op}(hf:∀o,(f o).tag=o.tag)(h:∀o∈iR f os,ew o):∀o∈os,ew o:=by
 cases os with
 |nil=>exact bC
 |cons x xs=>exact fun o ho=>(Zy.mp ho).elim (fun e=>e▸(hf x).symm.trans (h (f x) (Zr ..))) fun ho=>h o (Zt _ ho)
theorem OE{f:Op->Op}(hf:∀o,(f o).tag=o.tag):(∀o∈ce f os,ew o)->∀o∈os,ew o :=
 pB (P:=fun os=>(∀o∈ce f os,ew o)->∀o∈os,ew o) os (fun O=>bC) fun l x h=>by
  rw[pS] at h;exact nN (fun o ho=>h o (f8 _ ho)) ((hf x).symm.trans (h (f x) (ZY _ (List.mem_singleton_self _))))
theorem Sw{codes:List Op}(h:aI n codes=[]):∀o∈codes,ew o:=by
 have k:=OH (nX n) (OE (kN n) (Su _ [] h));split at k
 ·rename_i c
  exact List.isEmpty_iff.mp c▸bC
 ·exact k
theorem NX{a b:List Str}{i' j':Nat}(os:List Op):∀i,G4 i i os i' j'->(∀o∈os,oQ (ay a b) o/\ew o)->i'=j'/\∀d,i<=d->d<i'->a[d]?=b[d]?:=by
 induction os with
 |nil=>exact fun i h O=>⟨h.1.symm.trans h.2,fun d h1 h2=>absurd h2 (Nat.not_lt.mpr (h.1▸h1))⟩
 |cons o os ih =>
  intro i h J';have q:=J' o (Zr ..);refine aU (q.1 q.2) fun k e1 e2 r=>?_;rw[h.1] at e1 r;rw[h.2.1] at e2 r;have h5:=h.2.2.2.2;rw[e1,e2] at h5;have g:=ih (i+k) h5 fun p hp=>J' p (Zt _ hp);refine⟨g.1,fun d h1 h2=>(j4 d (i+k)).elim (fun z=>?_) fun z=>g.2 d z h2⟩;refine aw (Nat.le.dest h1) fun c e=>?_;subst e;exact beq_iff_eq.mp (r c (Nat.lt_of_add_lt_add_left z))
theorem Vi:bG i i j j=[]:=by unfold bG;rw[if_neg fun h=>r6 _ h.1,if_neg (r6 _),if_neg (r6 _)]
theorem yH(a b:List Str)(n:Nat):aI n (bR (aQ (bZ (ay a b) (aO a b)) a.length b.length))=[]↔a=b:=by
 constructor
 ·intro h;have r:=NX _ 0 (ml (dH _ _) a.length b.length) fun o ho=>⟨De a b o ho,Sw h o ho⟩;exact List.ext_getElem? fun d=>(j4 d a.length).elim (r.2 d (ZM _)) fun q=>(n8 q).trans (n8 (r.1▸q)).symm
 ·rintro rfl
  have hs:=TN a;have ok:=dH (ay a a) (aO a a);generalize bZ (ay a a) (aO a a)=fl at hs ok;generalize a.length=m at hs;cases m with
  |zero =>
   unfold aQ;rw[Eu (q:=(0,0,0,0)) (congrArg (fun t=>t.2.2) hs)];exact kX
  |succ m =>
   have h1:=Ev (q:=(0,m+1,0,m+1)) ok (ZM _) (ZM _) (hs▸Nat.succ_ne_zero _);have z:0+(m+1)=m+1:=Nat.zero_add _;rw[hs,if_neg fun h=>r6 _ h.1,if_neg fun h=>r6 (m+1) (Nat.lt_of_le_of_lt (Nat.le_of_eq z.symm) (show 0+(m+1)<m+1 from h.1))] at h1;unfold aQ;rw[h1];show aI n (bR ([(0,0,0+(m+1))]++[(m+1,m+1,0)]))=[];rw[z];show aI n ([]++[⟨ah,0,0+(m+1),0,0+(m+1)⟩]++bG (0+(m+1)) (m+1) (0+(m+1)) (m+1)++[])=[];rw[z,Vi];exact FE
def F7:List ab->Prop
 | []=>True
 | [_]=>True
 |t::u::ts => ¬ (t.1+t.2.2=u.1/\t.2.1+t.2.2=u.2.1)/\F7 (u::ts)
theorem F7.tail{t:ab}{ts:List ab}(h:F7 (t::ts)):F7 ts:=by
 cases ts with
 |nil=>trivial
 |cons u ts=>exact h.2
theorem F7.snoc2{t u:ab}(h : ¬ (t.1+t.2.2=u.1/\t.2.1+t.2.2=u.2.1)):∀xs:List ab,F7 (xs++[t])->F7 (xs++[t]++[u])
 | [],_=>⟨h,trivial⟩
 | [x],k=>⟨k.1,h,trivial⟩
 |x::y::xs,k=>⟨k.1,F7.snoc2 h (y::xs) k.2⟩
theorem F7.grow{t u:ab}(h1:t.1=u.1)(h2:t.2.1=u.2.1):∀xs:List ab,F7 (xs++[t])->F7 (xs++[u])
 | [],_=>trivial
 | [x],k=>⟨h1▸h2▸k.1,trivial⟩
 |x::y::xs,k=>⟨k.1,F7.grow h1 h2 (y::xs) k.2⟩
theorem F7.init{t:ab}:∀xs:List ab,F7 (xs++[t])->F7 xs
 | [],_=>trivial
 | [x],_=>trivial
 |x::y::xs,k=>⟨k.1,F7.init (y::xs) k.2⟩
def ω(s:ab×List ab):Prop:=F7 (s.2++[s.1])/\(∀t∈s.2,0<t.2.2)/\(s.1.2.2=0->s.2=[])
theorem ω.step{s:ab×List ab}{t:ab}(h:ω s)(ht:0<t.2.2):ω (cD s t):=by
 unfold cD;split
 ·rename_i c
  exact⟨F7.grow (t:=s.1) (u:=(s.1.1,s.1.2.1,s.1.2.2+t.2.2)) rfl rfl s.2 h.1,h.2.1,fun e=>absurd e (by dsimp only;omega)⟩
 ·rename_i c
  refine⟨?_,?_,fun e=>absurd e (Nat.ne_of_gt ht)⟩
  ·dsimp only;split
   ·rename_i e
    rw[h.2.2 e];trivial
   ·exact F7.snoc2 c _ h.1
  ·dsimp only;split
   ·exact h.2.1
   ·exact nN h.2.1 ⋯
theorem Wg(ts:List ab):∀s:ab×List ab,ω s->(∀t∈ts,0<t.2.2)->ω (ts.foldl cD s):=by
 induction ts with
 |nil=>exact fun O h O=>h
 |cons t ts ih=>exact fun s h k=>ih _ (h.step (k t (Zr ..))) fun u hu=>k u (Zt _ hu)
theorem Vs{fl:Nat->Nat->Nat->Nat->ab}(ok:cw fl)(la lb:Nat):∃xs,aQ fl la lb=xs++[(la,lb,0)]/\F7 xs/\∀t∈xs,0<t.2.2:=by
 have h:=Wg (aY fl (0,la,0,lb)) ((0,0,0),[]) ⟨trivial,bC,fun O=>rfl⟩ fun t ht=>(yb ok (la-0) 0 la 0 lb (ZM _) (ZM _) t ht).2.2.2.2;refine⟨_,rfl,?_⟩;unfold fm;split
 ·exact⟨h.1.init,h.2.1⟩
 ·rename_i c
  exact⟨h.1,nN h.2.1 ⋯⟩
noncomputable def gQ:Nat->Nat->List ab->List Op
 |_,_,[]=>[]
 |i,j,t::ts=>bG i t.1 j t.2.1++(cV t++gQ (t.1+t.2.2) (t.2.1+t.2.2) ts)
theorem CZ(ts:List ab):∀s:(Nat×Nat)×List Op,(ts.foldl cz s).2=s.2++gQ s.1.1 s.1.2 ts:=by
 induction ts with
 |nil=>exact fun s=>(g7 _).symm
 |cons t ts ih=>exact fun s=>(ih (cz s t)).trans (show s.2++bG s.1.1 t.1 s.1.2 t.2.1++cV t++_=s.2++(bG s.1.1 t.1 s.1.2 t.2.1++(cV t++_)) by rw[ZW,ZW];rfl)
theorem P8.cons{o:Op}(h:P8 os)(k:∀p ps,os=p::ps -> ¬ (o.tag=ah/\p.tag=ah)):P8 (o::os):=by
 cases os with
 |nil=>trivial
 |cons p os=>exact⟨k p os rfl,h⟩
theorem GN{ai bj:Nat}(h:P8 os):P8 (bG i ai j bj++os):=by
 have k:∀t,t=ba∨t=bc∨t=bb->P8 ([⟨t,i,ai,j,bj⟩]++os):=fun t ht=>h.cons fun p ps O q=>rL ht q.1;unfold bG;split
 ·exact k _ (.inl rfl)
 ·split
  ·exact k _ (.inr (.inl rfl))
  ·split
   ·exact k _ (.inr (.inr rfl))
   ·exact h
theorem Vh{ai bj:Nat}(h1:i<=ai)(h2:j<=bj)(e:bG i ai j bj=[]):i=ai/\j=bj:=by
 unfold bG at e;split at e
 ·cases e
 ·split at e
  ·cases e
  ·split at e
   ·cases e
   ·omega
theorem Vj{ai bj:Nat}{o:Op}{rest:List Op}(h1:i<=ai)(h2:j<=bj)(e:bG i ai j bj++rest=o::os)(he:o.tag=ah):i=ai/\j=bj:=by
 cases q:bG i ai j bj with
 |nil=>exact Vh h1 h2 q
 |cons p ps =>
  rw[q] at e;obtain⟨rfl,_⟩:=p5 e;exact absurd he (zf (Q:=fun o=>o.tag≠ah) (fun t O O O O ht=>rL ht) p (q▸Zr ..))
theorem Td{la lb:Nat}(xs:List ab):∀i j,L1 i j (xs++[(la,lb,0)])->F7 xs->(∀t∈xs,0<t.2.2) ->
  P8 (gQ i j (xs++[(la,lb,0)]))/\∀o os,gQ i j (xs++[(la,lb,0)])=o::os->o.tag=ah->∃t ts,xs=t::ts/\i=t.1/\j=t.2.1:=by
 induction xs with
 |nil =>
  intro i j ha _ _;have e:gQ i j ([]++[(la,lb,0)])=bG i la j lb++[]:=rfl;rw[e];refine⟨GN trivial,fun o os q he=>?_⟩;rw[g7] at q;exact absurd he (zf (Q:=fun o=>o.tag≠ah) (fun t O O O O ht=>rL ht) o (q▸Zr ..))
 |cons t ts ih =>
  intro i j ha hn hp;have r:=ih (t.1+t.2.2) (t.2.1+t.2.2) ha.2.2 hn.tail fun u hu=>hp u (Zt _ hu);have ht:=hp t (Zr ..);have e:gQ i j (t::ts++[(la,lb,0)])=bG i t.1 j t.2.1++(⟨ah,t.1,t.1+t.2.2,t.2.1,t.2.1+t.2.2⟩::gQ (t.1+t.2.2) (t.2.1+t.2.2) (ts++[(la,lb,0)])):=by
   show bG i t.1 j t.2.1++(cV t++_)=_;unfold cV;rw[if_neg (Nat.ne_of_gt ht)];rfl
  rw[e];refine⟨GN (r.1.cons fun p ps q h=>?_),fun o os q he=>⟨t,ts,rfl,Vj ha.1 ha.2.1 q he⟩⟩;obtain⟨u,us,rfl,e1,e2⟩:=r.2 p ps q h.2;exact hn.1 ⟨e1,e2⟩
theorem Oj{fl:Nat->Nat->Nat->Nat->ab}(ok:cw fl)(la lb:Nat):P8 (bR (aQ fl la lb)):=by
 obtain⟨xs,e,h1,h2⟩:=Vs ok la lb;have ha:=zi ok la lb;unfold bR;rw[e] at ha ⊢;rw[CZ];exact(Td xs 0 0 ha h1 h2).1
structure F8 (la lb:Nat) (e:Nat->Nat->Bool) (o:Op):Prop where
 tg:lm o.tag
 eq:oQ e o
 ins:o.tag=bb->o.i1=o.i2
 del:o.tag=bc->o.j1=o.j2
 ne1:o.tag=ba∨o.tag=bc->o.i1<o.i2
 ne2:o.tag=ba∨o.tag=bb->o.j1<o.j2
 i2:o.i1<=o.i2/\o.i2<=la
 j2:o.j1<=o.j2/\o.j2<=lb
structure τ (o:Op):Prop where
 ins:o.tag=bb->o.i1=o.i2
 del:o.tag=bc->o.j1=o.j2
 ne1:o.tag=ba∨o.tag=bc->o.i1<o.i2
 ne2:o.tag=ba∨o.tag=bb->o.j1<o.j2
theorem Vf{ai bj:Nat}(h1:i<=ai)(h2:j<=bj):∀o∈bG i ai j bj,τ o:=by
 unfold bG;split
 ·rename_i c
  exact fun o ho=>ZK.mp ho▸⟨fun e=>absurd (show ba=bb from e) (by decide),fun e=>absurd (show ba=bc from e) (by decide),fun O=>c.1,fun O=>c.2⟩
 ·split
  ·rename_i c d
   exact fun o ho=>ZK.mp ho▸⟨fun e=>absurd (show bc=bb from e) (by decide),fun O=>by dsimp only;omega,fun O=>d,fun e=>absurd (show bc=ba∨bc=bb from e) (by decide)⟩
  ·split
   ·rename_i c d e
    exact fun o ho=>ZK.mp ho▸⟨fun O=>by dsimp only;omega,fun e=>absurd (show bb=bc from e) (by decide),fun e=>absurd (show bb=ba∨bb=bc from e) (by decide),fun O=>e⟩
   ·exact bC
theorem Rm(t:ab):∀o∈cV t,τ o:=by
 unfold cV;split
 ·exact bC
 ·exact fun o ho=>ZK.mp ho▸⟨fun e=>absurd (show ah=bb from e) (by decide),fun e=>absurd (show ah=bc from e) (by decide),fun e=>absurd (show ah=ba∨ah=bc from e) (by decide),fun e=>absurd (show ah=ba∨ah=bb from e) (by decide)⟩
theorem Tc(ts:List ab):∀i j,L1 i j ts->∀o∈gQ i j ts,τ o:=by
 induction ts with
 |nil=>exact fun O O O=>bC
 |cons t ts ih=>exact fun i j h o ho=>(d8.mp ho).elim (Vf h.1 h.2.1 o) fun ho=>(d8.mp ho).elim (Rm t o) (ih _ _ h.2.2 o)
theorem Oi(a b:List Str):∀o∈bR (aQ (bZ (ay a b) (aO a b)) a.length b.length),F8 a.length b.length (ay a b) o:=fun o ho=>by
 have p:=(ml (dH (ay a b) (aO a b)) a.length b.length).mem o ho;have s:=Tc _ 0 0 (zi (dH (ay a b) (aO a b)) a.length b.length) o (by
  have:=CZ (aQ (bZ (ay a b) (aO a b)) a.length b.length) ((0,0),[]);unfold bR at ho;rw[this] at ho;exact ho)
 exact⟨Dd _ o ho,De a b o ho,s.ins,s.del,s.ne1,s.ne2,p.2.1 |> fun q=>⟨q,p.2.2.1⟩,⟨p.2.2.2.2.1,p.2.2.2.2.2⟩⟩
section
variable{la lb n:Nat}{o:Op}
theorem F8.ofEq{i1 i2 j1 j2:Nat}(h1:i2=i1+k)(h2:j2=j1+k)(hr:E6 e (i1,j1,k))(l1:i2<=la)(l2:j2<=lb):F8 la lb e ⟨ah,i1,i2,j1,j2⟩ :=
 ⟨.inl rfl,fun O=>⟨k,h1,h2,hr⟩,fun q=>absurd (show ah=bb from q) (by decide),fun q=>absurd (show ah=bc from q) (by decide),fun q=>absurd (show ah=ba∨ah=bc from q) (by decide),
  fun q=>absurd (show ah=ba∨ah=bb from q) (by decide),⟨h1▸Nat.le_add_right ..,l1⟩,⟨h2▸Nat.le_add_right ..,l2⟩⟩
theorem F8.cutL(h:F8 la lb e o)(he:o.tag=ah):F8 la lb e ⟨o.tag,o.i1,min o.i2 (o.i1+n),o.j1,min o.j2 (o.j1+n)⟩ :=
 aU (h.eq he) fun k h1 h2 h3=>by
  rw[he,h1,h2,Nat.add_min_add_left,Nat.add_min_add_left];exact .ofEq rfl rfl (fun d hd=>h3 d (Nat.lt_of_lt_of_le hd (Nat.min_le_left ..))) (d7 (Nat.add_le_add_left (Nat.min_le_left ..) _) (h1▸h.i2.2)) (d7 (Nat.add_le_add_left (Nat.min_le_left ..) _) (h2▸h.j2.2))
theorem GA{a:Nat}:a+k=a+(k-n)+min k n:=by rw[Nat.add_assoc,Nat.sub_add_min_cancel]
theorem F8.cutR(h:F8 la lb e o)(he:o.tag=ah):F8 la lb e ⟨o.tag,max o.i1 (o.i2-n),o.i2,max o.j1 (o.j2-n),o.j2⟩ :=
 aU (h.eq he) fun k h1 h2 h3=>by
  have l1:=h.i2.2;have l2:=h.j2.2;rw[h1] at l1;rw[h2] at l2;rw[he,h1,h2,yl,yl,Nat.add_sub_cancel_left,Nat.add_sub_cancel_left];refine .ofEq (k:=min k n) GA GA (fun d hd=>?_) l1 l2
  have:=h3 (k-n+d) (Nat.lt_of_lt_of_eq (Nat.add_lt_add_left hd _) (Nat.sub_add_min_cancel ..));rw[← Nat.add_assoc,← Nat.add_assoc] at this;exact this
theorem F8.head(h:F8 la lb e o):F8 la lb e (br n o):=by
 unfold br;split
 ·rename_i he
  exact h.cutR he
 ·exact h
theorem F8.last(h:F8 la lb e o):F8 la lb e (aZ n o):=by
 unfold aZ;split
 ·rename_i he
  exact h.cutL he
 ·exact h
end
theorem Dj{Q:Op->Prop}{f:Op->Op}(hf:∀o,Q o->Q (f o)):∀os:List Op,(∀o∈os,Q o)->∀o∈ce f os,Q o
 | [],_=>bC
 | [o],h=>fun p hp=>ZK.mp hp▸hf o (h o (Zr ..))
 |o::p::os,h=>fun q hq=>(Zy.mp hq).elim (fun e=>e▸h o (Zr ..)) (Dj hf (p::os) (fun r hr=>h r (Zt _ hr)) q)
theorem OJ{Q:Op->Prop}{f:Op->Op}(hf:∀o,Q o->Q (f o)):∀os:List Op,(∀o∈os,Q o)->∀o∈iR f os,Q o
 | [],_=>bC
 |o::os,h=>fun p hp=>(Zy.mp hp).elim (fun e=>e▸hf o (h o (Zr ..))) fun hp=>h p (Zt _ hp)
theorem Sr{la lb:Nat}{codes:List Op}(h:∀o∈codes,F8 la lb e o):∀g∈aI n codes,∀o∈g,F8 la lb e o:=by
 by_cases hc:codes=[]
 ·rw[hc,kX];exact bC
 ·unfold aI eK;rw[List.isEmpty_eq_false_iff.mpr hc];refine K7 _ [] bC (Dj (fun O h=>h.last) _ (OJ (fun O h=>h.head) _ h))
where
 K7 {la lb n:Nat} {e:Nat->Nat->Bool}:∀(codes group:List Op),(∀o∈group,F8 la lb e o)->(∀o∈codes,F8 la lb e o)->∀g∈bt n group codes,∀o∈g,F8 la lb e o
 | [],group,h1,_=>fi (P:=fun l=>∀g∈l,∀o∈g,F8 la lb e o) (fun O=>bC) (fun O=>bC) fun O O g hg=>ZK.mp hg▸h1
 |o::os,group,h1,h2=>by
  have ho:=h2 o (Zr ..);have h3:∀p∈os,F8 la lb e p:=fun p hp=>h2 p (Zt _ hp);refine nZ (P:=fun l=>∀g∈l,∀o∈g,F8 la lb e o) (fun c g hg=>?_) fun O=>K7 os _ (T7 h1 ho) h3;rcases Zy.mp hg with rfl |hg
  ·exact T7 h1 (ho.cutL c.1)
  ·exact K7 os _ (fun p hp=>ZK.mp hp▸ho.cutR c.1) h3 g hg
 T7 {Q:Op->Prop} {xs:List Op} {x:Op} (h1:∀t∈xs,Q t) (h2:Q x) (t:Op) (h:t∈xs++[x]):Q t:=(d8.mp h).elim (h1 t) fun h=>ZK.mp h▸h2
def R5(g:List Op):Prop:=∃o∈g,o.tag≠ah
theorem R5.app{g:List Op}(h:R5 g)(o:Op):R5 (g++[o]):=by
 obtain⟨p,hp,q⟩:=h;exact⟨p,f8 _ hp,q⟩
def HP(os:List Op):Prop:=∀p ps,os=p::ps->p.tag≠ah
def XC(n:Nat)(group codes:List Op):Prop:=R5 group∨(∃e,group=[e]/\e.tag=ah/\HP codes)∨(group=[]/\∀p ps,codes=p::ps->p.tag=ah->p.i2<=p.i1+(n+n))
theorem P8.noEq{o:Op}(h:P8 (o::os))(he:o.tag=ah):HP os:=fun p ps e q=>by
 subst e;exact h.1 ⟨he,q⟩
theorem SC(codes:List Op):∀group,P8 codes->XC n group codes->∀g∈bt n group codes,R5 g:=by
 induction codes with
 |nil=>exact fun group O h=>fi (P:=fun l=>∀g∈l,R5 g) (fun O=>bC) (fun O=>bC) fun h1 h2 g hg=>ZK.mp hg▸h.elim (fun h=>h) fun h=>h.elim (fun h=>aU h fun e e1 he O=>absurd (e1▸⟨rfl,congrArg some he⟩) h2) fun h=>absurd (h.1▸rfl) h1
 |cons o os ih =>
  intro group ha h;have hc:o.tag=ah->R5 (group++[o])∨group=[]:=fun he=>h.elim (fun h => .inl (h.app _)) fun h=>h.elim (fun h=>aU h fun e O O k=>absurd he (k o os rfl)) fun h => .inr h.1;refine nZ (P:=fun l=>∀g∈l,R5 g) (fun c g hg=>(Zy.mp hg).elim (fun e=>e▸?_) (ih _ ha.tail (.inr (.inl ⟨⟨o.tag,max o.i1 (o.i2-n),o.i2,max o.j1 (o.j2-n),o.j2⟩,rfl,c.1,ha.noEq c.1⟩)) g)) fun c=>ih _ ha.tail ?_
  ·exact h.elim (fun h=>h.app _) fun h=>h.elim (fun h=>aU h fun e O O k=>absurd c.1 (k o os rfl)) fun h=>absurd (h.2 o os rfl c.1) (Nat.not_le.mpr c.2)
  ·exact(Decidable.em (o.tag=ah)).elim (fun he=>(hc he).elim .inl fun e => .inr (.inl ⟨o,(congrArg (· ++ [o]) e).trans rfl,he,ha.noEq he⟩)) fun he => .inl ⟨o,ZY _ (ZK.mpr rfl),he⟩
theorem P8.head{o:Op}(h:P8 (o::os)):P8 (br n o::os):=by
 cases os with
 |nil=>trivial
 |cons p os=>exact⟨nX n o▸h.1,h.2⟩
theorem P8.last:∀ {os:List Op},P8 os->P8 (ce (aZ n) os)
 | [],_=>trivial
 | [o],_=>trivial
 | [o,p],h=>⟨(kN n p).symm▸h.1,trivial⟩
 |o::p::q::os,h=>⟨h.1,P8.last h.2⟩
theorem FB{codes:List Op}(ha:P8 codes):∀g∈aI n codes,R5 g:=by
 cases codes with
 |nil=>rw[kX];exact bC
 |cons o os =>
  show ∀g∈bt n [] (ce (aZ n) (br n o::os)),R5 g;refine SC _ [] ha.head.last (.inr (.inr ⟨rfl,fun p ps e he=>?_⟩));cases os with
  |nil=>exact(p5 e).1▸Nat.not_lt.mp fun q=>yk ⟨(p5 e).1.symm▸he,q⟩
  |cons q qs=>exact(p5 e).1▸Nat.not_lt.mp fun q=>Fm ⟨(p5 e).1.symm▸he,q⟩
theorem FF:∀(codes group:List Op),(∀o∈codes,o.i2<=n)->bt n group codes=bt n (group++codes) []
 | [],group,_=>by rw[g7]
 |o::os,group,h=>(kY fun c=>Nat.not_lt.mpr (d7 (h o (Zr ..)) (d7 (Nat.le_add_left n n) (Nat.le_add_left ..))) c.2).trans ((FF os _ fun p hp=>h p (Zt _ hp)).trans (sP group o os▸rfl))
theorem Dh{f:Op->Op}:∀os:List Op,(∀o∈os,f o=o)->ce f os=os
 | [],_=>rfl
 | [o],h=>congrArg (· :: []) (h o (Zr ..))
 |o::p::os,h=>congrArg (o :: ·) (Dh (p::os) fun q hq=>h q (Zt _ hq))
theorem Ss{codes:List Op}(h:∀o∈codes,o.i1<=o.i2/\o.i2<=n/\o.j1<=o.j2/\o.j2<=n)(I3:aI n codes≠[]):aI n codes=[codes]:=by
 have e:aI n codes=bt n codes []:=by
  unfold aI eK;cases codes with
  |nil=>exact absurd kX I3
  |cons o os =>
   have ho:=h o (Zr ..);have hh:br n o=o:=iteInduction (motive:=(· = o)) (fun O=>by rw[Nat.sub_eq_zero_of_le ho.2.1,Nat.sub_eq_zero_of_le ho.2.2.2,Nat.max_zero,Nat.max_zero]) fun O=>rfl;show bt n [] (ce (aZ n) (br n o::os))=_;rw[hh,Dh _ fun p hp=>?_,FF _ [] fun p hp=>(h p hp).2.1]
   ·rfl
   ·have hp:=h p hp;exact iteInduction (motive:=(· = p)) (fun O=>by rw[Nat.min_eq_left (d7 hp.2.1 (Nat.le_add_left ..)),Nat.min_eq_left (d7 hp.2.2.2 (Nat.le_add_left ..))]) fun O=>rfl
 rw[e] at I3 ⊢;exact fi (P:=fun l=>l≠[]->l=[codes]) (fun O q=>absurd rfl q) (fun O q=>absurd rfl q) (fun O O O=>rfl) I3
theorem Jq(x y:Str):(x++y).cps.toList=x.cps.toList++y.cps.toList:=Array.toList_append ..
def J4(l:List Nat)(x:Str):Prop:=∃r,x.cps.toList=l++r
theorem J4.app{l:List Nat}(y:Str)(h:J4 l x):J4 l (x++y):=by
 obtain⟨r,e⟩:=h;exact⟨r++y.cps.toList,by rw[Jq,e,ZW]⟩
noncomputable def aW(c d:Nat)(x:Str):Str:=⟨(c::d::x.cps.toList).toArray⟩
theorem fw(c d:Nat)(x:Str):(⟨⟨[c,d]⟩⟩:Str)++x=aW c d x:=congrArg Str.mk (by
 show (#[c,d]:Array Nat)++x.cps=_;rw[← Array.toList_inj];simp)
theorem tU(c:Nat)(x:Str):(⟨⟨[c]⟩⟩:Str)++av x=aW c 32 x:=congrArg Str.mk (by
 show (#[c]:Array Nat)++((#[32]:Array Nat)++x.cps)=_;rw[← Array.toList_inj];simp)
theorem rW(c:Nat)(x:Str)(h:c≠33)(i:Nat):bM i (aW c 32 x)=aW c 32 x:=if_neg h
theorem EC(x:Str):bM 0 (aW 33 32 x)=aW 45 32 x:=two_one 45 x
where two_one (c:Nat) (x:Str):(⟨#[c]⟩:Str)++cW 1 (aW 33 32 x)=aW c 32 x:=congrArg Str.mk (by
 show (#[c]:Array Nat)++(32::x.cps.toList).toArray=_;rw[← Array.toList_inj];simp)
theorem PR(x:Str):bM 1 (aW 33 32 x)=aW 43 32 x:=EC.two_one 43 x
noncomputable def dy(t:Str)(r:Str):Bool:=cc 2 r==MY||cc 2 r==t
theorem LL(t:Str)(xs:List Str):aL t xs=(xs.filter (dy t)).map (cW 2):=rfl
theorem iC(t:Str)(xs ys:List Str):aL t (xs++ys)=aL t xs++aL t ys:=by rw[LL,List.filter_append,ZT];rfl
theorem jL(t:Str)(f:Op->List Str):∀g:List Op,aL t (g.flatMap f)=g.flatMap fun o=>aL t (f o)
 | []=>rfl
 |o::g=>by rw[List.flatMap_cons,iC,jL t f g];rfl
theorem BL{t:Str}{xs:List Str}:aL t (x::xs)=if dy t x=true then cW 2 x::aL t xs else aL t xs:=pE
theorem fW{t:Str}(h:dy t (aW c 32 ⟨#[]⟩)=true):∀xs:List Str,aL t (xs.map (aW c 32))=xs
 | []=>rfl
 |x::xs=>by rw[ZD,BL,if_pos (show dy t (aW c 32 x)=true from h),fW h xs];rfl
theorem lU{t:Str}(h:dy t (aW c 32 ⟨#[]⟩)=false):∀xs:List Str,aL t (xs.map (aW c 32))=[]
 | []=>rfl
 |x::xs=>by rw[ZD,BL,if_neg (show ¬ dy t (aW c 32 x)=true from Bool.eq_false_iff.mp h),lU h xs]
theorem uE{t r:Str}{xs:List Str}(h:dy t r=false):aL t (r::xs)=aL t xs:=by rw[pE];exact if_neg (Bool.eq_false_iff.mp h)
section
variable{a b:List Str}{o:Op}(h:F8 a.length b.length (ay a b) o)
noncomputable def sA(a:List Str)(o:Op):List Str:=aV a o.i1 o.i2
noncomputable def sB(b:List Str)(o:Op):List Str:=aV b o.j1 o.j2
theorem gJ{a:List Str}(e:i=j):aV a i j=[]:=by unfold aV;rw[e,Nat.sub_self];rfl
theorem lL{a:List Str}(h1:i<j)(h2:j<=a.length):aV a i j≠[]:=fun e=>by
 have:=congrArg y6 e;unfold aV at this;rw[List.length_take,List.length_drop,ZR,Nat.min_eq_left (Nat.sub_le_sub_right h2 i)] at this;exact Nat.ne_of_gt (Nat.sub_pos_of_lt h1) this
include h in
theorem uh(he:o.tag=ah):sB b o=sA a o:=by
 obtain⟨k,h1,h2,h3⟩:=h.eq he;unfold sA sB aV;rw[h1,h2,Nat.add_sub_cancel_left,Nat.add_sub_cancel_left];refine List.ext_getElem? fun d=>?_;rw[List.getElem?_take,List.getElem?_take];split
 ·rename_i hd
  rw[List.getElem?_drop,List.getElem?_drop];exact(eq_of_beq (h3 d hd)).symm
 ·rfl
theorem Ks(f:Str->Str)(a:List Str)(i j:Nat):aV (a.map f) i j=(aV a i j).map f:=by unfold aV;rw[List.map_take,List.map_drop]
theorem ue(c:Nat)(a:List Str)(i j:Nat):(aV (a.map av) i j).map (⟨⟨[c]⟩⟩ ++ ·)=(aV a i j).map (aW c 32):=by
 rw[Ks,m4];exact p9 fun x O=>tU c x
theorem mn(he:o.tag=ah):de (a.map av) (b.map av) o=(sA a o).map (aW 32 32):=by unfold de;rw[if_pos he,ue];rfl
theorem kl(he:o.tag≠ah):de (a.map av) (b.map av) o=(if o.tag=ba∨o.tag=bc then (sA a o).map (aW 45 32) else [])++(if o.tag=ba∨o.tag=bb then (sB b o).map (aW 43 32) else []):=by
 unfold de;rw[if_neg he,ue,ue];rfl
theorem iu{t:Str}(h:lm t)(he:t≠ah):t=ba∨t=bc∨t=bb:=h.elim (fun e=>absurd e he) id
include h in
theorem BK:aL eN (de (a.map av) (b.map av) o)=sA a o:=by
 by_cases he:o.tag=ah
 ·rw[mn he,fW (by decide)]
 ·rw[kl he,iC];have k:aL eN (if o.tag=ba∨o.tag=bb then (sB b o).map (aW 43 32) else [])=[]:=by
   split
   ·exact lU (by decide) _
   ·rfl
  rw[k,g7];split
  ·exact fW (by decide) _
  ·rename_i c
   exact(gJ (h.ins ((iu h.tg he).elim (fun e=>absurd (.inl e) c) fun e=>e.elim (fun e=>absurd (.inr e) c) id))).symm
include h in
theorem BJ:aL eM (de (a.map av) (b.map av) o)=sB b o:=by
 by_cases he:o.tag=ah
 ·rw[mn he,fW (by decide),uh h he]
 ·rw[kl he,iC];have k:aL eM (if o.tag=ba∨o.tag=bc then (sA a o).map (aW 45 32) else [])=[]:=by
   split
   ·exact lU (by decide) _
   ·rfl
  rw[k,ZH];split
  ·exact fW (by decide) _
  ·rename_i c
   exact(gJ (h.del ((iu h.tg he).elim (fun e=>absurd (.inl e) c) fun e=>e.elim id fun e=>absurd (.inr e) c))).symm
noncomputable def mA(o:Op):Nat:=if o.tag=ah then 32 else 45
noncomputable def mB(o:Op):Nat:=if o.tag=ah then 32 else 43
include h in
theorem OB:(dQ a o).map (bM 0)=(sA a o).map (aW (mA o) 32):=by
 have e:=h.tg;have k:∀c d,(∀x,bM 0 (aW c 32 x)=aW d 32 x)->((aV a o.i1 o.i2).map (⟨⟨[c,32]⟩⟩ ++ ·)).map (bM 0)=(sA a o).map (aW d 32):=fun c d q=>by
  rw[m4];exact p9 fun x O=>(congrArg (bM 0) (fw c 32 x)).trans (q x)
 unfold dQ mA;rcases e with e |e |e |e <;> rw[e]
 ·exact k 32 32 fun x=>rW 32 x (by decide) 0
 ·exact k 33 45 EC
 ·exact k 45 45 fun x=>rW 45 x (by decide) 0
 ·rw[show sA a o=[] from gJ (h.ins e)];rfl
include h in
theorem Oy:(dO b o).map (bM 1)=(sB b o).map (aW (mB o) 32):=by
 have e:=h.tg;have k:∀c d,(∀x,bM 1 (aW c 32 x)=aW d 32 x)->((aV b o.j1 o.j2).map (⟨⟨[c,32]⟩⟩ ++ ·)).map (bM 1)=(sB b o).map (aW d 32):=fun c d q=>by
  rw[m4];exact p9 fun x O=>(congrArg (bM 1) (fw c 32 x)).trans (q x)
 unfold dO mB;rcases e with e |e |e |e <;> rw[e]
 ·exact k 32 32 fun x=>rW 32 x (by decide) 1
 ·exact k 33 43 PR
 ·rw[show sB b o=[] from gJ (h.del e)];rfl
 ·exact k 43 43 fun x=>rW 43 x (by decide) 1
end
theorem gZ{f f':Op->List Str}:∀ {g:List Op},(∀o∈g,f o=f' o)->g.flatMap f=g.flatMap f'
 | [],_=>rfl
 |o::g,h=>by rw[List.flatMap_cons,List.flatMap_cons,h o (Zr ..),gZ fun p hp=>h p (Zt _ hp)]
theorem Gc{f:Op->List Str}{g:List Op}{o:Op}(ho:o∈g)(h:f o≠[]):g.flatMap f≠[]:=fun e=>h (List.flatMap_eq_nil_iff.mp e o ho)
theorem nW{o:Op}:fe o=true↔o.tag=ba∨o.tag=bc:=by unfold fe;rw[Bool.or_eq_true,beq_iff_eq,beq_iff_eq]
theorem nV{o:Op}:fc o=true↔o.tag=ba∨o.tag=bb:=by unfold fc;rw[Bool.or_eq_true,beq_iff_eq,beq_iff_eq]
theorem fM{f:Op->Bool}{g:List Op}:(g.map f).any id=true↔∃o∈g,f o=true:=by rw[List.any_map,List.any_eq_true];exact Iff.rfl
noncomputable def dv(a b:List Str)(g:List Op):List Str×List Str:=((ez a g).map (bM 0),(dz b g).map (bM 1))
section
variable{a b:List Str}{g:List Op}(hf:∀o∈g,F8 a.length b.length (ay a b) o)(hc:R5 g)
theorem Rk(o:Op):dy eN (aW (mA o) 32 ⟨#[]⟩)=true:=by unfold mA;split <;> decide
theorem Rj(o:Op):dy eM (aW (mB o) 32 ⟨#[]⟩)=true:=by unfold mB;split <;> decide
include hf in
theorem EF:(g.flatMap (dQ a)).map (bM 0)=g.flatMap fun o=>(sA a o).map (aW (mA o) 32):=by
 rw[List.map_flatMap];exact gZ fun o ho=>OB (hf o ho)
include hf in
theorem EE:(g.flatMap (dO b)).map (bM 1)=g.flatMap fun o=>(sB b o).map (aW (mB o) 32):=by
 rw[List.map_flatMap];exact gZ fun o ho=>Oy (hf o ho)
include hf hc in
theorem NZ:cO (dv a b g)=g.flatMap (sA a):=by
 unfold cO dv ez dz;dsimp only;by_cases c:(g.map fe).any id=true
 ·obtain⟨o,ho,q⟩:=fM.mp c;have h:=hf o ho;have e:sA a o≠[]:=lL (h.ne1 (nW.mp q)) h.i2.2;rw[if_pos c,EF hf,if_neg (Gc ho fun k=>e (List.map_eq_nil_iff.mp k)),jL];exact gZ fun p hp=>fW (Rk p) _
 ·rw[if_neg c,y2,if_pos rfl];have d:(g.map fc).any id=true:=by
   obtain⟨o,ho,q⟩:=hc;refine fM.mpr ⟨o,ho,nV.mpr ?_⟩;exact(iu (hf o ho).tg q).elim .inl fun k=>k.elim (fun k=>absurd (fM.mpr ⟨o,ho,nW.mpr (.inr k)⟩) c) .inr
  rw[if_pos d,EE hf,jL];refine gZ fun p hp=>?_;have h:=hf p hp;by_cases he:p.tag=ah
  ·rw[show mB p=32 from if_pos he,fW (by decide),uh h he]
  ·rw[show mB p=43 from if_neg he,lU (by decide)];exact(gJ (h.ins ((iu h.tg he).elim (fun k=>absurd (fM.mpr ⟨p,hp,nW.mpr (.inl k)⟩) c) fun k=>k.elim (fun k=>absurd (fM.mpr ⟨p,hp,nW.mpr (.inr k)⟩) c) id))).symm
include hf hc in
theorem NY:cM (dv a b g)=g.flatMap (sB b):=by
 unfold cM dv ez dz;dsimp only;by_cases c:(g.map fc).any id=true
 ·obtain⟨o,ho,q⟩:=fM.mp c;have h:=hf o ho;have e:sB b o≠[]:=lL (h.ne2 (nV.mp q)) h.j2.2;rw[if_pos c,EE hf,if_neg (Gc ho fun k=>e (List.map_eq_nil_iff.mp k)),jL];exact gZ fun p hp=>fW (Rj p) _
 ·rw[if_neg c,y2,if_pos rfl];have d:(g.map fe).any id=true:=by
   obtain⟨o,ho,q⟩:=hc;refine fM.mpr ⟨o,ho,nW.mpr ?_⟩;exact(iu (hf o ho).tg q).elim .inl fun k=>k.elim .inr fun k=>absurd (fM.mpr ⟨o,ho,nV.mpr (.inr k)⟩) c
  rw[if_pos d,EF hf,jL];refine gZ fun p hp=>?_;have h:=hf p hp;by_cases he:p.tag=ah
  ·rw[show mA p=32 from if_pos he,fW (by decide),uh h he]
  ·rw[show mA p=45 from if_neg he,lU (by decide)];exact(gJ (h.del ((iu h.tg he).elim (fun k=>absurd (fM.mpr ⟨p,hp,nV.mpr (.inl k)⟩) c) fun k=>k.elim id fun k=>absurd (fM.mpr ⟨p,hp,nV.mpr (.inr k)⟩) c))).symm
end
theorem Ga(d:List (List Str×List Str))(m:List Str):∀(C5 l:List Str),(∀r∈C5,ci r=false)->C5.foldl bE ⟨d,some (l,m),0⟩=⟨d,some (l++C5.map (bM 0),m),0⟩
 | [],l,_=>by rw[y2,g7];rfl
 |r::C5,l,h=>by
  rw[g6,Fw (h r (Zr ..)),Ga d m C5 _ fun q hq=>h q (Zt _ hq),ZW];rfl
theorem FZ(d:List (List Str×List Str))(l:List Str):∀(C5 m:List Str),(∀r∈C5,ci r=false)->C5.foldl bE ⟨d,some (l,m),1⟩=⟨d,some (l,m++C5.map (bM 1)),1⟩
 | [],m,_=>by rw[y2,g7];rfl
 |r::C5,m,h=>by
  rw[g6,Fv (h r (Zr ..)),FZ d l C5 _ fun q hq=>h q (Zt _ hq),ZW];rfl
theorem tZ{d:Nat}{l:List Nat}(h:J4 (c::d::l) x):cc 2 x=⟨⟨[c,d]⟩⟩:=by
 obtain⟨r,e⟩:=h;unfold cc;rw[e];rfl
theorem sr{l:List Nat}(h:J4 (c::l) x):dA x=c:=by
 obtain⟨r,e⟩:=h;unfold dA;rw[e];rfl
theorem GT(r:Str):J4 [42,42,42,32] (lg r aN):=J4.app _ (J4.app _ (J4.app r (show J4 [42,42,42,32] (Zw "*** ") from⟨[],by decide +kernel⟩)))
theorem GE(r:Str):J4 [45,45,45,32] (gq r aN):=J4.app _ (J4.app _ (J4.app r (show J4 [45,45,45,32] (Zw "--- ") from⟨[],by decide +kernel⟩)))
theorem rK(h:J4 [c,c,c,32] x):(x==jG)=false:=beq_eq_false_iff_ne.mpr fun e=>by
 obtain⟨r,k⟩:=h;rw[e] at k
 have:=congrArg (fun l=>l[3]?) k;exact absurd this (by show some 42≠some 32;decide)
theorem so(h:ci (aW c 32 ⟨#[]⟩)=false)(x:Str):ci (aW c 32 x)=false:=h
theorem Fo(t:Str)(x:Str):ci (cF t++x)=false:=by
 unfold cF;split
 ·rw[fw];exact so (by decide) x
 ·split
  ·rw[fw];exact so (by decide) x
  ·split
   ·rw[fw];exact so (by decide) x
   ·rw[fw];exact so (by decide) x
theorem Fq{c:Bool}{f:Op->List Str}{p:Op->Prop}[∀o,Decidable (p o)]{a:List Str}{g:List Op}{r:Str}(hs:∀o,∀x∈f o,x∈a)(h:r∈if c=true then g.flatMap fun o=>if p o then [] else (f o).map (cF o.tag ++ ·) else []):∃t,∃x∈a,r=cF t++x:=by
 split at h
 ·obtain⟨o,_,h⟩:=List.mem_flatMap.mp h;split at h
  ·cases h
  ·obtain⟨x,hx,e⟩:=ZV.mp h;exact⟨_,x,hs o x hx,e.symm⟩
 ·cases h
theorem nO{a:List Str}(h:x∈aV a i j):x∈a:=List.mem_of_mem_drop (List.mem_of_mem_take h)
theorem yE{a:List Str}{g:List Op}{r:Str}(h:r∈ez a g):∃t,∃x∈a,r=cF t++x:=Fq (c:=(g.map fe).any id) (f:=sA a) (p:=fun o=>o.tag=bb) (fun O O h=>nO h) h
theorem yD{b:List Str}{g:List Op}{r:Str}(h:r∈dz b g):∃t,∃x∈b,r=cF t++x:=Fq (c:=(g.map fc).any id) (f:=sB b) (p:=fun o=>o.tag=bc) (fun O O h=>nO h) h
theorem yx{l:List Nat}(h:J4 (42::42::l) x):ci x=true:=by unfold ci;rw[tZ h];decide
theorem yw{l:List Nat}(h:J4 (45::45::l) x):ci x=true:=by unfold ci;rw[tZ h];decide
theorem Sl(a b:List Str)(g:List Op)(st:R6):(fL a b aN g).foldl bE st=⟨st.all,some (dv a b g),1⟩:=by
 unfold fL;have e1:=GT (bJ (aG g).i1 (aD g).i2);have e2:=GE (bJ (aG g).j1 (aD g).j2);rw[g6,yF (by decide +kernel) (by decide +kernel),if_pos (by decide +kernel),g6,nY (yx e1) (rK e1),if_pos (sr e1),List.foldl_append,
  Ga _ _ _ _ fun r hr=>by
   obtain⟨t,x,_,rfl⟩:=yE hr;exact Fo t x,
  g6,nY (yw e2) (rK e2),if_neg (by rw[sr e2];decide),FZ _ _ _ _ fun r hr=>by
   obtain⟨t,x,_,rfl⟩:=yD hr;exact Fo t x]
 rfl
theorem Bw(a b:List Str)(ff tf fd td:Str):∀(gs:List (List Op)) (st:R6),((cE a b ff tf fd td aN true gs).foldl bE st).all=st.all++gs.map (dv a b)
 | [],st=>(g7 _).symm
 |g::gs,st=>by
  show (((fL a b aN g++cE a b ff tf fd td aN true gs)).foldl bE st).all=_;rw[List.foldl_append,Sl,Bw a b ff tf fd td gs];show st.all++[dv a b g]++_=_;rw[ZW];rfl
theorem sJ:J4 [42,42,42,32] (yU ag (dB ag) aN):=J4.app _ (J4.app _ (J4.app ag (show J4 [42,42,42,32] (Zw "*** ") from⟨[],by decide +kernel⟩)))
theorem iq:J4 [45,45,45,32] (su ag (dB ag) aN):=J4.app _ (J4.app _ (J4.app ag (show J4 [45,45,45,32] (Zw "--- ") from⟨[],by decide +kernel⟩)))
theorem Sb:(kS ag ag ag ag aN).foldl bE ⟨[],none,0⟩=⟨[],none,1⟩:=by
 unfold kS;rw[g6,nY (yx sJ) (rK sJ),if_pos (sr sJ),g6,nY (yw iq) (rK iq),if_neg (by rw[sr iq];decide)];rfl
theorem CX(a b:List Str)(gs:List (List Op)):((cE a b ag ag ag ag aN false gs).foldl bE ⟨[],none,0⟩).all=gs.map (dv a b):=by
 cases gs with
 |nil=>rfl
 |cons g gs =>
  show ((kS ag ag ag ag aN++(cE a b ag ag ag ag aN true (g::gs))).foldl bE ⟨[],none,0⟩).all=_;rw[List.foldl_append,Sb,Bw];rfl
theorem UM{st:R6}{r:Str}(h:st.cur.isSome=true):(bE st r).cur.isSome=true:=by
 obtain⟨d,c,f⟩:=st;cases c with
 |none=>cases h
 |some p =>
  obtain⟨l,m⟩:=p;unfold bE;split
  ·split <;> rfl
  ·dsimp only;split <;> rfl
theorem Fx:∀(C5:List Str) (st:R6),st.cur.isSome=true->jl st C5
 | [],_,_=>trivial
 |r::C5,st,h=>⟨.inr h,Fx C5 _ (UM h)⟩
theorem Si(a b:List Str)(gs:List (List Op)):jl ⟨[],none,0⟩ (cE a b ag ag ag ag aN false gs):=by
 cases gs with
 |nil=>trivial
 |cons g gs =>
  refine⟨.inl (yx sJ),.inl (yw iq),.inl (by decide +kernel),Fx _ _ ?_⟩;rw[yF (by decide +kernel) (by decide +kernel)];rfl
theorem uf(x y:Str)(h:av x=av y):x=y:=by
 have e:=congrArg (fun z=>cW 2 ((⟨⟨[0]⟩⟩:Str)++z)) h;rw[tU,tU] at e;exact e
noncomputable abbrev aX(a b:List Str):List Op:=bR (aQ (aM a b) a.length b.length)
theorem Oe(a b:List Str):aX (a.map av) (b.map av)=aX a b:=by
 have e:aM (a.map av) (b.map av)=aM a b:=(TO uf (g:=id) (fun O O h=>h) a b).trans (by rw[List.map_id,List.map_id]);unfold aX;rw[e,Zu,Zu]
noncomputable def gH(r:Str):Bool×Str:=(gx r,r)
noncomputable abbrev cy(a b:List Str)(o:Op):List Str:=de (a.map av) (b.map av) o
noncomputable abbrev uB(a b:List Str)(o:Op):List (Bool×Str):=bX (a.map (aW 32 32)) (cy a b) o
section
variable{a b:List Str}
theorem LG(o:Op):uB a b o=(cy a b o).map gH:=by
 unfold uB bX;by_cases he:o.tag=ah
 ·rw[if_pos he,show cy a b o=_ from mn he,m4,← List.map_drop,← List.map_take,m4];rfl
 ·rw[if_neg he,show cy a b o=_ from kl he];refine p9 fun x hx=>?_;have k:∀ {c:Nat} {p:Prop} [Decidable p] {xs:List Str},c≠32->x∈(if p then xs.map (aW c 32) else [])->fT x=gH x:=fun{c} {p} _ {xs} hc h=>by
   split at h
   ·obtain⟨y,_,rfl⟩:=ZV.mp h;show (true,_)=(!decide (c=32),_);rw[decide_eq_false hc];rfl
   ·cases h
  exact(d8.mp hx).elim (k (by decide)) (k (by decide))
theorem Bx(os:List Op):os.flatMap (uB a b)=(os.flatMap (cy a b)).map gH:=by
 rw[List.map_flatMap];exact congrArg (fun f=>os.flatMap f) (funext fun o=>LG o)
theorem OY(n:Nat)(R:List Str):rO n (R.map gH)=(eV n R).map gH:=by
 unfold rO eV;rw[List.map_filterMap,Zu];refine congrArg (fun f=>(g9 0 R.length).filterMap f) (funext fun k=>?_);have e:jD n (R.map gH) k=((R.drop (k-n)).take (k+n+1-(k-n))).any gx:=by
  unfold jD;rw[← List.map_drop,← List.map_take,List.any_map];rfl
 rw[e,d4];unfold eU lC;by_cases c:((R.drop (k-n)).take (k+n+1-(k-n))).any gx=true
 ·rw[if_pos c,if_neg fun q=>?_];obtain⟨x,hx,hc⟩:=List.any_eq_true.mp c;exact List.filter_eq_nil_iff.mp q x hx hc
 ·rw[if_neg c,if_pos (List.filter_eq_nil_iff.mpr fun x hx hc=>c (List.any_eq_true.mpr ⟨x,hx,hc⟩))];rfl
theorem vF(a b:List Str):∀o∈aX a b,F8 a.length b.length (ay a b) o:=Oi a b
theorem kU(a b:List Str)(n:Nat):∀g∈aI n (aX a b),∀o∈g,F8 a.length b.length (ay a b) o:=Sr (vF a b)
theorem vG(a b:List Str):P8 (aX a b):=Oj (dH (ay a b) (aO a b)) a.length b.length
theorem Om{o:Op}(h:F8 a.length b.length (ay a b) o)(he:o.tag≠ah):cy a b o≠[]:=by
 rw[show cy a b o=_ from kl he];intro e;have e:=List.append_eq_nil_iff.mp e;rcases iu h.tg he with q |q |q
 ·rw[if_pos (.inl q)] at e;exact lL (h.ne1 (.inl q)) h.i2.2 (List.map_eq_nil_iff.mp e.1)
 ·rw[if_pos (.inr q)] at e;exact lL (h.ne1 (.inr q)) h.i2.2 (List.map_eq_nil_iff.mp e.1)
 ·have e2:=e.2;rw[if_pos (.inr q)] at e2;exact lL (h.ne2 (.inr q)) h.j2.2 (List.map_eq_nil_iff.mp e2)
noncomputable def eC(a b:List Str)(gs:List (List Op)):List Str:=gs.flatMap fun g=>g.flatMap (cy a b)
theorem Jv:∀ {xs ys:List Str},xs.map gH=ys.map gH->xs=ys:=fun{xs ys} h=>by
 have:=congrArg (List.map Prod.snd) h;rw[m4,m4] at this;exact(List.map_id xs).symm.trans (this.trans (List.map_id ys))
theorem En(a b:List Str)(n:Nat):eV n ((aX a b).flatMap (cy a b))=eC a b (aI n (aX a b)):=Jv (by
 rw[← OY,← Bx,← So (aX a b) (vG a b) fun o ho=>?_]
 ·unfold eC;rw[List.map_flatMap];exact congrArg (fun f=>(aI n (aX a b)).flatMap f) (funext fun g=>Bx g)
 ·have h:=vF a b o ho;exact⟨fun he=>⟨h.i2.1,by rw[Zu];exact h.i2.2⟩,fun he=>Om h he⟩)
theorem ir(a b:List Str)(n:Nat):ei (a.map av) (b.map av) n=dk (a.map av) (b.map av) ag ag ag ag aN false (aI n (aX a b)):=by
 show dk _ _ _ _ _ _ _ _ (aI n (aX (a.map av) (b.map av)))=_;rw[Oe]
theorem GZ(a b:List Str)(h:a≠b):aI (a.length+b.length) (aX a b)=[aX a b] :=
 Ss (fun o ho=>have h:=vF a b o ho;⟨h.i2.1,d7 h.i2.2 (Nat.le_add_right ..),h.j2.1,d7 h.j2.2 (Nat.le_add_left ..)⟩) fun e=>h ((yH a b _).mp e)
theorem yN(a b:List Str)(h:a=b):dW a b=[]:=by
 unfold dW;rw[ir,show aI (a.length+b.length) (aX a b)=[] from(yH a b _).mpr h];rfl
theorem SZ(a b:List Str)(h:a≠b):∃x y z,dW a b=x::y::z::(aX a b).flatMap (cy a b):=by
 unfold dW;rw[ir,GZ a b h];refine⟨_,_,_,congrArg (fun l=>_::_::_::l) (g7 _)⟩
theorem Gs(a b:List Str)(n:Nat):lh n a b=eC a b (aI n (aX a b)):=by
 unfold lh;by_cases h:a=b
 ·rw[yN a b h,show aI n (aX a b)=[] from(yH a b _).mpr h];rfl
 ·obtain⟨x,y,z,e⟩:=SZ a b h;rw[e];exact En a b n
end
theorem yo{t:Str}{d:Nat}{l:List Nat}{r:Str}(h:J4 (c::d::l) r)(k:dy t ⟨⟨[c,d]⟩⟩=false):dy t r=false:=by
 unfold dy at k ⊢;rw[tZ h];exact k
theorem Hc(x y:Str):J4 [64,64,32,45] (oh x y aN):=J4.app _ (J4.app _ (J4.app _ (J4.app _ (J4.app x (show J4 [64,64,32,45] (Zw "@@ -") from⟨[],by decide +kernel⟩)))))
theorem Av:J4 [43,43,43,32] (yT ag (dB ag) aN):=J4.app _ (J4.app _ (J4.app ag (show J4 [43,43,43,32] (Zw "+++ ") from⟨[],by decide +kernel⟩)))
theorem uD{t:Str}(h1:dy t MJ=false)(h2:dy t ⟨⟨[43,43]⟩⟩=false)(h3:dy t ⟨⟨[64,64]⟩⟩=false)(a b:List Str):∀(gs:List (List Op)) (s:Bool),
  aL t (dk (a.map av) (b.map av) ag ag ag ag aN s gs)=aL t (eC a b gs)
 | [],s=>by cases s <;> rfl
 |g::gs,s=>by
  show aL t ((if s=true then [] else kQ ag ag ag ag aN)++(kW _ _ aN g++dk _ _ ag ag ag ag aN true gs))=aL t (g.flatMap (cy a b)++eC a b gs);have e:aL t (if s=true then [] else kQ ag ag ag ag aN)=[]:=by
   split
   ·rfl
   ·unfold kQ;rw[uE (yo iq h1),uE (yo Av h2)];rfl
  rw[iC,e,ZH,iC,iC,uD h1 h2 h3 a b gs true];unfold kW;rw[uE (yo (Hc _ _) h3)]
theorem Bm(a b:List Str)(gs:List (List Op)):cm (dk (a.map av) (b.map av) ag ag ag ag aN false gs)=cm (eC a b gs):=by
 unfold cm;rw[uD (by decide) (by decide) (by decide),uD (by decide) (by decide) (by decide)]
section
variable{a b:List Str}
theorem lT{t:Str}{f:Op->List Str}:∀ {gs:List (List Op)},(∀g∈gs,∀o∈g,aL t (cy a b o)=f o)->aL t (eC a b gs)=gs.flatMap fun g=>g.flatMap f
 | [],_=>rfl
 |g::gs,h=>by
  show aL t (g.flatMap (cy a b)++eC a b gs)=g.flatMap f++_;rw[iC,jL,lT fun q hq=>h q (Zt _ hq),gZ (h g (Zr ..))];rfl
theorem GV(n:Nat):cm (eC a b (aI n (aX a b)))=[(aI n (aX a b)).flatMap fun g=>g.flatMap (sA a),(aI n (aX a b)).flatMap fun g=>g.flatMap (sB b)]:=by
 unfold cm;rw[lT fun g hg o ho=>BK (kU a b n g hg o ho),lT fun g hg o ho=>BJ (kU a b n g hg o ho)]
theorem Bg(a:List Str){m:Nat}(h1:i<=m)(h2:m<=k):aV a i m++aV a m k=aV a i k:=by
 unfold aV;rw[← Nat.sub_add_sub_cancel h2 h1,Nat.add_comm (k-m),List.take_add,List.drop_drop,Nat.add_sub_cancel' h1]
theorem CW(a:List Str){i' j':Nat}:∀(os:List Op) (i j:Nat),G4 i j os i' j'->os.flatMap (sA a)=aV a i i'
 | [],i,j,h=>(gJ h.1).symm
 |o::os,i,j,h=>by
  rw[List.flatMap_cons,CW a os _ _ h.2.2.2.2,← Bg a h.2.2.1 h.2.2.2.2.le.1,← h.1];rfl
theorem CV(b:List Str){i' j':Nat}:∀(os:List Op) (i j:Nat),G4 i j os i' j'->os.flatMap (sB b)=aV b j j'
 | [],i,j,h=>(gJ h.2).symm
 |o::os,i,j,h=>by
  rw[List.flatMap_cons,CV b os _ _ h.2.2.2.2,← Bg b h.2.2.2.1 h.2.2.2.2.le.2,← h.2.1];rfl
theorem Bh(a:List Str):aV a 0 a.length=a:=by unfold aV;rw[List.drop_zero,Nat.sub_zero,List.take_length]
theorem Dc(a b:List Str):(aX a b).flatMap (sA a)=a:=(CW a _ 0 0 (ml (dH (ay a b) (aO a b)) a.length b.length)).trans (Bh a)
theorem Db(a b:List Str):(aX a b).flatMap (sB b)=b:=(CV b _ 0 0 (ml (dH (ay a b) (aO a b)) a.length b.length)).trans (Bh b)
theorem Qg(a b:List Str):cm (dW a b)=if a=b then [[],[]] else [a,b]:=by
 by_cases h:a=b
 ·rw[yN a b h,if_pos h];rfl
 ·unfold dW;rw[if_neg h,ir,Bm,GV,GZ a b h];show [(aX a b).flatMap (sA a)++[],(aX a b).flatMap (sB b)++[]]=[a,b];rw[g7,g7,Dc,Db]
theorem Qf(n:Nat)(a b:List Str):cm (ei (a.map av) (b.map av) n)=cm (lh n a b):=by rw[ir,Bm,Gs]
theorem yV{f:List Str×List Str->List Str}{h:Op->List Str}:∀ {gs:List (List Op)},(∀g∈gs,f (dv a b g)=g.flatMap h)->(gs.map (dv a b)).flatMap f=gs.flatMap fun g=>g.flatMap h
 | [],_=>rfl
 |g::gs,k=>by rw[ZD,List.flatMap_cons,List.flatMap_cons,k g (Zr ..),yV fun q hq=>k q (Zt _ hq)]
theorem Qe(n:Nat)(a b:List Str):[(cf (bD a b n)).flatMap cO,(cf (bD a b n)).flatMap cM]=cm (lh n a b):=by
 rw[Gs,GV,show cf (bD a b n)=(aI n (aX a b)).map (dv a b) from CX a b _,
  yV fun g hg=>NZ (kU a b n g hg) (FB (vG a b) g hg),yV fun g hg=>NY (kU a b n g hg) (FB (vG a b) g hg)]
end
theorem VQ{m l:Nat}(h1:m<=n+l)(h2:n<=c+1):m<=c+(l+1):=by omega
theorem Vb{f:List Str->Int->List Str}(hf:∀a x,f a x=a∨f a x=a++df x)(xs:List Int):∀a:List Str,aJ (xs.foldl f a) ((xs.foldl f a).length-1)<=aJ a (a.length-1)+xs.length:=by
 induction xs with
 |nil=>exact fun O=>ZZ _
 |cons x xs ih=>exact fun a=>VQ (ih (f a x)) ((hf a x).elim (fun e=>e.symm▸Nat.le_succ _) fun e=>e.symm▸UZ a (gW (x.natAbs / 12)) (x.natAbs / 3 % 4+1))
theorem UY{a:List Str}(h:a.length<=1):aJ a (a.length-1)=0:=by
 rw[Nat.sub_eq_zero_of_le h];rfl
theorem GL{f:List Str->Int->List Str}(hf:∀a x,f a x=a∨f a x=a++df x)(C2:List Int){a:List Str}(h:a.length<=1):aJ ((gO C2).foldl f a) (((gO C2).foldl f a).length-1)<=62 :=
 d7 (Vb hf (gO C2) a) ((UY h).symm▸(Nat.zero_add _).symm▸BI C2)
theorem EZ{c:Prop}[Decidable c]{x y:α}:(if c then x else y)=y∨(if c then x else y)=x:=by
 split
 ·exact .inr rfl
 ·exact .inl rfl
theorem Ve(C2:List Int):aJ (dm C2) ((dm C2).length-1)<=62:=GL (f:=fo) (fun a x=>EZ) C2 (uc C2).1
theorem Vc(C2:List Int):aJ (dh C2) ((dh C2).length-1)<=62:=GL (f:=fP) (fun a x=>EZ) C2 (uc C2).2
theorem yJ:∀(codes group:List Op),(bt n group codes).length<=codes.length+1
 | [],group=>fi (P:=fun l=>l.length<=1) (fun O=>ZM _) (fun O=>ZM _) fun O O=>ZZ _
 |o::os,group=>nZ (P:=fun l=>l.length<=os.length+2) (fun O=>Nat.succ_le_succ (yJ os _)) fun O=>Nat.le_succ_of_le (yJ os _)
theorem Fz(a b:List Str)(n:Nat)(h:a.length<=249):(aI n (aX a b)).length<=600:=by
 have h1:(aI n (aX a b)).length<=(eK n (aX a b)).length+1:=yJ _ [];have h2:=Ay (n:=n) (aX a b);have h3:=vH (aQ (aM a b) a.length b.length);have h4:(aQ (aM a b) a.length b.length).length<=a.length+2:=zh (dH (ay a b) (aO a b)) a.length b.length;have h5:(aX a b).length<=2 * (aQ (aM a b) a.length b.length).length:=h3;omega
theorem Gd{f:Op->List Str}{x y:Op->List Str}(h:∀o,(f o).length<=(x o).length+(y o).length):∀os:List Op,(os.flatMap f).length<=(os.flatMap x).length+(os.flatMap y).length
 | []=>ZM _
 |o::os=>by
  have h1:=h o;have h2:=Gd h os;rw[List.flatMap_cons,List.flatMap_cons,List.flatMap_cons,ZA,ZA,ZA];omega
theorem Fa{c:Prop}[Decidable c]{xs:List Str}{f:Str->Str}:(if c then xs.map f else []).length<=xs.length:=by
 split
 ·exact Nat.le_of_eq (Zu ..)
 ·exact ZM _
theorem Oq(a b:List Str)(o:Op):(cy a b o).length<=(sA a o).length+(sB b o).length:=by
 by_cases he:o.tag=ah
 ·rw[show cy a b o=_ from mn he,Zu];exact Nat.le_add_right ..
 ·rw[show cy a b o=_ from kl he,ZA];exact Nat.add_le_add Fa Fa
theorem zg(a b:List Str)(n:Nat):(eC a b (aI n (aX a b))).length<=a.length+b.length:=by
 rw[← En];refine d7 (xU ..) (d7 (Gd (Oq a b) _) ?_);rw[Dc,Db];exact ZZ _
theorem BA(a b:List Str):∀(gs:List (List Op)) (s:Bool),(dk (a.map av) (b.map av) ag ag ag ag aN s gs).length<=(if s=true then 0 else 2)+(gs.length+(eC a b gs).length)
 | [],s=>by cases s <;> exact ZM _
 |g::gs,s=>by
  show ((if s=true then [] else kQ ag ag ag ag aN)++(kW _ _ aN g++dk _ _ ag ag ag ag aN true gs)).length<=_+((g::gs).length+(g.flatMap (cy a b)++eC a b gs).length);have h:=BA a b gs true;rw[if_pos rfl] at h;have e:(if s=true then [] else kQ ag ag ag ag aN).length=if s=true then 0 else 2:=by split <;> rfl
  rw[ZA,e,ZA,ZA,Zz];have e2:(kW (a.map av) (b.map av) aN g).length=(g.flatMap (cy a b)).length+1:=rfl;omega
theorem Fr{c:Bool}{f:Op->List Str}{p:Op->Prop}[∀o,Decidable (p o)](g:List Op):(if c=true then g.flatMap fun o=>if p o then [] else (f o).map (cF o.tag ++ ·) else []).length<=(g.flatMap f).length:=by
 split
 ·induction g with
  |nil=>exact ZZ _
  |cons o g ih =>
   rw[List.flatMap_cons,List.flatMap_cons,ZA,ZA];refine Nat.add_le_add ?_ ih;split
   ·exact ZM _
   ·exact Nat.le_of_eq (Zu ..)
 ·exact ZM _
theorem Ft(a:List Str)(g:List Op):(ez a g).length<=(g.flatMap (sA a)).length:=Fr (c:=(g.map fe).any id) (p:=fun o=>o.tag=bb) g
theorem Fs(b:List Str)(g:List Op):(dz b g).length<=(g.flatMap (sB b)).length:=Fr (c:=(g.map fc).any id) (p:=fun o=>o.tag=bc) g
theorem BB(a b:List Str):∀(gs:List (List Op)) (s:Bool),(cE a b ag ag ag ag aN s gs).length<=(if s=true then 0 else 2)+(3 * gs.length+((gs.flatMap fun g=>g.flatMap (sA a)).length+(gs.flatMap fun g=>g.flatMap (sB b)).length))
 | [],s=>by cases s <;> exact ZM _
 |g::gs,s=>by
  show ((if s=true then [] else kS ag ag ag ag aN)++(fL a b aN g++cE a b ag ag ag ag aN true gs)).length<=_;have h:=BB a b gs true;rw[if_pos rfl] at h;have e:(if s=true then [] else kS ag ag ag ag aN).length=if s=true then 0 else 2:=by split <;> rfl
  rw[ZA,e,ZA,Zz,List.flatMap_cons,List.flatMap_cons,ZA,ZA];have e2:(fL a b aN g).length=(ez a g).length+((dz b g).length+1)+2:=by
   unfold fL;rw[Zz,Zz,ZA,Zz]
  have h1:=Ft a g;have h2:=Fs b g;omega
theorem AO(a b:List Str)(n:Nat):((aI n (aX a b)).flatMap fun g=>g.flatMap (sA a)).length<=a.length+b.length:=by
 rw[← lT (t:=eN) fun g hg o ho=>BK (kU a b n g hg o ho)];exact d7 (jK ..) (zg a b n)
theorem AN(a b:List Str)(n:Nat):((aI n (aX a b)).flatMap fun g=>g.flatMap (sB b)).length<=a.length+b.length:=by
 rw[← lT (t:=eM) fun g hg o ho=>BJ (kU a b n g hg o ho)];exact d7 (jK ..) (zg a b n)
theorem yW{f:List Op->List Str}:∀ {gs:List (List Op)} {g:List Op},g∈gs->(f g).length<=(gs.flatMap f).length
 |q::gs,g,h=>by
  rw[List.flatMap_cons,ZA];rcases Zy.mp h with rfl |h
  ·exact Nat.le_add_right ..
  ·exact d7 (yW h) (Nat.le_add_left ..)
def jr(r:Str):Prop:=r.cps.toList≠[]/\r.length<400
theorem jI{l:List Nat}{r:Str}(h:J4 (c::l) r)(k:r.length<400):jr r:=by
 refine⟨fun e=>?_,k⟩;obtain⟨x,q⟩:=h;rw[e] at q;cases q
theorem lF(h:x.length<=4):jr (aW c 32 x):=⟨nofun,by
 show (c::32::x.cps.toList).toArray.size<400;rw[List.size_toArray,Zz,Zz,kM];omega⟩
theorem vA{t:Str}(h:x.length<=4):jr (cF t++x):=by
 unfold cF;split
 ·rw[fw];exact lF h
 ·split
  ·rw[fw];exact lF h
  ·split
   ·rw[fw];exact lF h
   ·rw[fw];exact lF h
theorem On{a b:List Str}(ha:∀x∈a,x.length<=4)(hb:∀x∈b,x.length<=4){o:Op}{r:Str}(h:r∈cy a b o):jr r:=by
 have k:∀ {c:Nat} {xs:List Str},(∀x∈xs,x.length<=4)->r∈xs.map (aW c 32)->jr r:=fun q h=>by
  obtain⟨x,hx,rfl⟩:=ZV.mp h;exact lF (q x hx)
 by_cases he:o.tag=ah
 ·rw[show cy a b o=_ from mn he] at h;exact k (fun x hx=>ha x (nO hx)) h
 ·rw[show cy a b o=_ from kl he] at h;rcases d8.mp h with h |h
  ·split at h
   ·exact k (fun x hx=>ha x (nO hx)) h
   ·cases h
  ·split at h
   ·exact k (fun x hx=>hb x (nO hx)) h
   ·cases h
theorem QI(h1:x.length<100)(h2:y.length<100):(oh x y aN).length<400:=by
 unfold oh;rw[Str.length_append,Str.length_append,Str.length_append,Str.length_append,Str.length_append,show (Zw "@@ -").length=4 by decide +kernel,show (Zw " +").length=2 by decide +kernel,show (Zw " @@").length=3 by decide +kernel,show aN.length=1 from rfl];omega
theorem QH(h1:x.length<100):(lg x aN).length<400:=by
 unfold lg;rw[Str.length_append,Str.length_append,Str.length_append,show (Zw "*** ").length=4 by decide +kernel,show (Zw " ****").length=5 by decide +kernel,show aN.length=1 from rfl];omega
theorem QG(h1:x.length<100):(gq x aN).length<400:=by
 unfold gq;rw[Str.length_append,Str.length_append,Str.length_append,show (Zw "--- ").length=4 by decide +kernel,show (Zw " ----").length=5 by decide +kernel,show aN.length=1 from rfl];omega
section
variable{a b:List Str}(N4:a.length<=249)(T9:b.length<=249)(ha:∀x∈a,x.length<=4)(hb:∀x∈b,x.length<=4)
include N4 T9 in
theorem BE{g:List Op}(h:H3 a.length b.length g):(bY (aG g).i1 (aD g).i2).length<100/\(bY (aG g).j1 (aD g).j2).length<100/\(bJ (aG g).i1 (aD g).i2).length<100/\(bJ (aG g).j1 (aD g).j2).length<100:=by
 have h1:=h.ii;have h2:=h.jj;have h3:=h.i2;exact⟨pF ⋯ ⋯ ⋯,pF ⋯ ⋯ ⋯,pG ⋯ ⋯ ⋯,pG ⋯ ⋯ ⋯⟩
theorem Bu{f:List Op->List Str}{hd:List Str}{R:Bool->List (List Op)->List Str}(h0:∀s,R s []=[])(h1:∀s g gs,R s (g::gs)=(if s=true then [] else hd)++(f g++R true gs)){r:Str}(gs:List (List Op)):∀s,r∈R s gs->r∈hd∨∃g∈gs,r∈f g:=by
 induction gs with
 |nil=>exact fun s h=>nomatch (h0 s▸h:r∈[])
 |cons g gs ih =>
  intro s h;rw[h1] at h;refine(d8.mp h).elim (fun h => .inl ?_) fun h=>(d8.mp h).elim (fun h => .inr ⟨g,Zr ..,h⟩) fun h=>(ih true h).imp_right fun⟨q,hq,h⟩=>⟨q,Zt _ hq,h⟩;cases s with
  |true=>exact nomatch h
  |false=>exact h
include N4 T9 ha hb in
theorem Bz(gs:List (List Op))(s:Bool)(hg:∀g∈gs,H3 a.length b.length g)(r:Str)(hr:r∈dk (a.map av) (b.map av) ag ag ag ag aN s gs):jr r:=by
 refine(Bu (fun O=>rfl) (fun O O O=>rfl) gs s hr).elim (fun hr=>(Zy.mp hr).elim (fun e=>e▸jI iq (by decide +kernel)) fun hr=>ZK.mp hr▸jI Av (by decide +kernel)) fun⟨g,hm,hr⟩=>?_;have k:=BE N4 T9 (hg g hm);exact(Zy.mp hr).elim (fun e=>e▸jI (Hc _ _) (QI k.1 k.2.1)) fun hr=>ae (List.mem_flatMap.mp hr) fun o O hr=>On ha hb hr
include N4 T9 ha hb in
theorem LI(gs:List (List Op))(s:Bool)(hg:∀g∈gs,H3 a.length b.length g)(r:Str)(hr:r∈cE a b ag ag ag ag aN s gs):jr r:=by
 refine(Bu (fun O=>rfl) (fun O O O=>rfl) gs s hr).elim (fun hr=>(Zy.mp hr).elim (fun e=>e▸⟨by decide +kernel,by decide +kernel⟩) fun hr=>ZK.mp hr▸jI iq (by decide +kernel)) fun⟨g,hm,hr⟩=>?_;have k:=BE N4 T9 (hg g hm);refine(Zy.mp hr).elim (fun e=>e▸⟨by decide +kernel,by decide +kernel⟩) fun hr=>(Zy.mp hr).elim (fun e=>e▸jI (GT _) (QH k.2.2.1)) fun hr=>(d8.mp hr).elim (fun hr=>?_) fun hr=>(Zy.mp hr).elim (fun e=>e▸jI (GE _) (QG k.2.2.2)) fun hr=>?_
 ·exact bI (yE hr) fun t x hx e=>e▸vA (ha x hx)
 ·exact bI (yD hr) fun t x hx e=>e▸vA (hb x hx)
theorem PQ(i:Nat)(r:Str):(bM i r).length<=r.length+1:=by
 unfold bM;split
 ·rw[Str.length_append]
  have:=za 1 r;split
  ·show 1+_<=_;omega
  ·show 1+_<=_;omega
 ·exact Nat.le_succ _
theorem EB{t:Str}(h:x.length<=4):(bM i (cF t++x)).length<2^20:=by
 have h1:=PQ i (cF t++x);have h2:=(vA (t:=t) h).2;omega
include N4 T9 ha hb in
theorem Oa{g:List Op}(hg:g∈aI n (aX a b)):PB (dv a b g):=by
 have l1:=d7 (Ft a g) (d7 (yW (f:=fun g=>g.flatMap (sA a)) hg) (AO a b n));have l2:=d7 (Fs b g) (d7 (yW (f:=fun g=>g.flatMap (sB b)) hg) (AN a b n));refine⟨fun r hr=>?_,?_,?_⟩
 ·rcases d8.mp hr with hr |hr
  ·obtain⟨q,hq,rfl⟩:=ZV.mp hr;obtain⟨t,x,hx,rfl⟩:=yE hq;exact EB (ha x hx)
  ·obtain⟨q,hq,rfl⟩:=ZV.mp hr;obtain⟨t,x,hx,rfl⟩:=yD hq;exact EB (hb x hx)
 ·unfold dv;rw[Zu];omega
 ·unfold dv;rw[Zu];omega
include N4 T9 ha hb in
theorem OL(n:Nat)(hc:aJ a (a.length-1)+aJ b (b.length-1)<126):Ok7 n a b:=by
 have hg:∀k,∀g∈aI k (aX a b),H3 a.length b.length g:=fun k=>yG a b k ⋯;refine⟨Ew _ _ (by rw[GK uf,GK uf,Zu,Zu];exact hc),Ew _ _ hc,fun k=>?_,fun k r hr=>?_,fun r hr=>?_,?_,fun r hr=>?_,Si a b _,fun p hp=>?_,Qg a b,Qf n a b,Qe n a b⟩
 ·rw[ir];have h1:=BA a b (aI k (aX a b)) false;have h2:=zg a b k;have h3:=Fz a b k N4;rw[if_neg (by decide)] at h1;omega
 ·rw[ir] at hr
  have:=(Bz N4 T9 ha hb _ false (hg k) r hr).2;omega
 ·by_cases h:a=b
  ·rw[yN a b h] at hr;cases hr
  ·have hr:=List.mem_of_mem_drop hr;unfold dW at hr;rw[ir] at hr;exact(Bz N4 T9 ha hb _ false (hg _) r hr).1
 ·have h1:=BB a b (aI n (aX a b)) false;have h2:=AO a b n;have h4:=AN a b n;have h3:=Fz a b n N4;rw[if_neg (by decide)] at h1;show (cE a b ag ag ag ag aN false (aI n (aX a b))).length<=_;omega
 ·have h:=LI N4 T9 ha hb _ false (hg n) r hr;exact⟨h.1,Nat.lt_trans h.2 (by decide)⟩
 ·rw[show cf (bD a b n)=(aI n (aX a b)).map (dv a b) from CX a b _] at hp;obtain⟨g,hgm,rfl⟩:=ZV.mp hp;exact Oa N4 T9 ha hb hgm
end
theorem OM(C2:List Int):Ok7 (kG C2) (dm C2) (dh C2) :=
 OL (zr _) (zm _) (zq _) (zl _) _ (Nat.lt_of_le_of_lt (Nat.add_le_add (Ve C2) (Vc C2)) (by decide))
theorem Qj(ts:List b0)(K:Frag)(a:b0)(o:Obj):(K.filter fun p => !ts.contains p.1).lookup a=some o->K.lookup a=some o/\ts.contains a=false:=by
 induction K with
 |nil=>exact nofun
 |cons p K ih =>
  intro h;rw[ZN];by_cases hp:ts.contains p.1=true
  ·rw[List.filter_cons_of_neg (by simpa using hp)] at h;have r:=ih h;have I3:(a==p.1)=false:=beq_eq_false_iff_ne.mpr fun e=>d3 (r.2.symm.trans (e▸hp));exact I3.symm▸r
  ·rw[List.filter_cons_of_pos (by simpa using hp),ZN] at h;cases q:a==p.1 with
   |true =>
    rw[q] at h;exact⟨h,beq_iff_eq.mp q▸Bool.eq_false_iff.mpr hp⟩
   |false =>
    rw[q] at h;exact ih h
theorem RE{R:WRecords}{xs:List WData}:WShape.hasItems R xs .int=true->∃ns:List Int,xs=ns.map .int:=by
 induction xs with
 |nil=>exact fun O=>⟨[],rfl⟩
 |cons x xs ih =>
  intro h;rw[WShape.hasItems,i9] at h;exact aw (hasW_int h.1) fun i e=>aw (ih h.2) fun ns e'=>⟨i::ns,e▸e'▸rfl⟩
theorem Lp{l:OpenLaw}(hm:l.most=some 63)(hb:l.bound=none){args:List WData}(h:l.row.toRowW.claim.pre args=true):∃C2:List Int,args=[.list (C2.map .int)]/\C2.length<=63:=by
 refine aA (pre_splitW h) fun h1 h2=>?_;refine bW (hasAllW_cons (e:=.list .int) (es:=[]) h1) fun d r O3 h3 h4=>?_;subst O3;obtain rfl:=hasAllW_nil h4;refine ae (hasW_list h3) fun xs O2 h5=>?_;subst O2;refine aw (RE h5) fun ns O2=>?_;subst O2;refine bB ns rfl ?_;have h2:WTm.holds l.row.toRowW.records l.pre {args:=[.list (ns.map .int)]}=true:=h2;unfold OpenLaw.pre at h2;rw[hm,hb] at h2;by_cases q:ns.length<=63
 ·exact q
 ·exfalso
  have e0:(WTm.len (.arg 0)).value l.row.toRowW.records {args:=[.list (ns.map .int)]}=some (.int ns.length):=by simp[WTm.value]
  have e1:=w_lt (a:=.lit (.int (63:Nat))) (b:=.len (.arg 0)) (R:=l.row.toRowW.records) (e:={ args:=[.list (ns.map .int)]}) rfl e0;rw[decide_eq_true ⋯] at e1;have e2:(WTm.not (.lt (.lit (.int (63:Nat))) (.len (.arg 0)))).value l.row.toRowW.records {args:=[.list (ns.map .int)]}=some (.bool false):=by rw[WTm.value,e1];rfl
  unfold WTm.holds at h2;rw[WTm.value,e2] at h2;cases h2
theorem Jd{P:Zv}{h:Heap}{ns:List Int}:∀ {vs:List Value},WellAll P h vs (ns.map .int)->Vals Z (ns.map .int) vs:=by
 induction ns with
 |nil=>exact fun w=>by cases w;exact .nil
 |cons n ns ih =>
  intro vs w;cases w with
  |cons w1 w2=>cases w1;exact .cons (.int _ _) (ih w2)
theorem Ru{K:Frag}{h:Heap}{c P:b0}(hK:K.In h)(h1:K.lookup c=some o)(h2:o.cls=.type "code")(h3:o.data=.fields (oj o))(h4:(oj o)[11]?=some (.ref P)):isCodeTable h P:=⟨c,o,_,hK _ _ h1,h2,h3,h4⟩
theorem Jy{h h':Heap}{b:b0}{o':Obj}{q:Str}(ho:o=⟨.none,none,.fields ⟨[]⟩,⟨[]⟩⟩)(hT:isCodeTable h b)(hg:h'.get? b=some o')(hp:pv q Z o'):asItWas h h' b o:=by
 obtain⟨⟨_,h1,h2,h3⟩,ps,h4,_⟩:=hp;subst ho;refine .inr (.inl ⟨hT,rfl,#[],ps,rfl,?_⟩);rw[hg];obtain⟨c,d,dt,sl⟩:=o';dsimp only at h1 h2 h3 h4;subst h1 h2 h3 h4;simp
theorem LJ:D6 callerA 400:=⟨rfl,by decide +kernel,by decide +kernel⟩
theorem Pg{h:Heap}{b:b0}{o':Obj}(h1:h.get? a=some o)(h2:h.get? b=some o')(hc:o.cls≠o'.cls):a≠b:=fun e=>hc (congrArg Obj.cls (r7 (h1.symm.trans (e▸h2))))
theorem Kd{b:b0}(hK:(KO w.params).In s.heap)(L3:s.heap.get? b=some {cls:=.type "list",data:=.seq vs.toArray})(Y':s.gens=#[]) :
  C7 (ak w) s ((ak w).add b {cls:=.type "list",data:=.seq vs.toArray}) N7:=by
 have Į:s.heap.get? 271=some (nu w.params):=hK _ _ @_;have n271:(271:b0)≠b:=Pg Į L3 ((by kernel_rfl:(nu w.params).cls=.none)▸fun e=>nomatch e);have hB:∀x ox,ak w x=some ox->s.heap.get? x=some ox:=fun x ox e=>hK _ _ (Qj AI _ _ _ e).1;have hle:D3.le (ak w) ((ak w).add b {cls:=.type "list",data:=.seq vs.toArray}):=fun x ox e=>by
  unfold D3.add;by_cases q:x=b
  ·rw[if_pos q];exact(q▸L3:s.heap.get? x=_).symm.trans (hB _ _ e)
  ·rw[if_neg q];exact e
 have S0:C7 (ak w) s ((ak w).add b {cls:=.type "list",data:=.seq vs.toArray}) []:=⟨hle,fun x ox e=>(D3.add_inv e).elim (hB x ox) fun q=>q.1▸q.2▸L3,List.nodup_nil,fun O h=>absurd h n5,fun O h=>absurd h n5,List.nodup_nil,fun x hx=>by rw[Y'] at hx;simp at hx⟩;exact C7.cons S0 n5 ((if_neg n271).trans @_) ⟨_,Į,⟨@_,@_,@_,@_⟩,#[],@_,trivial,fun pos cv e=>nomatch e⟩ List.nodup_nil
theorem UB{s':Zx}{Z':D3}{led':aa}(hK:(KO w.params).In s.heap)(S':C7 (ak w) s' Z' led')(hN:G5 N7 led')(X:E7 (aj N7) s Z s' Z' (aj led'))(x:b0)(ox:Obj)(e:s.heap.get? x=some ox) :
  asItWas s.heap s'.heap x ox/\∃o',s'.heap.get? x=some o':=by
 by_cases n1:x=271
 ·refine ae (S'.own _ (hN _ (Zr ..))) fun p q r=>?_;subst n1;have q1:=r7 ((hK _ _ @_:s.heap.get? 271=some (nu w.params)).symm.trans e);exact⟨Jy (q1.symm.trans @_) (Ru (c:=275) (o:=qF w.params) hK @_ @_ @_ @_) q r,_,q⟩
 ·have g:=X.kept x ox e fun h=>n1 (ZK.mp h);exact⟨.inl g,_,g⟩
theorem Jb:WalkO qV jf (fun O O=>True) dU.says PySem.Challenge.rw_dm0049_07.row.toRowW gf [] (fun f vs=>PySem.call f vs):=by
 intro w G9 s₁ mg mb G Y a o pm cd doc dV kV ho U5 hcr hdf hmg Y' args vals as hpre hlay hrd Ď hsys;have hK:(KO w.params).In s₁.heap:=kIn_of Y;refine jw (id G.T.g) fun og es ep hog hd hk hm=>?_;have hog':s₁.heap.get? l9=some (dR w.params):=hK _ _ @_;rw[hog'] at hog;obtain rfl:=r7 hog;have hes:eB (dR w.params)=es:=by unfold eB;rw[hd]
 have ha:a=316:=by
  have h1:=hm gf.name;rw[hmg,← hes] at h1;have h2:nsFind (eB (dR w.params)) gf.name=some (.ref 316):=@_;rw[h2] at h1;injection h1 with h1
  injection h1 with h1
  exact h1.symm
 subst ha;refine ae (Lp (l:=PySem.Challenge.rw_dm0049_07) rfl rfl hpre) fun C2 O2 hs=>?_;subst O2;obtain _ |⟨w1,w2⟩:=Ď
 cases w2
 cases w1 with
 | @list b vs _ L3 hwv =>
  have S:=Kd hK L3 Y';refine t8 (QO (C2:=C2) (led:=[]) LJ hs (OM C2) s₁ _ (.ref 316) [.ref b] [] S (.ref _) (.cons (.lst (D3.add_at ..) (Jd hwv)) .nil) .nil _ fun v x s' Z' led' k S' V X=>?_);refine aA k fun O1 hN=>?_;clear k;subst O1;cases V
  have F:=UB hK S' hN X;refine⟨.inl ⟨.bool true,.bool true,[],rfl,fun O=>rfl,.bool true,?_,fun O=>⟨List.nodup_nil,fun a ha=>by cases ha⟩⟩,⟨fun x ox e=>(F x ox e).1,fun x ox e=>(F x ox e).2⟩,X.os,S'.bare⟩
  ·show (WShape.has PySem.Challenge.rw_dm0049_07.row.toRowW.records (.bool true) .bool&&WTm.holds PySem.Challenge.rw_dm0049_07.row.toRowW.records (.eq .res (.lit (.bool true))) _)=true;exact @_
theorem Zp:PySem.Challenge.rw_dm0049_07.Holds:=RS Jb
end Mine.Internal
theorem PySem.Challenge.cw_dm0049_07_holds : PySem.Challenge.rw_dm0049_07.Holds :=
  Mine.Internal.Zp
