import PyProof.Rows.All
import Wide.All
import OpenK.AllK
import Wide.FinOn
import PyProof.DictItems
import PyProof.Rows.SortShellK
import KE.KSetIn
import KE.KBytesWalk
import KE.BytesMake
import PyProof.Rows.ReprOcc
import Lean
import PySem.Challenge.RW_dm0049_04
open PySem renaming wpAny_bind → WL, wpAny_pure → WN, Params → WQ, Shared → WS, wpAny_holding → Xc, Around → Xg, Program → Xh, model → Xn, World → Xo, wpAny → Xq, strKind → XA, wpAny_standAt → XB, Addr → XC, builtinLookup_eq_fast → XD, sizeLine → XK, SetTable → XN, wpAny_call_entry → XO, wpAny_mono → XU, starEach → XV, wpAny_callSpecial?_slot → XY, wpAny_newObj_type → XZ, isSubtype_type → Yb, wpAny_of_eq → Yd, typeLookup_type → Ye, letOwnedTupleGo → Yg, sizeLine_eq → Yq, wpAny_setState_of → Yr, rawInt → Yu, eval → Yw, typeLookup → Yx, wpAny_rule → YA, mainGlobals → YD, assign → YE, wpAny_isInstance → YJ, assignEach → YN, wpAny_seqItems → YS, wpAny_fieldsOf → YT, recursionLimit → YU, Builtin → YX, codeAny_call_builtin → Zc, sysModules → Ze, pyNext → Zl, builtinsNs → Zm, wpAny_mkStr → Zn, entryFor_of_tree → Zo, wpAny_attempt → Zp, firstArgMember → Zq, wpAny_call → Zu, compareOp → Zx, backTo → Zy, wpAny_field → ZE, foldedSetIterable → ZI, codeAny_builtin → ZJ, intKind → ZM, GenState → ZQ, isSubtype → ZR, wpAny_setField_rec → ZX, FuncData → a8, wpAny_specialOf → a9, storeName → b0, holding → b9, codeAmong → c0, closureFor_none → c5, argsOk → c6, KeyKind → d5
open List renaming mem_cons_self → WM, mem_cons_of_mem → WO, length_map → WP, mem_cons → WT, length_cons → WU, length_append → WV, map_cons → WY, cons_append → WZ, perm_append_comm → Xd, nil_append → Xe, mem_singleton → Xi, nodup_cons → Xj, lookup_cons → Xl, mem_map_of_mem → Xm, length_nil → Xp, map_append → Xr, getElem?_eq_getElem → Xs, mem_map → Xu, append_assoc → Xv, reverse_cons → Xw, mem_append_right → Xx, all_eq_true → XF, reverse_nil → XG, getElem?_map → XM, mem_append → XR, mem_append_left → Yc, foldl_cons → Yh, append_nil → Yi, range' → Yk, filterMap_cons → Yy, map_map → YF, drop_of_length_le → YG, drop_eq_getElem_cons → YH, perm_middle → YL, not_mem_nil → YM, getElem?_eq_none → YQ, mem_filter → YZ, find?_cons → Za, map_congr_left → Zf, length_singleton → Zj, replicate → Zr, range'_succ → Zw, zip_cons_cons → ZA, pairwise_cons → ZB, filterMap_append → ZC, getElem?_eq_some_iff → ZF, map_nil → ZL, length → ZP, filterMap_map → a7, length_replicate → c8, eq_nil_or_concat → c9, concat_eq_append → d3
open PySem.Str renaming ofString → WR
open PySem.Heap renaming get?_push_size → WW, get?_push_of_some → WX, SameBut → Xz, get?_update_self → XH, lt_size → XT, size_push → ZV
open Nat renaming zero_le → Xk, le_refl → Xy, le_trans → XQ, lt_or_ge → Yn, le_of_ble_eq_true → Yo, ne_of_lt → Ys, le_of_lt → YO, lt_irrefl → Zh, lt_succ_self → Zv
open PySem.Heap.SameBut renaming update → XE
open Bool renaming false_eq_true → XI, false_ne_true → XL, and_eq_true → Yl, eq_iff_iff → ZK
open Int renaming toNat_natCast → XJ
open PySem.Obj renaming mapSeq → XS, mapFields → YY, isFreed_of_fields → Zz, data_mapFields → ZZ
open PySem.W renaming peek → XW, boot_drawn → YB
open PySem.Challenge renaming rw_dm0049_04 → XX, pw_dm0049_04 → YR
open PySem.W.KFB renaming if_not → Yj
open PySem.Sem renaming bind_eq_wrap' → Ym, wrap_wrap → YK, onRaise_eq_wrap → ZN
open PySem.Value renaming none → Yp, type → ZS
open Option renaming map_eq_some_iff → Yt, map_some → c7
open Array renaming mk → Yv, length_toList → Yz, getElem?_eq_getElem → YI, getElem?_toList → Zk, perm_iff_toList_perm → Zt, getElem?_eq_none → ZW
open Option.some renaming injEq → YC, inj → Zi
open Pure renaming pure → YV
open List.Perm renaming swap → YW, cons → ZG, append_left → d4
open List.cons renaming inj → Zb
open PySem.F renaming slot_tuple_iterator_next → Zd
open PySem.SetTable renaming below → Zg, grown → ZU
open PySem.W.Fast renaming te10110043849684766642 → Zs
open PySem.Calls renaming Constant_str → ZD
open PySem.Around renaming under_plainId → ZH
open PySem.W.Looks renaming of_peek → ZO
open PySem.W.SharedT renaming mk → ZT
open ToString renaming toString → ZY
open PySem PySem.W
set_option Elab.async false
set_option linter.all false
set_option maxRecDepth 100000
set_option maxHeartbeats 0
set_option tactic.hygienic false
local macro_rules | `(@_) => `(by kernel_rfl)
local macro_rules | `(⋯) => `(by omega)
local macro_rules |`($a:term → $b)=>`(∀$(Lean.mkIdent `O):ident:$a,$b)
set_option compiler.extract_closed false
local macro_rules |`(tactic|omega)=>`(tactic|first|exact Nat.le_of_ble_eq_true rfl|with_reducible assumption|exact Nat.lt_of_lt_of_le (by with_reducible assumption) (Nat.le_of_ble_eq_true (by rfl))|exact Nat.le_of_lt (Nat.lt_of_lt_of_le (by with_reducible assumption) (Nat.le_of_ble_eq_true (by rfl)))|exact Nat.lt_of_le_of_lt (by with_reducible assumption) (Nat.le_of_ble_eq_true (by rfl))|lia|omega (splitNatSub:=true))
namespace Mine.Internal
noncomputable abbrev d6:Str:=⟨⟨[95,95,100,101,98,117,103,95,95]⟩⟩
section
set_option autoImplicit true
variable{P:Prop}
theorem av{p q:Prop}(h:p/\q)(c:p->q->P):P:=c h.1 h.2
theorem cB{p q r:Prop}(h:p/\q/\r)(c:p->q->r->P):P:=c h.1 h.2.1 h.2.2
theorem uK{p q r s:Prop}(h:p/\q/\r/\s)(c:p->q->r->s->P):P:=c h.1 h.2.1 h.2.2.1 h.2.2.2
theorem zD{p q r s t:Prop}(h:p/\q/\r/\s/\t)(c:p->q->r->s->t->P):P:=c h.1 h.2.1 h.2.2.1 h.2.2.2.1 h.2.2.2.2
theorem zC{p q r s t k:Prop}(h:p/\q/\r/\s/\t/\k)(c:p->q->r->s->t->k->P):P:=c h.1 h.2.1 h.2.2.1 h.2.2.2.1 h.2.2.2.2.1 h.2.2.2.2.2
theorem Gb{p q r s t k l m n:Prop}(h:p/\q/\r/\s/\t/\k/\l/\m/\n)(c:p->q->r->s->t->k->l->m->n->P):P:=c h.1 h.2.1 h.2.2.1 h.2.2.2.1 h.2.2.2.2.1 h.2.2.2.2.2.1 h.2.2.2.2.2.2.1 h.2.2.2.2.2.2.2.1 h.2.2.2.2.2.2.2.2
theorem WG{p q r s t k l m n o:Prop}(h:p/\q/\r/\s/\t/\k/\l/\m/\n/\o)(c:p->q->r->s->t->k->l->m->n->o->P):P:=c h.1 h.2.1 h.2.2.1 h.2.2.2.1 h.2.2.2.2.1 h.2.2.2.2.2.1 h.2.2.2.2.2.2.1 h.2.2.2.2.2.2.2.1 h.2.2.2.2.2.2.2.2.1 h.2.2.2.2.2.2.2.2.2
theorem ak{p:a->Prop}(h:∃x,p x)(c:∀x,p x->P):P:=h.elim fun x h=>c x h
theorem ad{p q:a->Prop}(h:∃x,p x/\q x)(c:∀x,p x->q x->P):P:=h.elim fun x h=>av h (c x)
theorem aU{p q r:a->Prop}(h:∃x,p x/\q x/\r x)(c:∀x,p x->q x->r x->P):P:=h.elim fun x h=>cB h (c x)
theorem gR{p q r s:a->Prop}(h:∃x,p x/\q x/\r x/\s x)(c:∀x,p x->q x->r x->s x->P):P:=h.elim fun x h=>uK h (c x)
theorem zB{p q r s t:a->Prop}(h:∃x,p x/\q x/\r x/\s x/\t x)(c:∀x,p x->q x->r x->s x->t x->P):P:=h.elim fun x h=>zD h (c x)
theorem gi{p:a->b->Prop}(h:∃x y,p x y)(c:∀x y,p x y->P):P:=h.elim fun x h=>ak h (c x)
theorem bt{p q:a->b->Prop}(h:∃x y,p x y/\q x y)(c:∀x y,p x y->q x y->P):P:=h.elim fun x h=>ad h (c x)
theorem br{p q r:a->b->Prop}(h:∃x y,p x y/\q x y/\r x y)(c:∀x y,p x y->q x y->r x y->P):P:=h.elim fun x h=>aU h (c x)
theorem pQ{p q r s:a->b->Prop}(h:∃x y,p x y/\q x y/\r x y/\s x y)(c:∀x y,p x y->q x y->r x y->s x y->P):P:=h.elim fun x h=>gR h (c x)
theorem Ga{p q r s t:a->b->Prop}(h:∃x y,p x y/\q x y/\r x y/\s x y/\t x y)(c:∀x y,p x y->q x y->r x y->s x y->t x y->P):P:=h.elim fun x h=>zB h (c x)
theorem mr{p q r s t k:a->b->Prop}(h:∃x y,p x y/\q x y/\r x y/\s x y/\t x y/\k x y)(c:∀x y,p x y->q x y->r x y->s x y->t x y->k x y->P):P:=h.elim fun x h=>h.elim fun y h=>c x y h.1 h.2.1 h.2.2.1 h.2.2.2.1 h.2.2.2.2.1 h.2.2.2.2.2
theorem jq{p q:a->b->c->Prop}(h:∃x y z,p x y z/\q x y z)(c:∀x y z,p x y z->q x y z->P):P:=h.elim fun x h=>bt h (c x)
theorem bC{p q r:a->b->c->Prop}(h:∃x y z,p x y z/\q x y z/\r x y z)(c:∀x y z,p x y z->q x y z->r x y z->P):P:=h.elim fun x h=>br h (c x)
theorem jp{p q r s:a->b->c->Prop}(h:∃x y z,p x y z/\q x y z/\r x y z/\s x y z)(c:∀x y z,p x y z->q x y z->r x y z->s x y z->P):P:=h.elim fun x h=>pQ h (c x)
theorem pP{p q r s t:a->b->c->Prop}(h:∃x y z,p x y z/\q x y z/\r x y z/\s x y z/\t x y z)(c:∀x y z,p x y z->q x y z->r x y z->s x y z->t x y z->P):P:=h.elim fun x h=>Ga h (c x)
theorem ef{p q r s t k:a->b->c->Prop}(h:∃x y z,p x y z/\q x y z/\r x y z/\s x y z/\t x y z/\k x y z)(c:∀x y z,p x y z->q x y z->r x y z->s x y z->t x y z->k x y z->P):P:=h.elim fun x h=>mr h (c x)
theorem FZ{p q r s t k l:a->b->c->Prop}(h:∃x y z,p x y z/\q x y z/\r x y z/\s x y z/\t x y z/\k x y z/\l x y z)(c:∀x y z,p x y z->q x y z->r x y z->s x y z->t x y z->k x y z->l x y z->P):P:=h.elim fun x h=>h.elim fun y h=>h.elim fun z h=>c x y z h.1 h.2.1 h.2.2.1 h.2.2.2.1 h.2.2.2.2.1 h.2.2.2.2.2.1 h.2.2.2.2.2.2
theorem pO{p q r s t k l m n:a->b->c->Prop}(h:∃x y z,p x y z/\q x y z/\r x y z/\s x y z/\t x y z/\k x y z/\l x y z/\m x y z/\n x y z)(c:∀x y z,p x y z->q x y z->r x y z->s x y z->t x y z->k x y z->l x y z->m x y z->n x y z->P):P:=h.elim fun x h=>h.elim fun y h=>h.elim fun z h=>c x y z h.1 h.2.1 h.2.2.1 h.2.2.2.1 h.2.2.2.2.1 h.2.2.2.2.2.1 h.2.2.2.2.2.2.1 h.2.2.2.2.2.2.2.1 h.2.2.2.2.2.2.2.2
theorem FY{p q:a->b->c->d->Prop}(h:∃x y z u,p x y z u/\q x y z u)(c:∀x y z u,p x y z u->q x y z u->P):P:=h.elim fun x h=>jq h (c x)
theorem cA{p q r:a->b->c->d->Prop}(h:∃x y z u,p x y z u/\q x y z u/\r x y z u)(c:∀x y z u,p x y z u->q x y z u->r x y z u->P):P:=h.elim fun x h=>bC h (c x)
theorem pN{p q r s:a->b->c->d->Prop}(h:∃x y z u,p x y z u/\q x y z u/\r x y z u/\s x y z u)(c:∀x y z u,p x y z u->q x y z u->r x y z u->s x y z u->P):P:=h.elim fun x h=>jp h (c x)
theorem FX{p q r s t:a->b->c->d->Prop}(h:∃x y z u,p x y z u/\q x y z u/\r x y z u/\s x y z u/\t x y z u)(c:∀x y z u,p x y z u->q x y z u->r x y z u->s x y z u->t x y z u->P):P:=h.elim fun x h=>pP h (c x)
theorem WE{p q r s t k:a->b->c->d->Prop}(h:∃x y z u,p x y z u/\q x y z u/\r x y z u/\s x y z u/\t x y z u/\k x y z u)(c:∀x y z u,p x y z u->q x y z u->r x y z u->s x y z u->t x y z u->k x y z u->P):P:=h.elim fun x h=>ef h (c x)
theorem WD{p q r s:a->b->c->d->e->Prop}(h:∃x y z u v,p x y z u v/\q x y z u v/\r x y z u v/\s x y z u v)(c:∀x y z u v,p x y z u v->q x y z u v->r x y z u v->s x y z u v->P):P:=h.elim fun x h=>pN h (c x)
theorem WC{p q r s t:a->b->c->d->e->Prop}(h:∃x y z u v,p x y z u v/\q x y z u v/\r x y z u v/\s x y z u v/\t x y z u v)(c:∀x y z u v,p x y z u v->q x y z u v->r x y z u v->s x y z u v->t x y z u v->P):P:=h.elim fun x h=>FX h (c x)
theorem zA{p q r s t k l m n:a->b->c->d->e->Prop}(h:∃x y z u v,p x y z u v/\q x y z u v/\r x y z u v/\s x y z u v/\t x y z u v/\k x y z u v/\l x y z u v/\m x y z u v/\n x y z u v)(c:∀x y z u v,p x y z u v->q x y z u v->r x y z u v->s x y z u v->t x y z u v->k x y z u v->l x y z u v->m x y z u v->n x y z u v->P):P:=h.elim fun x h=>h.elim fun y h=>h.elim fun z h=>h.elim fun u h=>h.elim fun v h=>c x y z u v h.1 h.2.1 h.2.2.1 h.2.2.2.1 h.2.2.2.2.1 h.2.2.2.2.2.1 h.2.2.2.2.2.2.1 h.2.2.2.2.2.2.2.1 h.2.2.2.2.2.2.2.2
theorem uJ{p q:a->b->c->d->e->f->Prop}(h:∃x y z u v w,p x y z u v w/\q x y z u v w)(c:∀x y z u v w,p x y z u v w->q x y z u v w->P):P:=h.elim fun x h=>h.elim fun y h=>h.elim fun z h=>h.elim fun u h=>h.elim fun v h=>h.elim fun w h=>c x y z u v w h.1 h.2
theorem bb{p q:a->Prop}(x)(h0:p x)(h1:q x):∃x,p x/\q x:=⟨x,h0,h1⟩
theorem ed{p q r:a->Prop}(x)(h0:p x)(h1:q x)(h2:r x):∃x,p x/\q x/\r x:=⟨x,h0,h1,h2⟩
theorem Vc{p q r s:a->Prop}(x)(h0:p x)(h1:q x)(h2:r x)(h3:s x):∃x,p x/\q x/\r x/\s x:=⟨x,h0,h1,h2,h3⟩
theorem uw{p:a->b->Prop}(x)(y)(h0:p x y):∃x y,p x y:=⟨x,y,h0⟩
theorem dF{p q:a->b->Prop}(x)(y)(h0:p x y)(h1:q x y):∃x y,p x y/\q x y:=⟨x,y,h0,h1⟩
theorem uv{p q r:a->b->Prop}(x)(y)(h0:p x y)(h1:q x y)(h2:r x y):∃x y,p x y/\q x y/\r x y:=⟨x,y,h0,h1,h2⟩
theorem Ft{p q r s:a->b->Prop}(x)(y)(h0:p x y)(h1:q x y)(h2:r x y)(h3:s x y):∃x y,p x y/\q x y/\r x y/\s x y:=⟨x,y,h0,h1,h2,h3⟩
theorem Vb{p q:a->b->c->Prop}(x)(y)(z)(h0:p x y z)(h1:q x y z):∃x y z,p x y z/\q x y z:=⟨x,y,z,h0,h1⟩
theorem zi{p q r:a->b->c->Prop}(x)(y)(z)(h0:p x y z)(h1:q x y z)(h2:r x y z):∃x y z,p x y z/\q x y z/\r x y z:=⟨x,y,z,h0,h1,h2⟩
theorem Va{p q r s:a->b->c->Prop}(x)(y)(z)(h0:p x y z)(h1:q x y z)(h2:r x y z)(h3:s x y z):∃x y z,p x y z/\q x y z/\r x y z/\s x y z:=⟨x,y,z,h0,h1,h2,h3⟩
theorem UZ{p q r s t k l m n:a->b->c->Prop}(x)(y)(z)(h0:p x y z)(h1:q x y z)(h2:r x y z)(h3:s x y z)(h4:t x y z)(h5:k x y z)(h6:l x y z)(h7:m x y z)(h8:n x y z):∃x y z,p x y z/\q x y z/\r x y z/\s x y z/\t x y z/\k x y z/\l x y z/\m x y z/\n x y z:=⟨x,y,z,h0,h1,h2,h3,h4,h5,h6,h7,h8⟩
theorem gg{p q r:a->b->c->d->Prop}(x)(y)(z)(u)(h0:p x y z u)(h1:q x y z u)(h2:r x y z u):∃x y z u,p x y z u/\q x y z u/\r x y z u:=⟨x,y,z,u,h0,h1,h2⟩
theorem Fs{p q r s:a->b->c->d->Prop}(x)(y)(z)(u)(h0:p x y z u)(h1:q x y z u)(h2:r x y z u)(h3:s x y z u):∃x y z u,p x y z u/\q x y z u/\r x y z u/\s x y z u:=⟨x,y,z,u,h0,h1,h2,h3⟩
theorem UY{p q r s t:a->b->c->d->Prop}(x)(y)(z)(u)(h0:p x y z u)(h1:q x y z u)(h2:r x y z u)(h3:s x y z u)(h4:t x y z u):∃x y z u,p x y z u/\q x y z u/\r x y z u/\s x y z u/\t x y z u:=⟨x,y,z,u,h0,h1,h2,h3,h4⟩
theorem Fr{p q r s t k:a->b->c->d->Prop}(x)(y)(z)(u)(h0:p x y z u)(h1:q x y z u)(h2:r x y z u)(h3:s x y z u)(h4:t x y z u)(h5:k x y z u):∃x y z u,p x y z u/\q x y z u/\r x y z u/\s x y z u/\t x y z u/\k x y z u:=⟨x,y,z,u,h0,h1,h2,h3,h4,h5⟩
theorem UX{p q r s t k l m:a->b->c->d->Prop}(x)(y)(z)(u)(h0:p x y z u)(h1:q x y z u)(h2:r x y z u)(h3:s x y z u)(h4:t x y z u)(h5:k x y z u)(h6:l x y z u)(h7:m x y z u):∃x y z u,p x y z u/\q x y z u/\r x y z u/\s x y z u/\t x y z u/\k x y z u/\l x y z u/\m x y z u:=⟨x,y,z,u,h0,h1,h2,h3,h4,h5,h6,h7⟩
theorem UW{p q r s:a->b->c->d->e->Prop}(x)(y)(z)(u)(v)(h0:p x y z u v)(h1:q x y z u v)(h2:r x y z u v)(h3:s x y z u v):∃x y z u v,p x y z u v/\q x y z u v/\r x y z u v/\s x y z u v:=⟨x,y,z,u,v,h0,h1,h2,h3⟩
end
theorem cw{α:Type}{P:α->Prop}(x:α)(h:x∈[]):P x:=(YM h).elim
noncomputable def uf{α:Type _}(p:α->Bool)(l:List α):Bool :=
 @List.rec α (fun O=>Bool) false (fun a O ih=>@Bool.rec (fun O=>Bool) ih true (p a)) l
theorem Tv{α:Type _}(p:α->Bool)(l:List α):uf p l=l.any p:=by
 induction l with
 |nil=>rfl
 |cons a l ih =>
  show @Bool.rec (fun O=>Bool) (uf p l) true (p a)=_
  rw[List.any_cons,← ih]
  cases p a <;> rfl
noncomputable def yM{α:Type _}(as:Array α)(p:α->Bool)(start stop:Nat):Bool :=
 @Bool.rec (fun O=>Bool) (Array.any as p start stop) (uf p as.toList) (Nat.beq start 0&&Nat.beq stop as.size)
theorem Tt:@Array.any=@yM:=by
 funext α as p start stop
 unfold yM
 cases h:(Nat.beq start 0&&Nat.beq stop as.size) with
 |false=>rfl
 |true =>
  obtain⟨h1,h2⟩:=Bool.and_eq_true_iff.mp h
  have e1:=Nat.eq_of_beq_eq_true h1
  have e2:=Nat.eq_of_beq_eq_true h2
  subst e1;subst e2
  show _=uf p as.toList
  rw[Tv,Array.any_toList]
set_option genSizeOf false in set_option genInjectivity false in
inductive ý {α:Type _} (a:α):α->Type
 |refl:ý a a
theorem ý.eq{α:Type _}{a b:α}(h:ý a b):a=b:=by cases h;rfl
noncomputable def xE:Σ' F:_->Builtin,ý PySem.W.Fast.tw4202317264376624991 (F @Array.any.{0}):=by
 refine⟨?F,?h⟩
 case h =>
  delta PySem.W.Fast.tw4202317264376624991
  generalize @Array.any.{0}=z
  exact .refl
noncomputable def Cm:Builtin:=xE.1 @yM.{0}
theorem MX:Builtin.«type.__new__» = Cm:=PySem.W.Fast.te4202317264376624991.trans (xE.2.eq.trans (congrArg xE.1 Tt))
noncomputable def eh(id:String):Option Builtin :=
 @Bool.rec (fun O=>Option Builtin) (PySem.W.Fast.tw14364793385576792824 id) (some Cm) (Nat.beq (PySem.code id) (PySem.code "type.__new__"))
theorem Hz:treeTable "type.__new__" = some Builtin.«type.__new__» := by kernel_rfl
theorem HA:treeTable=eh:=by
 funext id
 unfold eh
 cases h:Nat.beq (PySem.code id) (PySem.code "type.__new__") with
 |false=>exact congrFun PySem.W.Fast.te14364793385576792824 id
 |true =>
  have e:=PySem.code_inj _ _ (Nat.eq_of_beq_eq_true h)
  subst e
  exact Hz.trans (congrArg some MX)
noncomputable section
noncomputable abbrev NS(l:List Nat):Str:=⟨⟨l⟩⟩
set_option backward.match.sparseCases false in
noncomputable def bo:Stmt->List Stmt
 |.FunctionDef _ _ b _ _ _ _ _ _ _=>b
 |.ClassDef _ _ _ b _ _ _ _ _ _ _=>b
 |_=>[]
noncomputable def oP:List Stmt->Nat->Stmt
 | [],_ => .Pass ⟨0,0,0,0⟩
 |s::_,0=>s
 |_::r,n+1=>oP r n
 def bI(s:Stmt):Str:=match docOf (bo s) with
 |some d=>d
 |none=>⟨⟨[]⟩⟩
noncomputable abbrev WJ:List Str:=[]
 abbrev q0:Str:=NS [95,119,97,108,108]
 abbrev q1:Str:=NS [107]
 abbrev q2:Str:=NS [95,95,110,97,109,101,95,95]
 abbrev q3:Str:=NS [99,112,121,51,49,51,46,100,105,102,102,108,105,98]
 abbrev q4:Str:=NS [95,116,117,112,108,101,103,101,116,116,101,114]
 abbrev q5:Str:=NS [95,95,105,110,105,116,95,95]
 abbrev q6:Str:=NS [115,101,108,102]
 abbrev q7:Str:=NS [105,110,100,101,120]
 abbrev q8:Str:=NS [100,111,99]
 abbrev q9:Str:=NS [95,95,100,111,99,95,95]
 abbrev jT:Str:=NS [95,95,103,101,116,95,95]
 abbrev qJ:Str:=NS [111,98,106]
 abbrev BJ:Str:=NS [111,98,106,116,121,112,101]
 abbrev LF:Str:=NS [105,115,115,117,98,99,108,97,115,115]
 abbrev Ly:Str:=NS [116,121,112,101]
 abbrev Lu:Str:=NS [116,117,112,108,101]
 abbrev Ln:Str:=NS [95,95,103,101,116,105,116,101,109,95,95]
 abbrev jM:Str:=NS [95,95,115,101,116,95,95]
 abbrev BD:Str:=NS [118,97,108,117,101]
 abbrev KI:Str:=NS [65,116,116,114,105,98,117,116,101,69,114,114,111,114]
 abbrev jK:Str:=NS [95,95,100,101,108,101,116,101,95,95]
 abbrev eF:Str:=NS [77,97,116,99,104]
 abbrev Kf:Str:=NS [77,97,116,99,104,40,97,44,32,98,44,32,115,105,122,101,41]
 abbrev we:Str:=NS [95,95,115,108,111,116,115,95,95]
 abbrev wd:Str:=NS [95,102,105,101,108,100,115]
 abbrev di:Str:=NS [97]
 abbrev cZ:Str:=NS [98]
 abbrev ib:Str:=NS [115,105,122,101]
 abbrev wc:Str:=NS [95,102,105,101,108,100,95,100,101,102,97,117,108,116,115]
 abbrev jJ:Str:=NS [95,95,110,101,119,95,95]
 abbrev Bx:Str:=NS [95,99,108,115]
 abbrev hU:Str:=NS [95,109,97,107,101]
 abbrev Bw:Str:=NS [99,108,115]
 abbrev Bv:Str:=NS [105,116,101,114,97,98,108,101]
 abbrev wb:Str:=NS [114,101,115,117,108,116]
 abbrev Kd:Str:=NS [108,101,110]
 abbrev Kb:Str:=NS [84,121,112,101,69,114,114,111,114]
 abbrev Ka:Str:=NS [99,108,97,115,115,109,101,116,104,111,100]
 abbrev jI:Str:=NS [95,114,101,112,108,97,99,101]
 abbrev Bu:Str:=NS [107,119,100,115]
 abbrev wa:Str:=NS [95,95,99,108,97,115,115,95,95]
 abbrev JX:Str:=NS [95,95,108,101,110,95,95]
 abbrev JW:Str:=NS [112,111,112]
 abbrev JT:Str:=NS [109,97,112]
 abbrev JS:Str:=NS [108,105,115,116]
 abbrev vZ:Str:=NS [95,95,114,101,112,108,97,99,101,95,95]
 abbrev jH:Str:=NS [95,95,114,101,112,114,95,95]
 abbrev jG:Str:=NS [95,97,115,100,105,99,116]
 abbrev jF:Str:=NS [95,95,103,101,116,110,101,119,97,114,103,115,95,95]
 abbrev vY:Str:=NS [95,95,109,97,116,99,104,95,97,114,103,115,95,95]
 abbrev gu:Str:=NS [95,99,97,108,99,117,108,97,116,101,95,114,97,116,105,111]
 abbrev vX:Str:=NS [109,97,116,99,104,101,115]
 abbrev qB:Str:=NS [108,101,110,103,116,104]
 abbrev fc:Str:=NS [83,101,113,117,101,110,99,101,77,97,116,99,104,101,114]
 abbrev qA:Str:=NS [105,115,106,117,110,107]
 abbrev vW:Str:=NS [97,117,116,111,106,117,110,107]
 abbrev eE:Str:=NS []
 abbrev jE:Str:=NS [115,101,116,95,115,101,113,115]
 abbrev jD:Str:=NS [115,101,116,95,115,101,113,49]
 abbrev jC:Str:=NS [115,101,116,95,115,101,113,50]
 abbrev vV:Str:=NS [109,97,116,99,104,105,110,103,95,98,108,111,99,107,115]
 abbrev Bt:Str:=NS [111,112,99,111,100,101,115]
 abbrev Bs:Str:=NS [102,117,108,108,98,99,111,117,110,116]
 abbrev vU:Str:=NS [95,83,101,113,117,101,110,99,101,77,97,116,99,104,101,114,95,95,99,104,97,105,110,95,98]
 abbrev qz:Str:=NS [95,95,99,104,97,105,110,95,98]
 abbrev qy:Str:=NS [98,50,106]
 abbrev mJ:Str:=NS [105]
 abbrev Br:Str:=NS [101,108,116]
 abbrev JR:Str:=NS [101,110,117,109,101,114,97,116,101]
 abbrev Bq:Str:=NS [105,110,100,105,99,101,115]
 abbrev JP:Str:=NS [115,101,116,100,101,102,97,117,108,116]
 abbrev JN:Str:=NS [97,112,112,101,110,100]
 abbrev Bp:Str:=NS [98,106,117,110,107]
 abbrev Bo:Str:=NS [106,117,110,107]
 abbrev JM:Str:=NS [115,101,116]
 abbrev JK:Str:=NS [107,101,121,115]
 abbrev JH:Str:=NS [97,100,100]
 abbrev Bn:Str:=NS [98,112,111,112,117,108,97,114]
 abbrev Bm:Str:=NS [112,111,112,117,108,97,114]
 abbrev jB:Str:=NS [110]
 abbrev Bl:Str:=NS [110,116,101,115,116]
 abbrev Bk:Str:=NS [105,100,120,115]
 abbrev JF:Str:=NS [105,116,101,109,115]
 abbrev jA:Str:=NS [102,105,110,100,95,108,111,110,103,101,115,116,95,109,97,116,99,104]
 abbrev vT:Str:=NS [97,108,111]
 abbrev vS:Str:=NS [97,104,105]
 abbrev vR:Str:=NS [98,108,111]
 abbrev vQ:Str:=NS [98,104,105]
 abbrev Bj:Str:=NS [105,115,98,106,117,110,107]
 abbrev JE:Str:=NS [95,95,99,111,110,116,97,105,110,115,95,95]
 abbrev Bh:Str:=NS [98,101,115,116,105]
 abbrev Bg:Str:=NS [98,101,115,116,106]
 abbrev Bf:Str:=NS [98,101,115,116,115,105,122,101]
 abbrev Be:Str:=NS [106,50,108,101,110]
 abbrev Bd:Str:=NS [110,111,116,104,105,110,103]
 abbrev Jz:Str:=NS [114,97,110,103,101]
 abbrev Bc:Str:=NS [106,50,108,101,110,103,101,116]
 abbrev Jy:Str:=NS [103,101,116]
 abbrev Bb:Str:=NS [110,101,119,106,50,108,101,110]
 abbrev qx:Str:=NS [106]
 abbrev jS:Str:=NS [103,101,116,95,109,97,116,99,104,105,110,103,95,98,108,111,99,107,115]
 abbrev BS:Str:=NS [108,97]
 abbrev BR:Str:=NS [108,98]
 abbrev BQ:Str:=NS [113,117,101,117,101]
 abbrev wt:Str:=NS [120]
 abbrev LN:Str:=NS [115,111,114,116]
 abbrev mO:Str:=NS [105,49]
 abbrev mN:Str:=NS [106,49]
 abbrev BP:Str:=NS [107,49]
 abbrev BO:Str:=NS [110,111,110,95,97,100,106,97,99,101,110,116]
 abbrev mM:Str:=NS [105,50]
 abbrev mL:Str:=NS [106,50]
 abbrev BN:Str:=NS [107,50]
 abbrev jR:Str:=NS [103,101,116,95,111,112,99,111,100,101,115]
 abbrev BM:Str:=NS [97,110,115,119,101,114]
 abbrev BL:Str:=NS [97,105]
 abbrev BK:Str:=NS [98,106]
 abbrev mK:Str:=NS [116,97,103]
 abbrev LM:Str:=NS [114,101,112,108,97,99,101]
 abbrev LL:Str:=NS [100,101,108,101,116,101]
 abbrev LK:Str:=NS [105,110,115,101,114,116]
 abbrev LJ:Str:=NS [101,113,117,97,108]
 abbrev jQ:Str:=NS [103,101,116,95,103,114,111,117,112,101,100,95,111,112,99,111,100,101,115]
 abbrev BI:Str:=NS [99,111,100,101,115]
 abbrev LI:Str:=NS [109,97,120]
 abbrev LH:Str:=NS [109,105,110]
 abbrev BH:Str:=NS [110,110]
 abbrev qI:Str:=NS [103,114,111,117,112]
 abbrev jP:Str:=NS [114,97,116,105,111]
 abbrev LG:Str:=NS [115,117,109]
 abbrev LD:Str:=NS [116,114,105,112,108,101]
 abbrev LC:Str:=NS [46,48]
 abbrev jO:Str:=NS [113,117,105,99,107,95,114,97,116,105,111]
 abbrev jN:Str:=NS [114,101,97,108,95,113,117,105,99,107,95,114,97,116,105,111]
 abbrev ir:Str:=NS [95,102,111,114,109,97,116,95,114,97,110,103,101,95,117,110,105,102,105,101,100]
 abbrev wq:Str:=NS [115,116,97,114,116]
 abbrev wo:Str:=NS [115,116,111,112]
 abbrev wn:Str:=NS [98,101,103,105,110,110,105,110,103]
 abbrev LA:Str:=NS [123,125]
 abbrev Lz:Str:=NS [102,111,114,109,97,116]
 abbrev Lv:Str:=NS [123,125,44,123,125]
 abbrev iq:Str:=NS [117,110,105,102,105,101,100,95,100,105,102,102]
 abbrev qH:Str:=NS [102,114,111,109,102,105,108,101]
 abbrev qG:Str:=NS [116,111,102,105,108,101]
 abbrev qF:Str:=NS [102,114,111,109,102,105,108,101,100,97,116,101]
 abbrev qE:Str:=NS [116,111,102,105,108,101,100,97,116,101]
 abbrev qD:Str:=NS [108,105,110,101,116,101,114,109]
 abbrev wm:Str:=NS [10]
 abbrev ip:Str:=NS [95,99,104,101,99,107,95,116,121,112,101,115]
 abbrev wl:Str:=NS [115,116,97,114,116,101,100]
 abbrev wk:Str:=NS [102,114,111,109,100,97,116,101]
 abbrev Ls:Str:=NS [9,123,125]
 abbrev wj:Str:=NS [116,111,100,97,116,101]
 abbrev Lr:Str:=NS [45,45,45,32,123,125,123,125,123,125]
 abbrev Lq:Str:=NS [43,43,43,32,123,125,123,125,123,125]
 abbrev wi:Str:=NS [102,105,114,115,116]
 abbrev wh:Str:=NS [108,97,115,116]
 abbrev wg:Str:=NS [102,105,108,101,49,95,114,97,110,103,101]
 abbrev wf:Str:=NS [102,105,108,101,50,95,114,97,110,103,101]
 abbrev Lp:Str:=NS [64,64,32,45,123,125,32,43,123,125,32,64,64,123,125]
 abbrev qC:Str:=NS [108,105,110,101]
 abbrev Lm:Str:=NS [32]
 abbrev Ll:Str:=NS [45]
 abbrev Lk:Str:=NS [43]
 abbrev io:Str:=NS [95,102,111,114,109,97,116,95,114,97,110,103,101,95,99,111,110,116,101,120,116]
 abbrev im:Str:=NS [99,111,110,116,101,120,116,95,100,105,102,102]
 abbrev BG:Str:=NS [112,114,101,102,105,120]
 abbrev Lj:Str:=NS [100,105,99,116]
 abbrev Li:Str:=NS [43,32]
 abbrev Lh:Str:=NS [45,32]
 abbrev Lg:Str:=NS [33,32]
 abbrev Le:Str:=NS [32,32]
 abbrev Ld:Str:=NS [42,42,42,32,123,125,123,125,123,125]
 abbrev Lc:Str:=NS [42,42,42,42,42,42,42,42,42,42,42,42,42,42,42]
 abbrev Lb:Str:=NS [42,42,42,32,123,125,32,42,42,42,42,123,125]
 abbrev La:Str:=NS [97,110,121]
 abbrev BF:Str:=NS [95]
 abbrev KZ:Str:=NS [45,45,45,32,123,125,32,45,45,45,45,123,125]
 abbrev BE:Str:=NS [97,114,103,115]
 abbrev KX:Str:=NS [105,115,105,110,115,116,97,110,99,101]
 abbrev KS:Str:=NS [115,116,114]
 abbrev KR:Str:=NS [32,40]
 abbrev KP:Str:=NS [41]
 abbrev BC:Str:=NS [97,114,103]
 abbrev il:Str:=NS [100,105,102,102,95,98,121,116,101,115]
 abbrev BB:Str:=NS [100,102,117,110,99]
 abbrev BA:Str:=NS [100,101,99,111,100,101]
 abbrev KN:Str:=NS [115]
 abbrev KK:Str:=NS [97,115,99,105,105]
 abbrev KJ:Str:=NS [115,117,114,114,111,103,97,116,101,101,115,99,97,112,101]
 abbrev KF:Str:=NS [101,114,114]
 abbrev KD:Str:=NS [109,115,103]
 abbrev Bz:Str:=NS [108,105,110,101,115]
 abbrev KA:Str:=NS [101,110,99,111,100,101]
 abbrev jL:Str:=NS [108,97,119,95,100,109,48,48,52,57,95,48,52]
 abbrev ik:Str:=NS [95,108,97,119,95,111,99,116,101,116,115]
 abbrev By:Str:=NS [111,99,116,101,116,115]
 abbrev Kz:Str:=NS [98,121,116,101,115]
 abbrev ig:Str:=NS [95,108,97,119,95,116,101,120,116]
 abbrev Ky:Str:=NS [106,111,105,110]
 abbrev Kx:Str:=NS [111,110,101]
 abbrev Kw:Str:=NS [99,104,114]
 abbrev Kv:Str:=NS [102,97,115,116]
 abbrev ie:Str:=NS [95,108,97,119,95,97,103,97,105,110]
 abbrev Ku:Str:=NS [116,101,120,116]
 abbrev Kt:Str:=NS [111,114,100]
 abbrev Ks:Str:=NS [115,105,103,110]
 abbrev ic:Str:=NS [108,97,119]
 abbrev Kr:Str:=NS [115,99,114,105,112,116]
 abbrev Kq:Str:=NS [97,98,115]
 abbrev Kp:Str:=NS [111,108,100]
 abbrev Ko:Str:=NS [110,101,119]
 abbrev Kn:Str:=NS [111,108,100,100,97,116,101]
 abbrev Km:Str:=NS [110,101,119,100,97,116,101]
 abbrev Kl:Str:=NS [101,110,100]
 abbrev Kk:Str:=NS [101,120,116,101,110,100]
 abbrev Kj:Str:=NS [116,119,111]
 abbrev Ki:Str:=NS [99,111,109,112,97,114,101]
 abbrev Kh:Str:=NS [116,111,108,100]
 abbrev Kg:Str:=NS [114,111,119,115]
 abbrev Ke:Str:=NS [114,111,119]
 abbrev ap:Str:=NS [47,99,108,97,105,109,47,99,117,116,46,112,121]
noncomputable def FP(x0 x1 x2 x3 x4 x5 x6 x7 x8 x9 x10 x11 x12 x13 x14 x15 x16 x17 x18 x19 x20 x21 x22 x23 x24 x25 x26 x27 x28 x29 x30 x31 x32 x33 x34 x35 x36 x37 x38 x39 x40 x41 x42 x43 x44 x45 x46 x47 x48 x49 x50 x51 x52 x53 x54 x55 x56 x57 x58 x59 x60 x61 x62 x63 x64 x65 x66 x67 x68 x69 x70 x71 x72 x73 x74 x75 x76 x77 x78 x79 x80 x81 x82 x83 x84 x85 x86 x87 x88 x89 x90 x91 x92 x93 x94 x95 x96 x97 x98 x99 ź Ź Ÿ ŷ Ŷ ŵ Ŵ ų Ų ű Ű ů Ů ŭ Ŭ ū Ū ũ Ũ ŧ Ŧ ť Ť ţ Ţ š Š ş Ş ŝ Ŝ ś Ś ř Ř ŗ Ŗ ŕ Ŕ œ Œ ő Ő ŏ Ŏ ō Ō ŋ Ŋ ň Ň ņ Ņ ń Ń ł Ł ŀ Ŀ ľ Ľ ļ Ļ ĺ Ĺ ĸ ķ Ķ ĵ Ĵ ĳ Ĳ į Į ĭ Ĭ ī Ī ĩ Ĩ ħ Ħ ĥ Ĥ ģ Ģ ġ Ġ ğ Ğ ĝ Ĝ ě Ě ę Ę ė Ė ĕ Ĕ ē Ē đ Đ ď Ď č Č ċ Ċ ĉ Ĉ ć Ć ą Ą ă Ă ā Ā ÿ þ d:Str):Xh:=by
 refine' (?f:(p:Xh)->((∀a b s u p r e1 e2 e3 e4 e5 e6 e7 v,Stmt.ClassDef (WR "SequenceMatcher") a b (.Expr (.Constant (.str s) u v) p::r) e1 e2 e3 e4 e5 e6 e7=.ClassDef x53 a b (.Expr (.Constant (.str d) u v) p::r) e1 e2 e3 e4 e5 e6 e7)->("_wall" : Str)=x0->("k" : Str)=x1->("__name__" : Str)=x2->("cpy313.difflib" : Str)=x3->("_tuplegetter" : Str)=x4->("__init__" : Str)=x5->("self" : Str)=x6->("index" : Str)=x7->("doc" : Str)=x8->("__doc__" : Str)=x9->("__get__" : Str)=x10->("obj" : Str)=x11->("objtype" : Str)=x12->("issubclass" : Str)=x13->("type" : Str)=x14->("tuple" : Str)=x15->("__getitem__" : Str)=x16->("__set__" : Str)=x17->("value" : Str)=x18->("AttributeError" : Str)=x19->("__delete__" : Str)=x20->("Match" : Str)=x21->("Match(a, b, size)" : Str)=x22->("__slots__" : Str)=x23->("_fields" : Str)=x24->("a" : Str)=x25->("b" : Str)=x26->("size" : Str)=x27->("_field_defaults" : Str)=x28->("__new__" : Str)=x29->("_cls" : Str)=x30->("_make" : Str)=x31->("cls" : Str)=x32->("iterable" : Str)=x33->("result" : Str)=x34->("len" : Str)=x35->("TypeError" : Str)=x36->("classmethod" : Str)=x37->("_replace" : Str)=x38->("kwds" : Str)=x39->("__class__" : Str)=x40->("__len__" : Str)=x41->("pop" : Str)=x42->("map" : Str)=x43->("list" : Str)=x44->("__replace__" : Str)=x45->("__repr__" : Str)=x46->("_asdict" : Str)=x47->("__getnewargs__" : Str)=x48->("__match_args__" : Str)=x49->("_calculate_ratio" : Str)=x50->("matches" : Str)=x51->("length" : Str)=x52->("SequenceMatcher" : Str)=x53->("isjunk" : Str)=x54->("autojunk" : Str)=x55->("" : Str)=x56->("set_seqs" : Str)=x57->("set_seq1" : Str)=x58->("set_seq2" : Str)=x59->("matching_blocks" : Str)=x60->("opcodes" : Str)=x61->("fullbcount" : Str)=x62->("_SequenceMatcher__chain_b" : Str)=x63->("__chain_b" : Str)=x64->("b2j" : Str)=x65->("i" : Str)=x66->("elt" : Str)=x67->("enumerate" : Str)=x68->("indices" : Str)=x69->("setdefault" : Str)=x70->("append" : Str)=x71->("bjunk" : Str)=x72->("junk" : Str)=x73->("set" : Str)=x74->("keys" : Str)=x75->("add" : Str)=x76->("bpopular" : Str)=x77->("popular" : Str)=x78->("n" : Str)=x79->("ntest" : Str)=x80->("idxs" : Str)=x81->("items" : Str)=x82->("find_longest_match" : Str)=x83->("alo" : Str)=x84->("ahi" : Str)=x85->("blo" : Str)=x86->("bhi" : Str)=x87->("isbjunk" : Str)=x88->("__contains__" : Str)=x89->("besti" : Str)=x90->("bestj" : Str)=x91->("bestsize" : Str)=x92->("j2len" : Str)=x93->("nothing" : Str)=x94->("range" : Str)=x95->("j2lenget" : Str)=x96->("get" : Str)=x97->("newj2len" : Str)=x98->("j" : Str)=x99->("get_matching_blocks" : Str)=ź->("la" : Str)=Ź->("lb" : Str)=Ÿ->("queue" : Str)=ŷ->("x" : Str)=Ŷ->("sort" : Str)=ŵ->("i1" : Str)=Ŵ->("j1" : Str)=ų->("k1" : Str)=Ų->("non_adjacent" : Str)=ű->("i2" : Str)=Ű->("j2" : Str)=ů->("k2" : Str)=Ů->("get_opcodes" : Str)=ŭ->("answer" : Str)=Ŭ->("ai" : Str)=ū->("bj" : Str)=Ū->("tag" : Str)=ũ->("replace" : Str)=Ũ->("delete" : Str)=ŧ->("insert" : Str)=Ŧ->("equal" : Str)=ť->("get_grouped_opcodes" : Str)=Ť->("codes" : Str)=ţ->("max" : Str)=Ţ->("min" : Str)=š->("nn" : Str)=Š->("group" : Str)=ş->("ratio" : Str)=Ş->("sum" : Str)=ŝ->("triple" : Str)=Ŝ->(".0" : Str)=ś->("quick_ratio" : Str)=Ś->("real_quick_ratio" : Str)=ř->("_format_range_unified" : Str)=Ř->("start" : Str)=ŗ->("stop" : Str)=Ŗ->("beginning" : Str)=ŕ->("{}" : Str)=Ŕ->("format" : Str)=œ->("{},{}" : Str)=Œ->("unified_diff" : Str)=ő->("fromfile" : Str)=Ő->("tofile" : Str)=ŏ->("fromfiledate" : Str)=Ŏ->("tofiledate" : Str)=ō->("lineterm" : Str)=Ō->("\n" : Str)=ŋ->("_check_types" : Str)=Ŋ->("started" : Str)=ň->("fromdate" : Str)=Ň->("\t{}" : Str)=ņ->("todate" : Str)=Ņ->("--- {}{}{}" : Str)=ń->("+++ {}{}{}" : Str)=Ń->("first" : Str)=ł->("last" : Str)=Ł->("file1_range" : Str)=ŀ->("file2_range" : Str)=Ŀ->("@@ -{} +{} @@{}" : Str)=ľ->("line" : Str)=Ľ->(" " : Str)=ļ->("-" : Str)=Ļ->("+" : Str)=ĺ->("_format_range_context" : Str)=Ĺ->("context_diff" : Str)=ĸ->("prefix" : Str)=ķ->("dict" : Str)=Ķ->("+ " : Str)=ĵ->("- " : Str)=Ĵ->("! " : Str)=ĳ->("  " : Str)=Ĳ->("*** {}{}{}" : Str)=į->("***************" : Str)=Į->("*** {} ****{}" : Str)=ĭ->("any" : Str)=Ĭ->("_" : Str)=ī->("--- {} ----{}" : Str)=Ī->("args" : Str)=ĩ->("isinstance" : Str)=Ĩ->("str" : Str)=ħ->(" (" : Str)=Ħ->(")" : Str)=ĥ->("arg" : Str)=Ĥ->("diff_bytes" : Str)=ģ->("dfunc" : Str)=Ģ->("decode" : Str)=ġ->("s" : Str)=Ġ->("ascii" : Str)=ğ->("surrogateescape" : Str)=Ğ->("err" : Str)=ĝ->("msg" : Str)=Ĝ->("lines" : Str)=ě->("encode" : Str)=Ě->("law_dm0049_04" : Str)=ę->("_law_octets" : Str)=Ę->("octets" : Str)=ė->("bytes" : Str)=Ė->("_law_text" : Str)=ĕ->("join" : Str)=Ĕ->("one" : Str)=ē->("chr" : Str)=Ē->("fast" : Str)=đ->("_law_again" : Str)=Đ->("text" : Str)=ď->("ord" : Str)=Ď->("sign" : Str)=č->("law" : Str)=Č->("script" : Str)=ċ->("abs" : Str)=Ċ->("old" : Str)=ĉ->("new" : Str)=Ĉ->("olddate" : Str)=ć->("newdate" : Str)=Ć->("end" : Str)=ą->("extend" : Str)=Ą->("two" : Str)=ă->("compare" : Str)=Ă->("told" : Str)=ā->("rows" : Str)=Ā->("row" : Str)=ÿ->("/claim/cut.py" : Str)=þ->YR=p)->Xh) _ ?h
 case h =>
  intro hD
  delta YR
  rw[hD]
  clear hD
  intros
  refine' Eq.trans (b:=_) ?_ rfl
  simp only[*];rfl
 case f=>exact fun p O=>p
noncomputable def RH:Str:=by
 refine' (?f:(d:Str)->(bI (oP PySem.Challenge.pw_dm0049_04.main.body 5)=d)->Str) _ ?h
 case h =>
  show WR _=_
  exact PySem.W.Fast.ofString_ofList _
 case f=>exact fun d O=>d
 def TP:Xh:=FP q0 q1 q2 q3 q4 q5 q6 q7 q8 q9 jT qJ BJ LF Ly Lu Ln jM BD KI jK eF Kf we wd di cZ ib wc jJ Bx hU Bw Bv wb Kd Kb Ka jI Bu wa JX JW JT JS vZ jH jG jF vY gu vX qB fc qA vW eE jE jD jC vV Bt Bs vU qz qy mJ Br JR Bq JP JN Bp Bo JM JK JH Bn Bm jB Bl Bk JF jA vT vS vR vQ Bj JE Bh Bg Bf Be Bd Jz Bc Jy Bb qx jS BS BR BQ wt LN mO mN BP BO mM mL BN jR BM BL BK mK LM LL LK LJ jQ BI LI LH BH qI jP LG LD LC jO jN ir wq wo wn LA Lz Lv iq qH qG qF qE qD wm ip wl wk Ls wj Lr Lq wi wh wg wf Lp qC Lm Ll Lk io im BG Lj Li Lh Lg Le Ld Lc Lb La BF KZ BE KX KS KR KP BC il BB BA KN KK KJ KF KD Bz KA jL ik By Kz ig Ky Kx Kw Kv ie Ku Kt Ks ic Kr Kq Kp Ko Kn Km Kl Kk Kj Ki Kh Kg Ke ap RH
theorem qh:YR=TP:=by
 refine(show YR=FP "_wall" "k" "__name__" "cpy313.difflib" "_tuplegetter" "__init__" "self" "index" "doc" "__doc__" "__get__" "obj" "objtype" "issubclass" "type" "tuple" "__getitem__" "__set__" "value" "AttributeError" "__delete__" "Match" "Match(a, b, size)" "__slots__" "_fields" "a" "b" "size" "_field_defaults" "__new__" "_cls" "_make" "cls" "iterable" "result" "len" "TypeError" "classmethod" "_replace" "kwds" "__class__" "__len__" "pop" "map" "list" "__replace__" "__repr__" "_asdict" "__getnewargs__" "__match_args__" "_calculate_ratio" "matches" "length" "SequenceMatcher" "isjunk" "autojunk" "" "set_seqs" "set_seq1" "set_seq2" "matching_blocks" "opcodes" "fullbcount" "_SequenceMatcher__chain_b" "__chain_b" "b2j" "i" "elt" "enumerate" "indices" "setdefault" "append" "bjunk" "junk" "set" "keys" "add" "bpopular" "popular" "n" "ntest" "idxs" "items" "find_longest_match" "alo" "ahi" "blo" "bhi" "isbjunk" "__contains__" "besti" "bestj" "bestsize" "j2len" "nothing" "range" "j2lenget" "get" "newj2len" "j" "get_matching_blocks" "la" "lb" "queue" "x" "sort" "i1" "j1" "k1" "non_adjacent" "i2" "j2" "k2" "get_opcodes" "answer" "ai" "bj" "tag" "replace" "delete" "insert" "equal" "get_grouped_opcodes" "codes" "max" "min" "nn" "group" "ratio" "sum" "triple" ".0" "quick_ratio" "real_quick_ratio" "_format_range_unified" "start" "stop" "beginning" "{}" "format" "{},{}" "unified_diff" "fromfile" "tofile" "fromfiledate" "tofiledate" "lineterm" "\n" "_check_types" "started" "fromdate" "\t{}" "todate" "--- {}{}{}" "+++ {}{}{}" "first" "last" "file1_range" "file2_range" "@@ -{} +{} @@{}" "line" " " "-" "+" "_format_range_context" "context_diff" "prefix" "dict" "+ " "- " "! " "  " "*** {}{}{}" "***************" "*** {} ****{}" "any" "_" "--- {} ----{}" "args" "isinstance" "str" " (" ")" "arg" "diff_bytes" "dfunc" "decode" "s" "ascii" "surrogateescape" "err" "msg" "lines" "encode" "law_dm0049_04" "_law_octets" "octets" "bytes" "_law_text" "join" "one" "chr" "fast" "_law_again" "text" "ord" "sign" "law" "script" "abs" "old" "new" "olddate" "newdate" "end" "extend" "two" "compare" "told" "rows" "row" "/claim/cut.py" (bI (oP PySem.Challenge.pw_dm0049_04.main.body 5)) from by kernel_rfl).trans ?_
 unfold TP
 repeat' first |exact PySem.W.Fast.ofString_ofList _ |with_reducible rfl |refine congr ?_ ?_
noncomputable abbrev nd:=BT.node
noncomputable abbrev nl:=BT.nil
noncomputable def kv(P:WQ)(k:Str)(t:Nat)(v:Value):DictEntry:=⟨PyData.keyHash P k,.str k t,v⟩
set_option backward.match.sparseCases false in
noncomputable def ud:Stmt->Arguments
 |.FunctionDef _ a _ _ _ _ _ _ _ _=>a
 |_=>⟨[],[],none,[],[],none,[]⟩
set_option backward.match.sparseCases false in
noncomputable def jz:Stmt->Scope
 |.FunctionDef _ _ _ _ _ _ s _ _ _=>s
 |_=>default
 def aE(i:Nat):Stmt:=oP TP.main.body i
 def aq(i j:Nat):Stmt:=oP (bo (aE i)) j
noncomputable def aF(st:Stmt)(name qual:Str)(g:XC)(cl:List (Str×XC))(d k doc m:Value)(an:Option XC)(cd ct:Value)(b:XC):a8 :=
 ⟨name,qual,ud st,.stmts (bo st),jz st,g,cl,d,k,doc,m,an,cd,ct,b⟩
noncomputable def dU:Life:={}
noncomputable abbrev I(n:Int):Value:=.int n 0
noncomputable abbrev Tu(l:List Value):Obj:=⟨.type "tuple",none,.seq ⟨l⟩ 0,⟨[]⟩⟩
noncomputable abbrev Co(l:List Value):Obj:=⟨.type "code",none,.fields ⟨l⟩,⟨[]⟩⟩
 abbrev cd(a:Str)(n1:Nat)(b:Str)(n2:Nat)(c:Str)(n3 i1 i2 i3 i4 i5 r1:Nat)(t:Bool)(i6 r2:Nat)(x y z:Value)(i7 i8:Nat)(e:Str)(n4:Nat):Obj:=Co [.str a n1,.str b n2,.str c n3,I i1,I i2,I i3,I i4,I i5,.ref r1,.bool t,I i6,.ref r2,.none,x,y,z,I i7,I i8,.str e n4]
noncomputable abbrev Fu(d:a8):Obj:=⟨.type "function",none,.func d,⟨[]⟩⟩
noncomputable abbrev Fn(d:a8):Obj:=⟨.none,none,.func d,⟨[]⟩⟩
noncomputable abbrev Fi(l:List Value):Obj:=⟨.none,none,.fields ⟨l⟩,⟨[]⟩⟩
 abbrev ew(s:Stmt)(z:Str):a8:=aF s z z 0 [] .none .none .none .none none .none .none 0
 def z0:Str:=NS [60,109,111,100,117,108,101,62]
 def z2:Str:=NS [95,95,109,97,105,110,95,95]
 def z6:Str:=NS [95,95,112,97,99,107,97,103,101,95,95]
 def z7:Str:=NS [95,95,108,111,97,100,101,114,95,95]
 def z8:Str:=NS [95,95,115,112,101,99,95,95]
 def z9:Str:=NS [95,95,97,110,110,111,116,97,116,105,111,110,115,95,95]
 def pY:Str:=NS [95,95,98,117,105,108,116,105,110,115,95,95]
 def pX:Str:=NS [95,95,102,105,108,101,95,95]
 def pW:Str:=NS [95,95,99,97,99,104,101,100,95,95]
 def gS:Str:=NS [95,95,109,111,100,117,108,101,95,95]
 def pV:Str:=NS [95,95,113,117,97,108,110,97,109,101,95,95]
 def jt:Str:=NS [95,95,102,105,114,115,116,108,105,110,101,110,111,95,95]
 def jr:Str:=NS [95,95,115,116,97,116,105,99,95,97,116,116,114,105,98,117,116,101,115,95,95]
 def uZ:Str:=NS [95,116,117,112,108,101,103,101,116,116,101,114,46,95,95,105,110,105,116,95,95]
 def uY:Str:=NS [95,116,117,112,108,101,103,101,116,116,101,114,46,95,95,103,101,116,95,95]
 def uX:Str:=NS [95,116,117,112,108,101,103,101,116,116,101,114,46,95,95,115,101,116,95,95]
 def uW:Str:=NS [95,116,117,112,108,101,103,101,116,116,101,114,46,95,95,100,101,108,101,116,101,95,95]
 def pU:Str:=NS [95,95,100,105,99,116,95,95]
 def pT:Str:=NS [95,95,119,101,97,107,114,101,102,95,95]
 def Gg:Str:=NS [95,95,99,108,97,115,115,99,101,108,108,95,95]
 def uV:Str:=NS [77,97,116,99,104,46,95,95,110,101,119,95,95]
 def pS:Str:=NS [77,97,116,99,104,46,95,109,97,107,101]
 def uU:Str:=NS [77,97,116,99,104,46,95,114,101,112,108,97,99,101]
 def uT:Str:=NS [77,97,116,99,104,46,95,95,114,101,112,114,95,95]
 def uS:Str:=NS [77,97,116,99,104,46,95,97,115,100,105,99,116]
 def uR:Str:=NS [77,97,116,99,104,46,95,95,103,101,116,110,101,119,97,114,103,115,95,95]
 def zH:Str:=NS [65,108,105,97,115,32,102,111,114,32,102,105,101,108,100,32,110,117,109,98,101,114,32,48]
 def zG:Str:=NS [65,108,105,97,115,32,102,111,114,32,102,105,101,108,100,32,110,117,109,98,101,114,32,49]
 def zF:Str:=NS [65,108,105,97,115,32,102,111,114,32,102,105,101,108,100,32,110,117,109,98,101,114,32,50]
 def uQ:Str:=NS [83,101,113,117,101,110,99,101,77,97,116,99,104,101,114,46,95,95,105,110,105,116,95,95]
 def uP:Str:=NS [83,101,113,117,101,110,99,101,77,97,116,99,104,101,114,46,115,101,116,95,115,101,113,115]
 def uO:Str:=NS [83,101,113,117,101,110,99,101,77,97,116,99,104,101,114,46,115,101,116,95,115,101,113,49]
 def uN:Str:=NS [83,101,113,117,101,110,99,101,77,97,116,99,104,101,114,46,115,101,116,95,115,101,113,50]
 def uM:Str:=NS [83,101,113,117,101,110,99,101,77,97,116,99,104,101,114,46,95,95,99,104,97,105,110,95,98]
 def vp:Str:=NS [83,101,113,117,101,110,99,101,77,97,116,99,104,101,114,46,102,105,110,100,95,108,111,110,103,101,115,116,95,109,97,116,99,104]
 def vk:Str:=NS [83,101,113,117,101,110,99,101,77,97,116,99,104,101,114,46,103,101,116,95,109,97,116,99,104,105,110,103,95,98,108,111,99,107,115]
 def vj:Str:=NS [83,101,113,117,101,110,99,101,77,97,116,99,104,101,114,46,103,101,116,95,111,112,99,111,100,101,115]
 def vh:Str:=NS [83,101,113,117,101,110,99,101,77,97,116,99,104,101,114,46,103,101,116,95,103,114,111,117,112,101,100,95,111,112,99,111,100,101,115]
 def vf:Str:=NS [83,101,113,117,101,110,99,101,77,97,116,99,104,101,114,46,114,97,116,105,111]
 def vd:Str:=NS [83,101,113,117,101,110,99,101,77,97,116,99,104,101,114,46,113,117,105,99,107,95,114,97,116,105,111]
 def vc:Str:=NS [83,101,113,117,101,110,99,101,77,97,116,99,104,101,114,46,114,101,97,108,95,113,117,105,99,107,95,114,97,116,105,111]
 def iU(P:WQ):Obj:=Tu []
 def MS(P:WQ):Obj:=Fi []
 def iT(P:WQ):Obj:=cd z0 182 z0 183 ap 184 1 0 0 0 0 11 false 181 12 .none .none .none 185 1 ap 186
 def iR(P:WQ):Obj:=⟨(.type "frame"),none,.plain,⟨[some (.ref 13),some (.ref 3),some (.ref 3),none,some (.str z2 164),none,some (.ref 0)]⟩⟩
 def o3(P:WQ):Obj:=⟨(.type "dict"),none,.dict ⟨[kv P q2 165 (.str q3 194),kv P q9 166 .none,kv P z6 167 .none,kv P z7 168 (.builtin "__main__.__loader__#opaque"),kv P z8 169 .none,kv P z9 170 (.ref 6),kv P pY 171 (.ref 4),kv P pX 173 (.str ap 172),kv P pW 174 .none,kv P q0 193 (.ref 21),kv P q4 252 (.ref 60)]⟩ 11,⟨[]⟩⟩
 def MR(P:WQ):Obj:=Fi [(I 1),(I 0),(.ref 20),(I 5),(I 0),(.ref 27)]
 def lJ(P:WQ):Obj:=Tu []
 def lI(P:WQ):Obj:=Fi []
 def lH(P:WQ):Obj:=Tu [(.str q1 190)]
 def lG(P:WQ):Obj:=Tu []
 def lF(P:WQ):Obj:=Fn (ew (aE 0) q0)
 def lE(P:WQ):Obj:=cd q0 187 q0 188 ap 189 1 1 0 0 3 15 true 181 16 (.ref 17) (.ref 18) (.ref 19) 191 1 ap 192
 def lD(P:WQ):Obj:=Fu (aF (aE 0) q0 q0 3 [] .none .none .none (.str z2 164) none (.ref 20) .none 0)
 def lC(P:WQ):Obj:=Tu []
noncomputable def lB(P:WQ):Obj:=⟨(.type "builtin_function_or_method"),none,.fields ⟨[(.builtin "type.__prepare__"),(.type "type")]⟩,⟨[]⟩⟩
 def lA(P:WQ):Obj:=⟨(.type "dict"),none,.dict ⟨[kv P gS 203 (.str q3 194),kv P pV 205 (.str q4 204),kv P jt 207 (.int 5 206),kv P q5 216 (.ref 35),kv P jT 225 (.ref 43),kv P jM 234 (.ref 50),kv P jK 242 (.ref 57),kv P jr 245 (.ref 58)]⟩ 8,⟨[]⟩⟩
 def lz(P:WQ):Obj:=Tu []
 def lx(P:WQ):Obj:=Fi [(I 7),(I 4),(.ref 34),(I 11),(I 4),(.ref 42),(I 18),(I 4),(.ref 49),(I 21),(I 4),(.ref 56)]
 def lq(P:WQ):Obj:=cd q4 198 q4 199 ap 200 5 0 0 0 0 25 false 181 26 .none .none .none 201 5 ap 202
 def ll(P:WQ):Obj:=⟨(.type "frame"),none,.plain,⟨[some (.ref 27),some (.ref 3),some (.ref 24),none,some (.str q3 194),none,some (.ref 0)]⟩⟩
 def lh(P:WQ):Obj:=Tu []
 def kY(P:WQ):Obj:=Fi []
 def kU(P:WQ):Obj:=Tu [(.str q6 211),(.str q7 212),(.str q8 213)]
 def kS(P:WQ):Obj:=Tu []
 def kQ(P:WQ):Obj:=Fn (aF (aq 2 0) q5 uZ 0 [] .none .none .none .none none .none .none 0)
 def kP(P:WQ):Obj:=cd q5 208 uZ 209 ap 210 7 3 0 0 3 29 true 181 30 (.ref 31) (.ref 32) (.ref 33) 214 7 ap 215
 def kO(P:WQ):Obj:=Fu (aF (aq 2 0) q5 uZ 3 [] .none .none .none (.str q3 194) none (.ref 34) .none 0)
 def kN(P:WQ):Obj:=Tu [.none]
 def kM(P:WQ):Obj:=Tu []
 def kL(P:WQ):Obj:=Fi []
 def kK(P:WQ):Obj:=Tu [(.str q6 220),(.str qJ 221),(.str BJ 222)]
 def kJ(P:WQ):Obj:=Tu []
 def kH(P:WQ):Obj:=Fn (aF (aq 2 1) jT uY 0 [] .none .none .none .none none .none .none 0)
 def kG(P:WQ):Obj:=cd jT 217 uY 218 ap 219 11 3 0 0 3 37 true 181 38 (.ref 39) (.ref 40) (.ref 41) 223 11 ap 224
 def kF(P:WQ):Obj:=Fu (aF (aq 2 1) jT uY 3 [] (.ref 36) .none .none (.str q3 194) none (.ref 42) .none 0)
 def kC(P:WQ):Obj:=Tu []
 def kB(P:WQ):Obj:=Fi []
 def kA(P:WQ):Obj:=Tu [(.str q6 229),(.str qJ 230),(.str BD 231)]
 def kz(P:WQ):Obj:=Tu []
 def ky(P:WQ):Obj:=Fn (aF (aq 2 2) jM uX 0 [] .none .none .none .none none .none .none 0)
 def kx(P:WQ):Obj:=cd jM 226 uX 227 ap 228 18 3 0 0 3 44 true 181 45 (.ref 46) (.ref 47) (.ref 48) 232 18 ap 233
 def ku(P:WQ):Obj:=Fu (aF (aq 2 2) jM uX 3 [] .none .none .none (.str q3 194) none (.ref 49) .none 0)
 def kt(P:WQ):Obj:=Tu []
 def kr(P:WQ):Obj:=Fi []
 def kq(P:WQ):Obj:=Tu [(.str q6 238),(.str qJ 239)]
 def ko(P:WQ):Obj:=Tu []
 def km(P:WQ):Obj:=Fn (aF (aq 2 3) jK uW 0 [] .none .none .none .none none .none .none 0)
 def kl(P:WQ):Obj:=cd jK 235 uW 236 ap 237 21 2 0 0 3 51 true 181 52 (.ref 53) (.ref 54) (.ref 55) 240 21 ap 241
 def kj(P:WQ):Obj:=Fu (aF (aq 2 3) jK uW 3 [] .none .none .none (.str q3 194) none (.ref 56) .none 0)
 def ki(P:WQ):Obj:=Tu [(.str q9 243),(.str q7 244)]
 def kh(P:WQ):Obj:=⟨(.type "dict"),none,.dict ⟨[kv P gS 203 (.str q3 194),kv P jt 207 (.int 5 206),kv P q5 216 (.ref 35),kv P jT 225 (.ref 43),kv P jM 234 (.ref 50),kv P jK 242 (.ref 57),kv P jr 245 (.ref 58),kv P pU 247 (.ref 61),kv P pT 249 (.ref 62),kv P q9 250 .none]⟩ 4,⟨[]⟩⟩
 def kg(P:WQ):Obj:=⟨(.type "type"),none,.cls ⟨q4,[(.type "object")],[(.ref 60),(.type "object")],59,q4,true,[],[],false,none,false⟩,⟨[none,none,some (.str q4 196),some (.str q4 204),some (.builtin "object.__new__"),some (.bool true)]⟩⟩
 def kf(P:WQ):Obj:=⟨(.type "getset_descriptor"),none,.fields ⟨[(.str pU 246),(.ref 60),(.builtin "function.__dict__"),(.builtin "function.__dict__#set")]⟩,⟨[]⟩⟩
 def ke(P:WQ):Obj:=⟨(.type "getset_descriptor"),none,.fields ⟨[(.str pT 248),(.ref 60),(.builtin "ExceptionGroup.__weakref__"),.none]⟩,⟨[]⟩⟩
noncomputable def kd(P:WQ):Obj:=⟨(.type "super"),none,.fields ⟨[(.ref 60),(.ref 60),(.ref 60)]⟩,⟨[]⟩⟩
noncomputable def kc(P:WQ):Obj:=⟨(.type "builtin_function_or_method"),none,.fields ⟨[(.builtin "object.__init_subclass__"),(.ref 60)]⟩,⟨[]⟩⟩
 def MO(P:WQ):Obj:=⟨(.type "dict"),none,.dict ⟨[kv P q2 165 (.str q3 194),kv P q9 166 .none,kv P z6 167 .none,kv P z7 168 (.builtin "__main__.__loader__#opaque"),kv P z8 169 .none,kv P z9 170 (.ref 6),kv P pY 171 (.ref 4),kv P pX 173 (.str ap 172),kv P pW 174 .none,kv P q0 193 (.ref 21),kv P q4 252 (.ref 60),kv P eF 380 (.ref 135)]⟩ 12,⟨[]⟩⟩
 def MQ(P:WQ):Obj:=Fi [(I 1),(I 0),(.ref 20),(I 5),(I 0),(.ref 27),(I 23),(I 0),(.ref 71)]
 def nF(P:WQ):Obj:=Tu [(.type "tuple")]
noncomputable def nE(P:WQ):Obj:=⟨(.type "builtin_function_or_method"),none,.fields ⟨[(.builtin "type.__prepare__"),(.type "type")]⟩,⟨[]⟩⟩
 def nD(P:WQ):Obj:=⟨(.type "dict"),none,.dict ⟨[kv P gS 260 (.str q3 194),kv P pV 262 (.str eF 261),kv P jt 264 (.int 23 263),kv P q9 266 (.str (bI (aE 3)) 265),kv P we 268 (.ref 73),kv P wd 272 (.ref 74),kv P wc 273 (.ref 75),kv P jJ 284 (.ref 82),kv P hU 306 (.ref 91),kv P jI 317 (.ref 100),kv P vZ 318 (.ref 100),kv P jH 326 (.ref 107),kv P jG 333 (.ref 114),kv P jF 341 (.ref 121),kv P vY 345 (.ref 122),kv P di 355 (.ref 124),kv P cZ 365 (.ref 127),kv P ib 375 (.ref 130),kv P jr 376 (.ref 132),kv P Gg 377 (.ref 68)]⟩ 20,⟨[]⟩⟩
noncomputable def nC(P:WQ):Obj:=⟨(.type "cell"),none,.cell (some (.ref 135)),⟨[]⟩⟩
 def nB(P:WQ):Obj:=Tu []
 def nz(P:WQ):Obj:=Fi [(I 29),(I 4),(.ref 81),(I 34),(I 4),(.ref 88),(I 41),(I 4),(.ref 99),(I 52),(I 4),(.ref 106),(I 56),(I 4),(.ref 113),(I 59),(I 4),(.ref 120)]
 def ny(P:WQ):Obj:=cd eF 255 eF 256 ap 257 23 0 0 0 0 69 false 181 70 .none .none .none 258 23 ap 259
 def nx(P:WQ):Obj:=⟨(.type "frame"),none,.plain,⟨[some (.ref 71),some (.ref 3),some (.ref 67),none,some (.str q3 194),none,some (.ref 0)]⟩⟩
 def nw(P:WQ):Obj:=Tu []
 def nv(P:WQ):Obj:=Tu [(.str di 269),(.str cZ 270),(.str ib 271)]
noncomputable def nu(P:WQ):Obj:=⟨(.type "dict"),none,.dict ⟨[]⟩ 0,⟨[]⟩⟩
 def nr(P:WQ):Obj:=Tu []
 def nq(P:WQ):Obj:=Fi []
 def nk(P:WQ):Obj:=Tu [(.str Bx 277),(.str di 278),(.str cZ 279),(.str ib 280)]
 def nj(P:WQ):Obj:=Tu []
 def ni(P:WQ):Obj:=Fn (aF (aq 3 4) jJ uV 0 [] .none .none .none .none none .none .none 0)
 def gw(P:WQ):Obj:=cd jJ 274 uV 275 ap 276 29 4 0 0 3 76 true 181 77 (.ref 78) (.ref 79) (.ref 80) 281 29 ap 282
 def fJ(P:WQ):Obj:=Fu (aF (aq 3 4) jJ uV 3 [] .none .none (.str (bI (aq 3 4)) 283) (.str q3 194) none (.ref 81) .none 0)
 def nh(P:WQ):Obj:=Tu []
 def ng(P:WQ):Obj:=Fi []
 def nf(P:WQ):Obj:=Tu [(.str Bw 288),(.str Bv 289),(.str wb 290)]
 def nc(P:WQ):Obj:=Tu []
 def nb(P:WQ):Obj:=Fn (aF (aq 3 5) hU pS 0 [] .none .none .none .none none .none .none 0)
 def gv(P:WQ):Obj:=cd hU 285 pS 286 ap 287 33 2 0 0 3 83 true 181 84 (.ref 85) (.ref 86) (.ref 87) 291 33 ap 292
 def fH(P:WQ):Obj:=Fu (aF (aq 3 5) hU pS 3 [] .none .none (.str (bI (aq 3 5)) 293) (.str q3 194) (some 92) (.ref 88) .none 0)
 def mZ(P:WQ):Obj:=⟨(.type "dict"),none,.dict ⟨[kv P gS 295 (.str q3 194),kv P q2 298 (.str hU 297),kv P pV 301 (.str pS 300),kv P q9 303 (.str (bI (aq 3 5)) 293),kv P z9 305 (.ref 92)]⟩ 5,⟨[]⟩⟩
noncomputable def mY(P:WQ):Obj:=⟨(.type "classmethod"),some 90,.fields ⟨[(.ref 89),(.bool false)]⟩,⟨[]⟩⟩
noncomputable def mX(P:WQ):Obj:=⟨(.type "dict"),none,.dict ⟨[]⟩ 0,⟨[]⟩⟩
 def mW(P:WQ):Obj:=Tu [(.ref 68)]
 def mV(P:WQ):Obj:=Tu [(.str wa 310)]
 def mU(P:WQ):Obj:=Fi []
 def mS(P:WQ):Obj:=Tu [(.str q6 311),(.str Bu 312),(.str wb 313)]
 def mR(P:WQ):Obj:=Tu []
 def mQ(P:WQ):Obj:=Fn (aF (aq 3 6) jI uU 0 [] .none .none .none .none none .none .none 0)
 def mP(P:WQ):Obj:=cd jI 307 uU 308 ap 309 41 1 1 0 11 94 true 181 95 (.ref 96) (.ref 97) (.ref 98) 314 41 ap 315
 def oO(P:WQ):Obj:=Fu (aF (aq 3 6) jI uU 3 [(wa,68)] .none .none (.str (bI (aq 3 6)) 316) (.str q3 194) none (.ref 99) (.ref 93) 0)
 def oM(P:WQ):Obj:=Tu []
 def oL(P:WQ):Obj:=Fi []
 def oK(P:WQ):Obj:=Tu [(.str q6 322)]
 def oJ(P:WQ):Obj:=Tu []
 def oI(P:WQ):Obj:=Fn (aF (aq 3 8) jH uT 0 [] .none .none .none .none none .none .none 0)
 def oH(P:WQ):Obj:=cd jH 319 uT 320 ap 321 52 1 0 0 3 101 true 181 102 (.ref 103) (.ref 104) (.ref 105) 323 52 ap 324
 def oG(P:WQ):Obj:=Fu (aF (aq 3 8) jH uT 3 [] .none .none (.str (bI (aq 3 8)) 325) (.str q3 194) none (.ref 106) .none 0)
 def oF(P:WQ):Obj:=Tu []
 def oE(P:WQ):Obj:=Fi []
 def oD(P:WQ):Obj:=Tu [(.str q6 330)]
 def oC(P:WQ):Obj:=Tu []
 def oB(P:WQ):Obj:=Fn (aF (aq 3 9) jG uS 0 [] .none .none .none .none none .none .none 0)
 def oA(P:WQ):Obj:=cd jG 327 uS 328 ap 329 56 1 0 0 3 108 true 181 109 (.ref 110) (.ref 111) (.ref 112) 331 56 ap 332
 def oy(P:WQ):Obj:=Fu (aF (aq 3 9) jG uS 3 [] .none .none .none (.str q3 194) none (.ref 113) .none 0)
 def ou(P:WQ):Obj:=Tu []
 def oq(P:WQ):Obj:=Fi []
 def oo(P:WQ):Obj:=Tu [(.str q6 337)]
 def oj(P:WQ):Obj:=Tu []
 def oh(P:WQ):Obj:=Fn (aF (aq 3 10) jF uR 0 [] .none .none .none .none none .none .none 0)
 def nZ(P:WQ):Obj:=cd jF 334 uR 335 ap 336 59 1 0 0 3 115 true 181 116 (.ref 117) (.ref 118) (.ref 119) 338 59 ap 339
 def nY(P:WQ):Obj:=Fu (aF (aq 3 10) jF uR 3 [] .none .none (.str (bI (aq 3 10)) 340) (.str q3 194) none (.ref 120) .none 0)
 def nX(P:WQ):Obj:=Tu [(.str di 342),(.str cZ 343),(.str ib 344)]
 def nW(P:WQ):Obj:=⟨(.type "dict"),none,.dict ⟨[kv P q7 352 (.int 0 346),kv P q9 354 (.str zH 347)]⟩ 2,⟨[]⟩⟩
noncomputable def nV(P:WQ):Obj:=⟨(.ref 60),some 123,.plain,⟨[]⟩⟩
 def nU(P:WQ):Obj:=⟨(.type "frame"),none,.dict ⟨[kv P q6 348 (.ref 124),kv P q7 349 (.int 0 346),kv P q8 350 (.str zH 347)]⟩ 3,⟨[]⟩⟩
 def nT(P:WQ):Obj:=⟨(.type "dict"),none,.dict ⟨[kv P q7 362 (.int 1 356),kv P q9 364 (.str zG 357)]⟩ 2,⟨[]⟩⟩
noncomputable def nS(P:WQ):Obj:=⟨(.ref 60),some 126,.plain,⟨[]⟩⟩
 def nR(P:WQ):Obj:=⟨(.type "frame"),none,.dict ⟨[kv P q6 358 (.ref 127),kv P q7 359 (.int 1 356),kv P q8 360 (.str zG 357)]⟩ 3,⟨[]⟩⟩
 def nQ(P:WQ):Obj:=⟨(.type "dict"),none,.dict ⟨[kv P q7 372 (.int 2 366),kv P q9 374 (.str zF 367)]⟩ 2,⟨[]⟩⟩
noncomputable def nP(P:WQ):Obj:=⟨(.ref 60),some 129,.plain,⟨[]⟩⟩
 def nO(P:WQ):Obj:=⟨(.type "frame"),none,.dict ⟨[kv P q6 368 (.ref 130),kv P q7 369 (.int 2 366),kv P q8 370 (.str zF 367)]⟩ 3,⟨[]⟩⟩
 def nN(P:WQ):Obj:=Tu []
noncomputable def nM(P:WQ):Obj:=⟨(.type "list"),none,.seq ⟨[]⟩ 0,⟨[]⟩⟩
 def nK(P:WQ):Obj:=⟨(.type "dict"),none,.dict ⟨[kv P gS 260 (.str q3 194),kv P jt 264 (.int 23 263),kv P q9 266 (.str (bI (aE 3)) 265),kv P we 268 (.ref 73),kv P wd 272 (.ref 74),kv P wc 273 (.ref 75),kv P jJ 284 (.ref 136),kv P hU 306 (.ref 91),kv P jI 317 (.ref 100),kv P vZ 318 (.ref 100),kv P jH 326 (.ref 107),kv P jG 333 (.ref 114),kv P jF 341 (.ref 121),kv P vY 345 (.ref 122),kv P di 355 (.ref 124),kv P cZ 365 (.ref 127),kv P ib 375 (.ref 130),kv P jr 376 (.ref 132)]⟩ 2,⟨[]⟩⟩
 def iS(P:WQ):Obj:=⟨(.type "type"),none,.cls ⟨eF,[(.type "tuple")],[(.ref 135),(.type "tuple"),(.type "object")],134,eF,false,[],[],false,none,false⟩,⟨[some (.ref 65),none,some (.str eF 253),some (.str eF 261),some .none,some (.bool false)]⟩⟩
noncomputable def nJ(P:WQ):Obj:=⟨(.type "staticmethod"),none,.fields ⟨[(.ref 82)]⟩,⟨[]⟩⟩
noncomputable def nI(P:WQ):Obj:=⟨(.type "super"),none,.fields ⟨[(.ref 135),(.ref 135),(.ref 135)]⟩,⟨[]⟩⟩
noncomputable def nH(P:WQ):Obj:=⟨(.type "builtin_function_or_method"),none,.fields ⟨[(.builtin "object.__init_subclass__"),(.ref 135)]⟩,⟨[]⟩⟩
 def MN(P:WQ):Obj:=⟨(.type "dict"),none,.dict ⟨[kv P q2 165 (.str q3 194),kv P q9 166 .none,kv P z6 167 .none,kv P z7 168 (.builtin "__main__.__loader__#opaque"),kv P z8 169 .none,kv P z9 170 (.ref 6),kv P pY 171 (.ref 4),kv P pX 173 (.str ap 172),kv P pW 174 .none,kv P q0 193 (.ref 21),kv P q4 252 (.ref 60),kv P eF 380 (.ref 135),kv P gu 388 (.ref 145),kv P fc 591 (.ref 242)]⟩ 14,⟨[]⟩⟩
 def MP(P:WQ):Obj:=Fi [(I 1),(I 0),(.ref 20),(I 5),(I 0),(.ref 27),(I 23),(I 0),(.ref 71),(I 66),(I 0),(.ref 144),(I 70),(I 0),(.ref 151)]
 def sQ(P:WQ):Obj:=Tu []
 def sP(P:WQ):Obj:=Fi []
 def sO(P:WQ):Obj:=Tu [(.str vX 384),(.str qB 385)]
 def sN(P:WQ):Obj:=Tu []
 def sM(P:WQ):Obj:=Fn (ew (aE 4) gu)
 def sL(P:WQ):Obj:=cd gu 381 gu 382 ap 383 66 2 0 0 3 139 true 181 140 (.ref 141) (.ref 142) (.ref 143) 386 66 ap 387
 def sK(P:WQ):Obj:=Fu (aF (aE 4) gu gu 3 [] .none .none .none (.str q3 194) none (.ref 144) .none 0)
 def sJ(P:WQ):Obj:=Tu []
noncomputable def sI(P:WQ):Obj:=⟨(.type "builtin_function_or_method"),none,.fields ⟨[(.builtin "type.__prepare__"),(.type "type")]⟩,⟨[]⟩⟩
 def sH(P:WQ):Obj:=⟨(.type "dict"),none,.dict ⟨[kv P gS 396 (.str q3 194),kv P pV 398 (.str fc 397),kv P jt 400 (.int 70 399),kv P q9 402 (.str (bI (aE 5)) 401),kv P q5 417 (.ref 160),kv P jE 427 (.ref 167),kv P jD 436 (.ref 174),kv P jC 445 (.ref 181),kv P vU 463 (.ref 188),kv P jA 491 (.ref 196),kv P jS 518 (.ref 203),kv P jR 533 (.ref 210),kv P jQ 551 (.ref 218),kv P jP 560 (.ref 225),kv P jO 567 (.ref 232),kv P jN 574 (.ref 239),kv P jr 585 (.ref 240)]⟩ 17,⟨[]⟩⟩
 def sG(P:WQ):Obj:=Tu []
 def sF(P:WQ):Obj:=Fi [(I 145),(I 4),(.ref 159),(I 173),(I 4),(.ref 166),(I 184),(I 4),(.ref 173),(I 209),(I 4),(.ref 180),(I 236),(I 4),(.ref 187),(I 260),(I 4),(.ref 195),(I 335),(I 4),(.ref 202),(I 383),(I 4),(.ref 209),(I 430),(I 4),(.ref 217),(I 475),(I 4),(.ref 224),(I 499),(I 4),(.ref 231),(I 502),(I 4),(.ref 238)]
 def sD(P:WQ):Obj:=cd fc 391 fc 392 ap 393 70 0 0 0 0 149 false 181 150 .none .none .none 394 70 ap 395
 def sC(P:WQ):Obj:=⟨(.type "frame"),none,.plain,⟨[some (.ref 151),some (.ref 3),some (.ref 148),none,some (.str q3 194),none,some (.ref 0)]⟩⟩
 def sB(P:WQ):Obj:=Tu [.none,(.str eE 404),(.str eE 405),(.bool true)]
 def sy(P:WQ):Obj:=Tu []
 def sx(P:WQ):Obj:=Fi []
 def sw(P:WQ):Obj:=Tu [(.str q6 409),(.str qA 410),(.str di 411),(.str cZ 412),(.str vW 413)]
 def sv(P:WQ):Obj:=Tu []
 def su(P:WQ):Obj:=Fn (aF (aq 5 1) q5 uQ 0 [] .none .none .none .none none .none .none 0)
 def iQ(P:WQ):Obj:=cd q5 406 uQ 407 ap 408 145 5 0 0 3 154 true 181 155 (.ref 156) (.ref 157) (.ref 158) 414 145 ap 415
 def gD(P:WQ):Obj:=Fu (aF (aq 5 1) q5 uQ 3 [] (.ref 153) .none (.str (bI (aq 5 1)) 416) (.str q3 194) none (.ref 159) .none 0)
 def sr(P:WQ):Obj:=Tu []
 def sq(P:WQ):Obj:=Fi []
 def sp(P:WQ):Obj:=Tu [(.str q6 421),(.str di 422),(.str cZ 423)]
 def so(P:WQ):Obj:=Tu []
 def sn(P:WQ):Obj:=Fn (aF (aq 5 2) jE uP 0 [] .none .none .none .none none .none .none 0)
 def iP(P:WQ):Obj:=cd jE 418 uP 419 ap 420 173 3 0 0 3 161 true 181 162 (.ref 163) (.ref 164) (.ref 165) 424 173 ap 425
 def gC(P:WQ):Obj:=Fu (aF (aq 5 2) jE uP 3 [] .none .none (.str (bI (aq 5 2)) 426) (.str q3 194) none (.ref 166) .none 0)
 def sm(P:WQ):Obj:=Tu []
 def sh(P:WQ):Obj:=Fi []
 def sg(P:WQ):Obj:=Tu [(.str q6 431),(.str di 432)]
 def sf(P:WQ):Obj:=Tu []
 def se(P:WQ):Obj:=Fn (aF (aq 5 3) jD uO 0 [] .none .none .none .none none .none .none 0)
 def iO(P:WQ):Obj:=cd jD 428 uO 429 ap 430 184 2 0 0 3 168 true 181 169 (.ref 170) (.ref 171) (.ref 172) 433 184 ap 434
 def gB(P:WQ):Obj:=Fu (aF (aq 5 3) jD uO 3 [] .none .none (.str (bI (aq 5 3)) 435) (.str q3 194) none (.ref 173) .none 0)
 def sd(P:WQ):Obj:=Tu []
 def sc(P:WQ):Obj:=Fi []
 def sb(P:WQ):Obj:=Tu [(.str q6 440),(.str cZ 441)]
 def rZ(P:WQ):Obj:=Tu []
 def rY(P:WQ):Obj:=Fn (aF (aq 5 4) jC uN 0 [] .none .none .none .none none .none .none 0)
 def iN(P:WQ):Obj:=cd jC 437 uN 438 ap 439 209 2 0 0 3 175 true 181 176 (.ref 177) (.ref 178) (.ref 179) 442 209 ap 443
 def gA(P:WQ):Obj:=Fu (aF (aq 5 4) jC uN 3 [] .none .none (.str (bI (aq 5 4)) 444) (.str q3 194) none (.ref 180) .none 0)
 def rX(P:WQ):Obj:=Tu []
 def rW(P:WQ):Obj:=Fi []
 def rV(P:WQ):Obj:=Tu [(.str q6 449),(.str cZ 450),(.str qy 451),(.str mJ 452),(.str Br 453),(.str Bq 454),(.str Bo 455),(.str qA 456),(.str Bm 457),(.str jB 458),(.str Bl 459),(.str Bk 460)]
 def rU(P:WQ):Obj:=Tu []
 def rT(P:WQ):Obj:=Fn (aF (aq 5 5) qz uM 0 [] .none .none .none .none none .none .none 0)
 def iM(P:WQ):Obj:=cd qz 446 uM 447 ap 448 236 1 0 0 3 182 true 181 183 (.ref 184) (.ref 185) (.ref 186) 461 236 ap 462
 def gz(P:WQ):Obj:=Fu (aF (aq 5 5) qz uM 3 [] .none .none .none (.str q3 194) none (.ref 187) .none 0)
 def rS(P:WQ):Obj:=Tu [(.int 0 464),.none,(.int 0 465),.none]
 def rR(P:WQ):Obj:=Tu []
 def rQ(P:WQ):Obj:=Fi []
 def rP(P:WQ):Obj:=Tu [(.str q6 469),(.str vT 470),(.str vS 471),(.str vR 472),(.str vQ 473),(.str di 474),(.str cZ 475),(.str qy 476),(.str Bj 477),(.str Bh 478),(.str Bg 479),(.str Bf 480),(.str Be 481),(.str Bd 482),(.str mJ 483),(.str Bc 484),(.str Bb 485),(.str qx 486),(.str q1 487)]
 def rO(P:WQ):Obj:=Tu []
 def rN(P:WQ):Obj:=Fn (aF (aq 5 6) jA vp 0 [] .none .none .none .none none .none .none 0)
 def iL(P:WQ):Obj:=cd jA 466 vp 467 ap 468 260 5 0 0 3 190 true 181 191 (.ref 192) (.ref 193) (.ref 194) 488 260 ap 489
 def fK(P:WQ):Obj:=Fu (aF (aq 5 6) jA vp 3 [] (.ref 189) .none (.str (bI (aq 5 6)) 490) (.str q3 194) none (.ref 195) .none 0)
 def rM(P:WQ):Obj:=Tu []
 def rL(P:WQ):Obj:=Fi []
 def rK(P:WQ):Obj:=Tu [(.str q6 495),(.str BS 496),(.str BR 497),(.str BQ 498),(.str vV 499),(.str vT 500),(.str vS 501),(.str vR 502),(.str vQ 503),(.str mJ 504),(.str qx 505),(.str q1 506),(.str wt 507),(.str mO 508),(.str mN 509),(.str BP 510),(.str BO 511),(.str mM 512),(.str mL 513),(.str BN 514)]
 def rJ(P:WQ):Obj:=Tu []
 def rI(P:WQ):Obj:=Fn (aF (aq 5 7) jS vk 0 [] .none .none .none .none none .none .none 0)
 def iK(P:WQ):Obj:=cd jS 492 vk 493 ap 494 335 1 0 0 3 197 true 181 198 (.ref 199) (.ref 200) (.ref 201) 515 335 ap 516
 def gy(P:WQ):Obj:=Fu (aF (aq 5 7) jS vk 3 [] .none .none (.str (bI (aq 5 7)) 517) (.str q3 194) none (.ref 202) .none 0)
 def rH(P:WQ):Obj:=Tu []
 def rG(P:WQ):Obj:=Fi []
 def rF(P:WQ):Obj:=Tu [(.str q6 522),(.str mJ 523),(.str qx 524),(.str BM 525),(.str BL 526),(.str BK 527),(.str ib 528),(.str mK 529)]
 def rE(P:WQ):Obj:=Tu []
 def rD(P:WQ):Obj:=Fn (aF (aq 5 8) jR vj 0 [] .none .none .none .none none .none .none 0)
 def iJ(P:WQ):Obj:=cd jR 519 vj 520 ap 521 383 1 0 0 3 204 true 181 205 (.ref 206) (.ref 207) (.ref 208) 530 383 ap 531
 def gx(P:WQ):Obj:=Fu (aF (aq 5 8) jR vj 3 [] .none .none (.str (bI (aq 5 8)) 532) (.str q3 194) none (.ref 209) .none 0)
 def rC(P:WQ):Obj:=Tu [(.int 3 534)]
 def rB(P:WQ):Obj:=Tu []
 def rA(P:WQ):Obj:=Fi []
 def rz(P:WQ):Obj:=Tu [(.str q6 538),(.str jB 539),(.str BI 540),(.str mK 541),(.str mO 542),(.str mM 543),(.str mN 544),(.str mL 545),(.str BH 546),(.str qI 547)]
 def ry(P:WQ):Obj:=Tu []
 def rx(P:WQ):Obj:=Fn (aF (aq 5 9) jQ vh 0 [] .none .none .none .none none .none .none 0)
 def iI(P:WQ):Obj:=cd jQ 535 vh 536 ap 537 430 2 0 0 35 212 true 181 213 (.ref 214) (.ref 215) (.ref 216) 548 430 ap 549
 def iH(P:WQ):Obj:=Fu (aF (aq 5 9) jQ vh 3 [] (.ref 211) .none (.str (bI (aq 5 9)) 550) (.str q3 194) none (.ref 217) .none 0)
 def rv(P:WQ):Obj:=Tu []
 def ru(P:WQ):Obj:=Fi []
 def rr(P:WQ):Obj:=Tu [(.str q6 555),(.str vX 556)]
 def rq(P:WQ):Obj:=Tu []
 def rp(P:WQ):Obj:=Fn (aF (aq 5 10) jP vf 0 [] .none .none .none .none none .none .none 0)
 def ro(P:WQ):Obj:=cd jP 552 vf 553 ap 554 475 1 0 0 3 219 true 181 220 (.ref 221) (.ref 222) (.ref 223) 557 475 ap 558
 def rn(P:WQ):Obj:=Fu (aF (aq 5 10) jP vf 3 [] .none .none (.str (bI (aq 5 10)) 559) (.str q3 194) none (.ref 224) .none 0)
 def rl(P:WQ):Obj:=Tu []
 def rj(P:WQ):Obj:=Fi []
 def ri(P:WQ):Obj:=Tu [(.str q6 564)]
 def rh(P:WQ):Obj:=Tu []
 def rg(P:WQ):Obj:=Fn (aF (aq 5 11) jO vd 0 [] .none .none .none .none none .none .none 0)
 def rf(P:WQ):Obj:=cd jO 561 vd 562 ap 563 499 1 0 0 3 226 true 181 227 (.ref 228) (.ref 229) (.ref 230) 565 499 ap 566
 def re(P:WQ):Obj:=Fu (aF (aq 5 11) jO vd 3 [] .none .none .none (.str q3 194) none (.ref 231) .none 0)
 def rd(P:WQ):Obj:=Tu []
 def rc(P:WQ):Obj:=Fi []
 def rb(P:WQ):Obj:=Tu [(.str q6 571)]
 def ra(P:WQ):Obj:=Tu []
 def qZ(P:WQ):Obj:=Fn (aF (aq 5 12) jN vc 0 [] .none .none .none .none none .none .none 0)
 def qY(P:WQ):Obj:=cd jN 568 vc 569 ap 570 502 1 0 0 3 233 true 181 234 (.ref 235) (.ref 236) (.ref 237) 572 502 ap 573
 def qX(P:WQ):Obj:=Fu (aF (aq 5 12) jN vc 3 [] .none .none .none (.str q3 194) none (.ref 238) .none 0)
 def qW(P:WQ):Obj:=Tu [(.str di 575),(.str vW 576),(.str cZ 577),(.str qy 578),(.str Bp 579),(.str Bn 580),(.str Bs 581),(.str qA 582),(.str vV 583),(.str Bt 584)]
 def qU(P:WQ):Obj:=⟨(.type "dict"),none,.dict ⟨[kv P gS 396 (.str q3 194),kv P jt 400 (.int 70 399),kv P q9 402 (.str (bI (aE 5)) 401),kv P q5 417 (.ref 160),kv P jE 427 (.ref 167),kv P jD 436 (.ref 174),kv P jC 445 (.ref 181),kv P vU 463 (.ref 188),kv P jA 491 (.ref 196),kv P jS 518 (.ref 203),kv P jR 533 (.ref 210),kv P jQ 551 (.ref 218),kv P jP 560 (.ref 225),kv P jO 567 (.ref 232),kv P jN 574 (.ref 239),kv P jr 585 (.ref 240),kv P pU 587 (.ref 243),kv P pT 589 (.ref 244)]⟩ 3,⟨[]⟩⟩
 def nG(P:WQ):Obj:=⟨(.type "type"),none,.cls ⟨fc,[(.type "object")],[(.ref 242),(.type "object")],241,fc,true,[],[],false,none,false⟩,⟨[none,none,some (.str fc 389),some (.str fc 397),some (.builtin "object.__new__"),some (.bool true)]⟩⟩
 def qS(P:WQ):Obj:=⟨(.type "getset_descriptor"),none,.fields ⟨[(.str pU 586),(.ref 242),(.builtin "function.__dict__"),(.builtin "function.__dict__#set")]⟩,⟨[]⟩⟩
 def qR(P:WQ):Obj:=⟨(.type "getset_descriptor"),none,.fields ⟨[(.str pT 588),(.ref 242),(.builtin "ExceptionGroup.__weakref__"),.none]⟩,⟨[]⟩⟩
noncomputable def qQ(P:WQ):Obj:=⟨(.type "super"),none,.fields ⟨[(.ref 242),(.ref 242),(.ref 242)]⟩,⟨[]⟩⟩
noncomputable def qP(P:WQ):Obj:=⟨(.type "builtin_function_or_method"),none,.fields ⟨[(.builtin "object.__init_subclass__"),(.ref 242)]⟩,⟨[]⟩⟩
 def dS(P:WQ):Obj:=⟨(.type "dict"),none,.dict ⟨[kv P q2 165 (.str jL 721),kv P q9 166 .none,kv P z6 167 .none,kv P z7 168 (.builtin "__main__.__loader__#opaque"),kv P z8 169 .none,kv P z9 170 (.ref 6),kv P pY 171 (.ref 4),kv P pX 173 (.str ap 172),kv P pW 174 .none,kv P q0 193 (.ref 21),kv P q4 252 (.ref 60),kv P eF 380 (.ref 135),kv P gu 388 (.ref 145),kv P fc 591 (.ref 242),kv P ir 602 (.ref 253),kv P iq 637 (.ref 261),kv P io 648 (.ref 268),kv P im 685 (.ref 276),kv P ip 695 (.ref 283),kv P il 720 (.ref 291),kv P ik 730 (.ref 298),kv P ig 736 (.ref 303),kv P ie 742 (.ref 308),kv P ic 748 (.ref 313)]⟩ 24,⟨[]⟩⟩
 def xz(P:WQ):Obj:=Fi [(I 1),(I 0),(.ref 20),(I 5),(I 0),(.ref 27),(I 23),(I 0),(.ref 71),(I 66),(I 0),(.ref 144),(I 70),(I 0),(.ref 151),(I 504),(I 0),(.ref 252),(I 513),(I 0),(.ref 260),(I 576),(I 0),(.ref 267),(I 585),(I 0),(.ref 275),(I 653),(I 0),(.ref 282),(I 661),(I 0),(.ref 290),(I 689),(I 0),(.ref 297),(I 695),(I 0),(.ref 302),(I 697),(I 0),(.ref 307),(I 699),(I 0),(.ref 312)]
 def xy(P:WQ):Obj:=Tu []
 def xx(P:WQ):Obj:=Fi []
 def xw(P:WQ):Obj:=Tu [(.str wq 595),(.str wo 596),(.str wn 597),(.str qB 598)]
 def xv(P:WQ):Obj:=Tu []
 def xu(P:WQ):Obj:=Fn (ew (aE 6) ir)
 def ly(P:WQ):Obj:=cd ir 592 ir 593 ap 594 504 2 0 0 3 247 true 181 248 (.ref 249) (.ref 250) (.ref 251) 599 504 ap 600
 def iG(P:WQ):Obj:=Fu (aF (aE 6) ir ir 3 [] .none .none (.str (bI (aE 6)) 601) (.str q3 194) none (.ref 252) .none 0)
 def xt(P:WQ):Obj:=Tu [(.str eE 603),(.str eE 604),(.str eE 605),(.str eE 606),(.int 3 607),(.str wm 608)]
 def xq(P:WQ):Obj:=Tu []
 def xp(P:WQ):Obj:=Fi []
 def xo(P:WQ):Obj:=Tu [(.str di 612),(.str cZ 613),(.str qH 614),(.str qG 615),(.str qF 616),(.str qE 617),(.str jB 618),(.str qD 619),(.str wl 620),(.str qI 621),(.str wk 622),(.str wj 623),(.str wi 624),(.str wh 625),(.str wg 626),(.str wf 627),(.str mK 628),(.str mO 629),(.str mM 630),(.str mN 631),(.str mL 632),(.str qC 633)]
 def xn(P:WQ):Obj:=Tu []
 def xm(P:WQ):Obj:=Fn (ew (aE 7) iq)
 def lu(P:WQ):Obj:=cd iq 609 iq 610 ap 611 513 8 0 0 35 255 true 181 256 (.ref 257) (.ref 258) (.ref 259) 634 513 ap 635
 def ls(P:WQ):Obj:=Fu (aF (aE 7) iq iq 3 [] (.ref 254) .none (.str (bI (aE 7)) 636) (.str q3 194) none (.ref 260) .none 0)
 def xl(P:WQ):Obj:=Tu []
 def xj(P:WQ):Obj:=Fi []
 def xi(P:WQ):Obj:=Tu [(.str wq 641),(.str wo 642),(.str wn 643),(.str qB 644)]
 def xh(P:WQ):Obj:=Tu []
 def xg(P:WQ):Obj:=Fn (ew (aE 8) io)
 def lr(P:WQ):Obj:=cd io 638 io 639 ap 640 576 2 0 0 3 262 true 181 263 (.ref 264) (.ref 265) (.ref 266) 645 576 ap 646
 def iF(P:WQ):Obj:=Fu (aF (aE 8) io io 3 [] .none .none (.str (bI (aE 6)) 647) (.str q3 194) none (.ref 267) .none 0)
 def xf(P:WQ):Obj:=Tu [(.str eE 649),(.str eE 650),(.str eE 651),(.str eE 652),(.int 3 653),(.str wm 654)]
 def xe(P:WQ):Obj:=Tu []
 def lp(P:WQ):Obj:=Fi []
 def xc(P:WQ):Obj:=Tu [(.str di 658),(.str cZ 659),(.str qH 660),(.str qG 661),(.str qF 662),(.str qE 663),(.str jB 664),(.str qD 665),(.str BG 666),(.str wl 667),(.str qI 668),(.str wk 669),(.str wj 670),(.str wi 671),(.str wh 672),(.str wg 673),(.str mK 674),(.str mO 675),(.str mM 676),(.str BF 677),(.str qC 678),(.str wf 679),(.str mN 680),(.str mL 681)]
 def xb(P:WQ):Obj:=Tu []
 def xa(P:WQ):Obj:=Fn (ew (aE 9) im)
 def iE(P:WQ):Obj:=cd im 655 im 656 ap 657 585 8 0 0 35 270 true 181 271 (.ref 272) (.ref 273) (.ref 274) 682 585 ap 683
 def ln(P:WQ):Obj:=Fu (aF (aE 9) im im 3 [] (.ref 269) .none (.str (bI (aE 9)) 684) (.str q3 194) none (.ref 275) .none 0)
 def wZ(P:WQ):Obj:=Tu []
 def wY(P:WQ):Obj:=Fi []
 def wX(P:WQ):Obj:=Tu [(.str di 689),(.str cZ 690),(.str BE 691),(.str BC 692)]
 def wW(P:WQ):Obj:=Tu []
 def wV(P:WQ):Obj:=Fn (ew (aE 10) ip)
 def lj(P:WQ):Obj:=cd ip 686 ip 687 ap 688 653 2 0 0 7 277 true 181 278 (.ref 279) (.ref 280) (.ref 281) 693 653 ap 694
 def eJ(P:WQ):Obj:=Fu (aF (aE 10) ip ip 3 [] .none .none .none (.str q3 194) none (.ref 282) .none 0)
 def wU(P:WQ):Obj:=Tu [(.bytes ⟨[]⟩ 696),(.bytes ⟨[]⟩ 697),(.bytes ⟨[]⟩ 698),(.bytes ⟨[]⟩ 699),(.int 3 700),(.bytes ⟨[10]⟩ 701)]
 def wT(P:WQ):Obj:=Tu []
 def li(P:WQ):Obj:=Fi []
 def wS(P:WQ):Obj:=Tu [(.str BB 705),(.str di 706),(.str cZ 707),(.str qH 708),(.str qG 709),(.str qF 710),(.str qE 711),(.str jB 712),(.str qD 713),(.str BA 714),(.str Bz 715),(.str qC 716)]
 def wR(P:WQ):Obj:=Tu []
 def wQ(P:WQ):Obj:=Fn (ew (aE 11) il)
 def iD(P:WQ):Obj:=cd il 702 il 703 ap 704 661 9 0 0 35 285 true 181 286 (.ref 287) (.ref 288) (.ref 289) 717 661 ap 718
 def lg(P:WQ):Obj:=Fu (aF (aE 11) il il 3 [] (.ref 284) .none (.str (bI (aE 11)) 719) (.str q3 194) none (.ref 290) .none 0)
 def wP(P:WQ):Obj:=Tu []
 def wO(P:WQ):Obj:=Fi []
 def wN(P:WQ):Obj:=Tu [(.str wt 726),(.str By 727)]
 def wM(P:WQ):Obj:=Tu []
 def wL(P:WQ):Obj:=Fn (ew (aE 13) ik)
 def kZ(P:WQ):Obj:=cd ik 723 ik 724 ap 725 689 1 0 0 3 292 true 181 293 (.ref 294) (.ref 295) (.ref 296) 728 689 ap 729
 def iC(P:WQ):Obj:=Fu (aF (aE 13) ik ik 3 [] .none .none .none (.str jL 721) none (.ref 297) .none 0)
 def wK(P:WQ):Obj:=Tu []
 def wJ(P:WQ):Obj:=Fi []
 def wI(P:WQ):Obj:=Fn (ew (aE 14) ig)
 def kX(P:WQ):Obj:=cd ig 731 ig 732 ap 733 695 1 0 0 3 299 true 181 300 .none .none (.ref 301) 734 695 ap 735
 def iB(P:WQ):Obj:=Fu (aF (aE 14) ig ig 3 [] .none .none .none (.str jL 721) none (.ref 302) .none 0)
 def wH(P:WQ):Obj:=Tu []
 def wG(P:WQ):Obj:=Fi []
 def wF(P:WQ):Obj:=Fn (ew (aE 15) ie)
 def kW(P:WQ):Obj:=cd ie 737 ie 738 ap 739 697 1 0 0 3 304 true 181 305 .none .none (.ref 306) 740 697 ap 741
 def iA(P:WQ):Obj:=Fu (aF (aE 15) ie ie 3 [] .none .none .none (.str jL 721) none (.ref 307) .none 0)
 def wE(P:WQ):Obj:=Tu []
 def wD(P:WQ):Obj:=Fi []
 def wC(P:WQ):Obj:=Fn (ew (aE 16) ic)
 def kT(P:WQ):Obj:=cd ic 743 ic 744 ap 745 699 1 0 0 3 309 true 181 310 .none .none (.ref 311) 746 699 ap 747
 def iz(P:WQ):Obj:=Fu (aF (aE 16) ic ic 3 [] .none .none .none (.str jL 721) none (.ref 312) .none 0)
 def qg(P:WQ):BT:=(nd (boot_o_0 P) (nd (boot_o_1 P) (nd (boot_o_3 P) (nd (boot_o_7 P) nl nl) (nd (iU P) nl nl)) (nd (boot_o_5 P) (nd (boot_o_9 P) nl nl) (nd (iT P) nl nl))) (nd (boot_o_2 P) (nd (boot_o_4 P) (nd (boot_o_8 P) nl nl) (nd (MS P) nl nl)) (nd (boot_o_6 P) (nd (boot_o_10 P) nl nl) (nd (iR P) nl nl))))
noncomputable def sX:Nat:=15
noncomputable def qk:Nat:=187
 def Af(P:WQ):BT:=(nd (boot_o_0 P) (nd (boot_o_1 P) (nd (o3 P) (nd (boot_o_7 P) (nd (lJ P) (nd (kU P) (nd (kd P) nl nl) nl) (nd (kz P) nl nl)) (nd (lB P) (nd (kK P) nl nl) (nd (km P) nl nl))) (nd (iU P) (nd (lF P) (nd (kO P) nl nl) (nd (kt P) nl nl)) (nd (lq P) (nd (kF P) nl nl) (nd (kh P) nl nl)))) (nd (boot_o_5 P) (nd (boot_o_9 P) (nd (lH P) (nd (kQ P) nl nl) (nd (kx P) nl nl)) (nd (lz P) (nd (kH P) nl nl) (nd (kj P) nl nl))) (nd (iT P) (nd (lD P) (nd (kM P) nl nl) (nd (kq P) nl nl)) (nd (lh P) (nd (kB P) nl nl) (nd (kf P) nl nl))))) (nd (boot_o_2 P) (nd (boot_o_4 P) (nd (boot_o_8 P) (nd (lI P) (nd (kS P) (nd (kc P) nl nl) nl) (nd (ky P) nl nl)) (nd (lA P) (nd (kJ P) nl nl) (nd (kl P) nl nl))) (nd (MR P) (nd (lE P) (nd (kN P) nl nl) (nd (kr P) nl nl)) (nd (ll P) (nd (kC P) nl nl) (nd (kg P) nl nl)))) (nd (boot_o_6 P) (nd (boot_o_10 P) (nd (lG P) (nd (kP P) nl nl) (nd (ku P) nl nl)) (nd (lx P) (nd (kG P) nl nl) (nd (ki P) nl nl))) (nd (iR P) (nd (lC P) (nd (kL P) nl nl) (nd (ko P) nl nl)) (nd (kY P) (nd (kA P) nl nl) (nd (ke P) nl nl))))))
noncomputable def Cr:Nat:=65
noncomputable def Ai:Nat:=253
 def Ae(P:WQ):BT:=(nd (boot_o_0 P) (nd (boot_o_1 P) (nd (MO P) (nd (boot_o_7 P) (nd (lJ P) (nd (kU P) (nd (kd P) (nd (nS P) nl nl) nl) (nd (mU P) nl nl)) (nd (kz P) (nd (nj P) nl nl) (nd (oC P) nl nl))) (nd (lB P) (nd (kK P) (nd (ny P) (nd (iS P) nl nl) nl) (nd (oK P) nl nl)) (nd (km P) (nd (nb P) nl nl) (nd (oh P) nl nl)))) (nd (iU P) (nd (lF P) (nd (kO P) (nd (nD P) (nd (nO P) nl nl) nl) (nd (mP P) nl nl)) (nd (kt P) (nd (nh P) nl nl) (nd (ou P) nl nl))) (nd (lq P) (nd (kF P) (nd (nu P) nl nl) (nd (oG P) nl nl)) (nd (kh P) (nd (mY P) nl nl) (nd (nW P) nl nl))))) (nd (boot_o_5 P) (nd (boot_o_9 P) (nd (lH P) (nd (kQ P) (nd (nF P) (nd (nQ P) nl nl) nl) (nd (mR P) nl nl)) (nd (kx P) (nd (gw P) nl nl) (nd (oA P) nl nl))) (nd (lz P) (nd (kH P) (nd (nw P) (nd (nI P) nl nl) nl) (nd (oI P) nl nl)) (nd (kj P) (nd (fH P) nl nl) (nd (nY P) nl nl)))) (nd (iT P) (nd (lD P) (nd (kM P) (nd (nB P) (nd (nM P) nl nl) nl) (nd (oM P) nl nl)) (nd (kq P) (nd (nf P) nl nl) (nd (oo P) nl nl))) (nd (lh P) (nd (kB P) (nd (nq P) nl nl) (nd (oE P) nl nl)) (nd (kf P) (nd (mW P) nl nl) (nd (nU P) nl nl)))))) (nd (boot_o_2 P) (nd (boot_o_4 P) (nd (boot_o_8 P) (nd (lI P) (nd (kS P) (nd (kc P) (nd (nR P) nl nl) nl) (nd (mS P) nl nl)) (nd (ky P) (nd (ni P) nl nl) (nd (oB P) nl nl))) (nd (lA P) (nd (kJ P) (nd (nx P) (nd (nJ P) nl nl) nl) (nd (oJ P) nl nl)) (nd (kl P) (nd (gv P) nl nl) (nd (nZ P) nl nl)))) (nd (MQ P) (nd (lE P) (nd (kN P) (nd (nC P) (nd (nN P) nl nl) nl) (nd (oO P) nl nl)) (nd (kr P) (nd (ng P) nl nl) (nd (oq P) nl nl))) (nd (ll P) (nd (kC P) (nd (nr P) nl nl) (nd (oF P) nl nl)) (nd (kg P) (nd (mX P) nl nl) (nd (nV P) nl nl))))) (nd (boot_o_6 P) (nd (boot_o_10 P) (nd (lG P) (nd (kP P) (nd (nE P) (nd (nP P) nl nl) nl) (nd (mQ P) nl nl)) (nd (ku P) (nd (fJ P) nl nl) (nd (oy P) nl nl))) (nd (lx P) (nd (kG P) (nd (nv P) (nd (nH P) nl nl) nl) (nd (oH P) nl nl)) (nd (ki P) (nd (mZ P) nl nl) (nd (nX P) nl nl)))) (nd (iR P) (nd (lC P) (nd (kL P) (nd (nz P) (nd (nK P) nl nl) nl) (nd (oL P) nl nl)) (nd (ko P) (nd (nc P) nl nl) (nd (oj P) nl nl))) (nd (kY P) (nd (kA P) (nd (nk P) nl nl) (nd (oD P) nl nl)) (nd (ke P) (nd (mV P) nl nl) (nd (nT P) nl nl)))))))
noncomputable def Cq:Nat:=139
noncomputable def Ah:Nat:=381
 def Ad(P:WQ):BT:=(nd (boot_o_0 P) (nd (boot_o_1 P) (nd (MN P) (nd (boot_o_7 P) (nd (lJ P) (nd (kU P) (nd (kd P) (nd (nS P) nl nl) (nd (rQ P) nl nl)) (nd (mU P) (nd (iQ P) nl nl) (nd (rp P) nl nl))) (nd (kz P) (nd (nj P) (nd (sM P) nl nl) (nd (rE P) nl nl)) (nd (oC P) (nd (sd P) nl nl) (nd (qX P) nl nl)))) (nd (lB P) (nd (kK P) (nd (ny P) (nd (iS P) nl nl) (nd (rK P) nl nl)) (nd (oK P) (nd (gC P) nl nl) (nd (rf P) nl nl))) (nd (km P) (nd (nb P) (nd (sD P) nl nl) (nd (ry P) nl nl)) (nd (oh P) (nd (rW P) nl nl) nl)))) (nd (iU P) (nd (lF P) (nd (kO P) (nd (nD P) (nd (nO P) nl nl) (nd (iL P) nl nl)) (nd (mP P) (nd (sp P) nl nl) (nd (rj P) nl nl))) (nd (kt P) (nd (nh P) (nd (sI P) nl nl) (nd (rC P) nl nl)) (nd (ou P) (nd (rY P) nl nl) (nd (qS P) nl nl)))) (nd (lq P) (nd (kF P) (nd (nu P) (nd (sQ P) nl nl) (nd (gy P) nl nl)) (nd (oG P) (nd (sf P) nl nl) (nd (rb P) nl nl))) (nd (kh P) (nd (mY P) (nd (sx P) nl nl) (nd (rv P) nl nl)) (nd (nW P) (nd (iM P) nl nl) nl))))) (nd (boot_o_5 P) (nd (boot_o_9 P) (nd (lH P) (nd (kQ P) (nd (nF P) (nd (nQ P) nl nl) (nd (rO P) nl nl)) (nd (mR P) (nd (sr P) nl nl) (nd (rn P) nl nl))) (nd (kx P) (nd (gw P) (nd (sK P) nl nl) (nd (iJ P) nl nl)) (nd (oA P) (nd (sb P) nl nl) (nd (qU P) nl nl)))) (nd (lz P) (nd (kH P) (nd (nw P) (nd (nI P) nl nl) (nd (rI P) nl nl)) (nd (oI P) (nd (sh P) nl nl) (nd (rd P) nl nl))) (nd (kj P) (nd (fH P) (nd (sB P) nl nl) (nd (iI P) nl nl)) (nd (nY P) (nd (rU P) nl nl) nl)))) (nd (iT P) (nd (lD P) (nd (kM P) (nd (nB P) (nd (nM P) nl nl) (nd (rM P) nl nl)) (nd (oM P) (nd (sn P) nl nl) (nd (rh P) nl nl))) (nd (kq P) (nd (nf P) (nd (sG P) nl nl) (nd (rA P) nl nl)) (nd (oo P) (nd (gA P) nl nl) (nd (qQ P) nl nl)))) (nd (lh P) (nd (kB P) (nd (nq P) (nd (sO P) nl nl) (nd (rG P) nl nl)) (nd (oE P) (nd (iO P) nl nl) (nd (qZ P) nl nl))) (nd (kf P) (nd (mW P) (nd (sv P) nl nl) (nd (rr P) nl nl)) (nd (nU P) (nd (rS P) nl nl) nl)))))) (nd (boot_o_2 P) (nd (boot_o_4 P) (nd (boot_o_8 P) (nd (lI P) (nd (kS P) (nd (kc P) (nd (nR P) nl nl) (nd (rP P) nl nl)) (nd (mS P) (nd (gD P) nl nl) (nd (ro P) nl nl))) (nd (ky P) (nd (ni P) (nd (sL P) nl nl) (nd (rD P) nl nl)) (nd (oB P) (nd (sc P) nl nl) (nd (qW P) nl nl)))) (nd (lA P) (nd (kJ P) (nd (nx P) (nd (nJ P) nl nl) (nd (rJ P) nl nl)) (nd (oJ P) (nd (sm P) nl nl) (nd (re P) nl nl))) (nd (kl P) (nd (gv P) (nd (sC P) nl nl) (nd (rx P) nl nl)) (nd (nZ P) (nd (rV P) nl nl) nl)))) (nd (MP P) (nd (lE P) (nd (kN P) (nd (nC P) (nd (nN P) nl nl) (nd (fK P) nl nl)) (nd (oO P) (nd (so P) nl nl) (nd (ri P) nl nl))) (nd (kr P) (nd (ng P) (nd (sH P) nl nl) (nd (rB P) nl nl)) (nd (oq P) (nd (iN P) nl nl) (nd (qR P) nl nl)))) (nd (ll P) (nd (kC P) (nd (nr P) (nd (sP P) nl nl) (nd (rH P) nl nl)) (nd (oF P) (nd (se P) nl nl) (nd (ra P) nl nl))) (nd (kg P) (nd (mX P) (nd (sw P) nl nl) (nd (ru P) nl nl)) (nd (nV P) (nd (gz P) nl nl) nl))))) (nd (boot_o_6 P) (nd (boot_o_10 P) (nd (lG P) (nd (kP P) (nd (nE P) (nd (nP P) nl nl) (nd (rN P) nl nl)) (nd (mQ P) (nd (sq P) nl nl) (nd (rl P) nl nl))) (nd (ku P) (nd (fJ P) (nd (sJ P) nl nl) (nd (gx P) nl nl)) (nd (oy P) (nd (rZ P) nl nl) (nd (nG P) nl nl)))) (nd (lx P) (nd (kG P) (nd (nv P) (nd (nH P) nl nl) (nd (iK P) nl nl)) (nd (oH P) (nd (sg P) nl nl) (nd (rc P) nl nl))) (nd (ki P) (nd (mZ P) (nd (sy P) nl nl) (nd (iH P) nl nl)) (nd (nX P) (nd (rT P) nl nl) nl)))) (nd (iR P) (nd (lC P) (nd (kL P) (nd (nz P) (nd (nK P) nl nl) (nd (rL P) nl nl)) (nd (oL P) (nd (iP P) nl nl) (nd (rg P) nl nl))) (nd (ko P) (nd (nc P) (nd (sF P) nl nl) (nd (rz P) nl nl)) (nd (oj P) (nd (rX P) nl nl) (nd (qP P) nl nl)))) (nd (kY P) (nd (kA P) (nd (nk P) (nd (sN P) nl nl) (nd (rF P) nl nl)) (nd (oD P) (nd (gB P) nl nl) (nd (qY P) nl nl))) (nd (ke P) (nd (mV P) (nd (su P) nl nl) (nd (rq P) nl nl)) (nd (nT P) (nd (rR P) nl nl) nl)))))))
noncomputable def Cp:Nat:=247
noncomputable def Ag:Nat:=592
 def Ac(P:WQ):BT:=(nd (boot_o_0 P) (nd (boot_o_1 P) (nd (dS P) (nd (boot_o_7 P) (nd (lJ P) (nd (kU P) (nd (kd P) (nd (nS P) (nd (xq P) nl nl) nl) (nd (rQ P) nl nl)) (nd (mU P) (nd (iQ P) (nd (wS P) nl nl) nl) (nd (rp P) nl nl))) (nd (kz P) (nd (nj P) (nd (sM P) (nd (lp P) nl nl) nl) (nd (rE P) nl nl)) (nd (oC P) (nd (sd P) (nd (iB P) nl nl) nl) (nd (qX P) nl nl)))) (nd (lB P) (nd (kK P) (nd (ny P) (nd (iS P) (nd (xj P) nl nl) nl) (nd (rK P) nl nl)) (nd (oK P) (nd (gC P) (nd (wM P) nl nl) nl) (nd (rf P) nl nl))) (nd (km P) (nd (nb P) (nd (sD P) (nd (wX P) nl nl) nl) (nd (ry P) nl nl)) (nd (oh P) (nd (rW P) (nd (wC P) nl nl) nl) (nd (xy P) nl nl))))) (nd (iU P) (nd (lF P) (nd (kO P) (nd (nD P) (nd (nO P) (nd (xm P) nl nl) nl) (nd (iL P) nl nl)) (nd (mP P) (nd (sp P) (nd (lg P) nl nl) nl) (nd (rj P) nl nl))) (nd (kt P) (nd (nh P) (nd (sI P) (nd (iE P) nl nl) nl) (nd (rC P) nl nl)) (nd (ou P) (nd (rY P) (nd (kW P) nl nl) nl) (nd (qS P) nl nl)))) (nd (lq P) (nd (kF P) (nd (nu P) (nd (sQ P) (nd (lr P) nl nl) nl) (nd (gy P) nl nl)) (nd (oG P) (nd (sf P) (nd (wK P) nl nl) nl) (nd (rb P) nl nl))) (nd (kh P) (nd (mY P) (nd (sx P) (nd (eJ P) nl nl) nl) (nd (rv P) nl nl)) (nd (nW P) (nd (iM P) nl nl) (nd (xu P) nl nl)))))) (nd (boot_o_5 P) (nd (boot_o_9 P) (nd (lH P) (nd (kQ P) (nd (nF P) (nd (nQ P) (nd (xo P) nl nl) nl) (nd (rO P) nl nl)) (nd (mR P) (nd (sr P) (nd (wQ P) nl nl) nl) (nd (rn P) nl nl))) (nd (kx P) (nd (gw P) (nd (sK P) (nd (xb P) nl nl) nl) (nd (iJ P) nl nl)) (nd (oA P) (nd (sb P) (nd (wG P) nl nl) nl) (nd (qU P) nl nl)))) (nd (lz P) (nd (kH P) (nd (nw P) (nd (nI P) (nd (xh P) nl nl) nl) (nd (rI P) nl nl)) (nd (oI P) (nd (sh P) (nd (kZ P) nl nl) nl) (nd (rd P) nl nl))) (nd (kj P) (nd (fH P) (nd (sB P) (nd (wV P) nl nl) nl) (nd (iI P) nl nl)) (nd (nY P) (nd (rU P) (nd (iz P) nl nl) nl) (nd (xw P) nl nl))))) (nd (iT P) (nd (lD P) (nd (kM P) (nd (nB P) (nd (nM P) (nd (ls P) nl nl) nl) (nd (rM P) nl nl)) (nd (oM P) (nd (sn P) (nd (wO P) nl nl) nl) (nd (rh P) nl nl))) (nd (kq P) (nd (nf P) (nd (sG P) (nd (wZ P) nl nl) nl) (nd (rA P) nl nl)) (nd (oo P) (nd (gA P) (nd (wE P) nl nl) nl) (nd (qQ P) nl nl)))) (nd (lh P) (nd (kB P) (nd (nq P) (nd (sO P) (nd (xf P) nl nl) nl) (nd (rG P) nl nl)) (nd (oE P) (nd (iO P) (nd (wI P) nl nl) nl) (nd (qZ P) nl nl))) (nd (kf P) (nd (mW P) (nd (sv P) (nd (wT P) nl nl) nl) (nd (rr P) nl nl)) (nd (nU P) (nd (rS P) nl nl) (nd (iG P) nl nl))))))) (nd (boot_o_2 P) (nd (boot_o_4 P) (nd (boot_o_8 P) (nd (lI P) (nd (kS P) (nd (kc P) (nd (nR P) (nd (xp P) nl nl) nl) (nd (rP P) nl nl)) (nd (mS P) (nd (gD P) (nd (wR P) nl nl) nl) (nd (ro P) nl nl))) (nd (ky P) (nd (ni P) (nd (sL P) (nd (xc P) nl nl) nl) (nd (rD P) nl nl)) (nd (oB P) (nd (sc P) (nd (wH P) nl nl) nl) (nd (qW P) nl nl)))) (nd (lA P) (nd (kJ P) (nd (nx P) (nd (nJ P) (nd (xi P) nl nl) nl) (nd (rJ P) nl nl)) (nd (oJ P) (nd (sm P) (nd (wL P) nl nl) nl) (nd (re P) nl nl))) (nd (kl P) (nd (gv P) (nd (sC P) (nd (wW P) nl nl) nl) (nd (rx P) nl nl)) (nd (nZ P) (nd (rV P) (nd (kT P) nl nl) nl) (nd (xx P) nl nl))))) (nd (xz P) (nd (lE P) (nd (kN P) (nd (nC P) (nd (nN P) (nd (lu P) nl nl) nl) (nd (fK P) nl nl)) (nd (oO P) (nd (so P) (nd (wP P) nl nl) nl) (nd (ri P) nl nl))) (nd (kr P) (nd (ng P) (nd (sH P) (nd (ln P) nl nl) nl) (nd (rB P) nl nl)) (nd (oq P) (nd (iN P) (nd (iA P) nl nl) nl) (nd (qR P) nl nl)))) (nd (ll P) (nd (kC P) (nd (nr P) (nd (sP P) (nd (iF P) nl nl) nl) (nd (rH P) nl nl)) (nd (oF P) (nd (se P) (nd (wJ P) nl nl) nl) (nd (ra P) nl nl))) (nd (kg P) (nd (mX P) (nd (sw P) (nd (wU P) nl nl) nl) (nd (ru P) nl nl)) (nd (nV P) (nd (gz P) nl nl) (nd (ly P) nl nl)))))) (nd (boot_o_6 P) (nd (boot_o_10 P) (nd (lG P) (nd (kP P) (nd (nE P) (nd (nP P) (nd (xn P) nl nl) nl) (nd (rN P) nl nl)) (nd (mQ P) (nd (sq P) (nd (iD P) nl nl) nl) (nd (rl P) nl nl))) (nd (ku P) (nd (fJ P) (nd (sJ P) (nd (xa P) nl nl) nl) (nd (gx P) nl nl)) (nd (oy P) (nd (rZ P) (nd (wF P) nl nl) nl) (nd (nG P) nl nl)))) (nd (lx P) (nd (kG P) (nd (nv P) (nd (nH P) (nd (xg P) nl nl) nl) (nd (iK P) nl nl)) (nd (oH P) (nd (sg P) (nd (iC P) nl nl) nl) (nd (rc P) nl nl))) (nd (ki P) (nd (mZ P) (nd (sy P) (nd (lj P) nl nl) nl) (nd (iH P) nl nl)) (nd (nX P) (nd (rT P) nl nl) (nd (xv P) nl nl))))) (nd (iR P) (nd (lC P) (nd (kL P) (nd (nz P) (nd (nK P) (nd (xl P) nl nl) nl) (nd (rL P) nl nl)) (nd (oL P) (nd (iP P) (nd (wN P) nl nl) nl) (nd (rg P) nl nl))) (nd (ko P) (nd (nc P) (nd (sF P) (nd (wY P) nl nl) nl) (nd (rz P) nl nl)) (nd (oj P) (nd (rX P) (nd (wD P) nl nl) nl) (nd (qP P) nl nl)))) (nd (kY P) (nd (kA P) (nd (nk P) (nd (sN P) (nd (xe P) nl nl) nl) (nd (rF P) nl nl)) (nd (oD P) (nd (gB P) (nd (kX P) nl nl) nl) (nd (qY P) nl nl))) (nd (ke P) (nd (mV P) (nd (su P) (nd (li P) nl nl) nl) (nd (rq P) nl nl)) (nd (nT P) (nd (rR P) nl nl) (nd (xt P) nl nl))))))))
noncomputable def xH:Nat:=314
noncomputable def gj:Nat:=749
 def fS(P:WQ):Heap:=⟨⟨[boot_o_0 P,boot_o_1 P,boot_o_2 P,dS P,boot_o_4 P,boot_o_5 P,boot_o_6 P,boot_o_7 P,boot_o_8 P,boot_o_9 P,boot_o_10 P,iU P,xz P,iT P,iR P,lJ P,lI P,lH P,lG P,lF P,lE P,lD P,lC P,lB P,lA P,lz P,lx P,lq P,ll P,lh P,kY P,kU P,kS P,kQ P,kP P,kO P,kN P,kM P,kL P,kK P,kJ P,kH P,kG P,kF P,kC P,kB P,kA P,kz P,ky P,kx P,ku P,kt P,kr P,kq P,ko P,km P,kl P,kj P,ki P,kh P,kg P,kf P,ke P,kd P,kc P,nF P,nE P,nD P,nC P,nB P,nz P,ny P,nx P,nw P,nv P,nu P,nr P,nq P,nk P,nj P,ni P,gw P,fJ P,nh P,ng P,nf P,nc P,nb P,gv P,fH P,mZ P,mY P,mX P,mW P,mV P,mU P,mS P,mR P,mQ P,mP P,oO P,oM P,oL P,oK P,oJ P,oI P,oH P,oG P,oF P,oE P,oD P,oC P,oB P,oA P,oy P,ou P,oq P,oo P,oj P,oh P,nZ P,nY P,nX P,nW P,nV P,nU P,nT P,nS P,nR P,nQ P,nP P,nO P,nN P,nM P,nK P,iS P,nJ P,nI P,nH P,sQ P,sP P,sO P,sN P,sM P,sL P,sK P,sJ P,sI P,sH P,sG P,sF P,sD P,sC P,sB P,sy P,sx P,sw P,sv P,su P,iQ P,gD P,sr P,sq P,sp P,so P,sn P,iP P,gC P,sm P,sh P,sg P,sf P,se P,iO P,gB P,sd P,sc P,sb P,rZ P,rY P,iN P,gA P,rX P,rW P,rV P,rU P,rT P,iM P,gz P,rS P,rR P,rQ P,rP P,rO P,rN P,iL P,fK P,rM P,rL P,rK P,rJ P,rI P,iK P,gy P,rH P,rG P,rF P,rE P,rD P,iJ P,gx P,rC P,rB P,rA P,rz P,ry P,rx P,iI P,iH P,rv P,ru P,rr P,rq P,rp P,ro P,rn P,rl P,rj P,ri P,rh P,rg P,rf P,re P,rd P,rc P,rb P,ra P,qZ P,qY P,qX P,qW P,qU P,nG P,qS P,qR P,qQ P,qP P,xy P,xx P,xw P,xv P,xu P,ly P,iG P,xt P,xq P,xp P,xo P,xn P,xm P,lu P,ls P,xl P,xj P,xi P,xh P,xg P,lr P,iF P,xf P,xe P,lp P,xc P,xb P,xa P,iE P,ln P,wZ P,wY P,wX P,wW P,wV P,lj P,eJ P,wU P,wT P,li P,wS P,wR P,wQ P,iD P,lg P,wP P,wO P,wN P,wM P,wL P,kZ P,iC P,wK P,wJ P,wI P,kX P,iB P,wH P,wG P,wF P,kW P,iA P,wE P,wD P,wC P,kT P,iz P]⟩,dU⟩
 def Ty(P:WQ):List (XC×Obj):=[(0,boot_o_0 P),(1,boot_o_1 P),(2,boot_o_2 P),(3,dS P),(4,boot_o_4 P),(5,boot_o_5 P),(6,boot_o_6 P),(7,boot_o_7 P),(8,boot_o_8 P),(9,boot_o_9 P),(10,boot_o_10 P),(11,iU P),(12,xz P),(13,iT P),(14,iR P),(15,lJ P),(16,lI P),(17,lH P),(18,lG P),(19,lF P),(20,lE P),(21,lD P),(22,lC P),(23,lB P),(24,lA P),(25,lz P),(26,lx P),(27,lq P),(28,ll P),(29,lh P),(30,kY P),(31,kU P),(32,kS P),(33,kQ P),(34,kP P),(35,kO P),(36,kN P),(37,kM P),(38,kL P),(39,kK P),(40,kJ P),(41,kH P),(42,kG P),(43,kF P),(44,kC P),(45,kB P),(46,kA P),(47,kz P),(48,ky P),(49,kx P),(50,ku P),(51,kt P),(52,kr P),(53,kq P),(54,ko P),(55,km P),(56,kl P),(57,kj P),(58,ki P),(59,kh P),(60,kg P),(61,kf P),(62,ke P),(63,kd P),(64,kc P),(65,nF P),(66,nE P),(67,nD P),(68,nC P),(69,nB P),(70,nz P),(71,ny P),(72,nx P),(73,nw P),(74,nv P),(75,nu P),(76,nr P),(77,nq P),(78,nk P),(79,nj P),(80,ni P),(81,gw P),(82,fJ P),(83,nh P),(84,ng P),(85,nf P),(86,nc P),(87,nb P),(88,gv P),(89,fH P),(90,mZ P),(91,mY P),(92,mX P),(93,mW P),(94,mV P),(95,mU P),(96,mS P),(97,mR P),(98,mQ P),(99,mP P),(100,oO P),(101,oM P),(102,oL P),(103,oK P),(104,oJ P),(105,oI P),(106,oH P),(107,oG P),(108,oF P),(109,oE P),(110,oD P),(111,oC P),(112,oB P),(113,oA P),(114,oy P),(115,ou P),(116,oq P),(117,oo P),(118,oj P),(119,oh P),(120,nZ P),(121,nY P),(122,nX P),(123,nW P),(124,nV P),(125,nU P),(126,nT P),(127,nS P),(128,nR P),(129,nQ P),(130,nP P),(131,nO P),(132,nN P),(133,nM P),(134,nK P),(135,iS P),(136,nJ P),(137,nI P),(138,nH P),(139,sQ P),(140,sP P),(141,sO P),(142,sN P),(143,sM P),(144,sL P),(145,sK P),(146,sJ P),(147,sI P),(148,sH P),(149,sG P),(150,sF P),(151,sD P),(152,sC P),(153,sB P),(154,sy P),(155,sx P),(156,sw P),(157,sv P),(158,su P),(159,iQ P),(160,gD P),(161,sr P),(162,sq P),(163,sp P),(164,so P),(165,sn P),(166,iP P),(167,gC P),(168,sm P),(169,sh P),(170,sg P),(171,sf P),(172,se P),(173,iO P),(174,gB P),(175,sd P),(176,sc P),(177,sb P),(178,rZ P),(179,rY P),(180,iN P),(181,gA P),(182,rX P),(183,rW P),(184,rV P),(185,rU P),(186,rT P),(187,iM P),(188,gz P),(189,rS P),(190,rR P),(191,rQ P),(192,rP P),(193,rO P),(194,rN P),(195,iL P),(196,fK P),(197,rM P),(198,rL P),(199,rK P),(200,rJ P),(201,rI P),(202,iK P),(203,gy P),(204,rH P),(205,rG P),(206,rF P),(207,rE P),(208,rD P),(209,iJ P),(210,gx P),(211,rC P),(212,rB P),(213,rA P),(214,rz P),(215,ry P),(216,rx P),(217,iI P),(218,iH P),(219,rv P),(220,ru P),(221,rr P),(222,rq P),(223,rp P),(224,ro P),(225,rn P),(226,rl P),(227,rj P),(228,ri P),(229,rh P),(230,rg P),(231,rf P),(232,re P),(233,rd P),(234,rc P),(235,rb P),(236,ra P),(237,qZ P),(238,qY P),(239,qX P),(240,qW P),(241,qU P),(242,nG P),(243,qS P),(244,qR P),(245,qQ P),(246,qP P),(247,xy P),(248,xx P),(249,xw P),(250,xv P),(251,xu P),(252,ly P),(253,iG P),(254,xt P),(255,xq P),(256,xp P),(257,xo P),(258,xn P),(259,xm P),(260,lu P),(261,ls P),(262,xl P),(263,xj P),(264,xi P),(265,xh P),(266,xg P),(267,lr P),(268,iF P),(269,xf P),(270,xe P),(271,lp P),(272,xc P),(273,xb P),(274,xa P),(275,iE P),(276,ln P),(277,wZ P),(278,wY P),(279,wX P),(280,wW P),(281,wV P),(282,lj P),(283,eJ P),(284,wU P),(285,wT P),(286,li P),(287,wS P),(288,wR P),(289,wQ P),(290,iD P),(291,lg P),(292,wP P),(293,wO P),(294,wN P),(295,wM P),(296,wL P),(297,kZ P),(298,iC P),(299,wK P),(300,wJ P),(301,wI P),(302,kX P),(303,iB P),(304,wH P),(305,wG P),(306,wF P),(307,kW P),(308,iA P),(309,wE P),(310,wD P),(311,wC P),(312,kT P),(313,iz P)]
 def jc:Env:={ scope:=TP.main.scope,locals:=mainNs,globals:=mainNs,cells:=[],code:=.ref 13,frame:=some 14}
 def bT:List Stmt:=behindTheImports TP
 def cT:Code:=.body bT jc
noncomputable def qT:Pos:=⟨0,0,0,0⟩
noncomputable def fm:Option Value:=some (.ref 6)
theorem LP(w:Xo)(os:OsState):topGo eh TP w 11 fm 12 ⟨boot_heap w.params,Yv [],YB,boot_toks,os⟩ (topStub TP) =
  some (SharedT.abs (ZT (qg w.params) sX dU (Yv []) YB qk os),⟨denote eh cT,cT,⟨0,0,0,0⟩,[topFrame qT]⟩):=by
 rw[PySem.W.Fast.te15667345088766844465,PySem.W.Fast.te11892475500146522536]
 kernel_rfl
theorem SN(w:Xo)(os:OsState):segRun eh TP w 11 fm 1 1 (SharedT.abs (ZT (qg w.params) sX dU (Yv []) YB qk os)) (blockOf bT jc cT ⟨0,0,0,0⟩ [topFrame qT]) =
  some (.next,SharedT.abs (ZT (qg w.params) sX dU (Yv []) YB qk os),cT,⟨0,0,0,0⟩):=by
 rw[PySem.W.Fast.te14374325043358763698]
 kernel_rfl
 def Av:List Stmt:=(bT.drop 0).take 3
theorem Me(w:Xo)(os:OsState):segRunT eh TP w 11 fm 1 362 (ZT (qg w.params) sX dU (Yv []) YB qk os) (piecesOf Av jc cT ⟨0,0,0,0⟩ [topFrame qT]) =
  some (.next,(ZT (Af w.params) Cr dU (Yv []) YB Ai os),cT,⟨5,0,22,54⟩):=by
 rw[Zs]
 kernel_rfl
 def Au:List Stmt:=(bT.drop 3).take 1
theorem Md(w:Xo)(os:OsState):segRunT eh TP w 11 fm 1 1047 (ZT (Af w.params) Cr dU (Yv []) YB Ai os) (piecesOf Au jc cT ⟨5,0,22,54⟩ [topFrame qT]) =
  some (.next,(ZT (Ae w.params) Cq dU (Yv []) YB Ah os),cT,⟨23,0,65,54⟩):=by
 rw[Zs]
 kernel_rfl
 def At:List Stmt:=(bT.drop 4).take 2
theorem Mc(w:Xo)(os:OsState):segRunT eh TP w 11 fm 1 696 (ZT (Ae w.params) Cq dU (Yv []) YB Ah os) (piecesOf At jc cT ⟨23,0,65,54⟩ [topFrame qT]) =
  some (.next,(ZT (Ad w.params) Cp dU (Yv []) YB Ag os),cT,⟨70,0,503,16⟩):=by
 rw[Zs]
 kernel_rfl
 def As:List Stmt:=(bT.drop 6).take 11
theorem Mb(w:Xo)(os:OsState):segRunT eh TP w 11 fm 1 382 (ZT (Ad w.params) Cp dU (Yv []) YB Ag os) (piecesOf As jc cT ⟨70,0,503,16⟩ [topFrame qT]) =
  some (.next,(ZT (Ac w.params) xH dU (Yv []) YB gj os),cT,⟨699,0,719,15⟩):=by
 rw[Zs]
 kernel_rfl
theorem QT(w:Xo)(os:OsState):topRun eh TP w 11 fm 2 (SharedT.abs (ZT (Ac w.params) xH dU (Yv []) YB gj os)) ⟨doneF .next,cT,⟨699,0,719,15⟩,[topFrame qT]⟩ =
  some ⟨fS w.params,Yv [],YB,gj,os⟩:=by
 rw[PySem.W.Fast.te14082659384304107361]
 kernel_rfl
theorem ST:bT=Av++(Au++(At++(As++[]))):=by kernel_rfl
noncomputable def mT:Nat:=12+(1+(362+(1047+(696+(382+2)))))
theorem Ja(w:Xo)(os:OsState):topRun eh TP w 11 fm mT ⟨boot_heap w.params,Yv [],YB,boot_toks,os⟩ (topStub TP) =
  some ⟨fS w.params,Yv [],YB,gj,os⟩:=by
 refine go_top (LP w os) (piece_block (SN w os) ?_)
 show topRun eh TP w 11 fm _ _ (restOf bT jc cT _ [topFrame qT])=_
 rw[ST]
 exact(piece_app (segRun_of (Me w os)) (piece_app (segRun_of (Md w os)) (piece_app (segRun_of (Mc w os)) (piece_app (segRun_of (Mb w os)) (piece_nil (QT w os))))))
 def qV:Xh:={ TP with main:={ TP.main with body:=[aE 16]} }
noncomputable def iW:List Str:=[WR "_wall",WR "_tuplegetter",WR "Match",WR "_calculate_ratio",WR "SequenceMatcher",WR "_format_range_unified",WR "unified_diff",WR "_format_range_context",WR "context_diff",WR "_check_types",WR "diff_bytes",WR "_law_octets",WR "_law_text",WR "_law_again"]
 def EH:List XC:=(List.range xH)
 def KO:WQ->Frag:=Ty
theorem SX(P:WQ):EH=(KO P).map (·.1):=by kernel_rfl
 def dW:Hook:=kHook KO EH SX
noncomputable def NT:Nat:=6000
theorem Mr:∀w:Xo,(fencedOpening treeTable TP w NT).map (fun s=>(s.heap,s.gens,s.drawn,s.toks))=some (boot_heap w.params,Yv [],YB,boot_toks) :=
 boot_open (by kernel_rfl) (by kernel_rfl) (fun s=>by kernel_rfl)
theorem Iv:∀w:Xo,((boot_heap w.params).isNs YD&&(Yv []:Array ZQ).size==0,(boot_heap w.params).objs.size,(boot_heap w.params).nsMap YD "__annotations__")=(true,11,fm):=by
 intro w
 kernel_rfl
theorem Os:Nat.ble mT NT=true:=by kernel_rfl
theorem Oe(w:Xo)(os:OsState):(staticsOk (importedModules TP.main.body) (boot_heap w.params) (fS w.params)&&namesBound TP (fS w.params)&&gensDone ⟨fS w.params,Yv [],YB,gj,os⟩&&laidKept (boot_heap w.params) (fS w.params))=true:=by
 kernel_rfl
theorem Od(w:Xo)(os:OsState):openSeen qV iW (importedModules TP.main.body) (fun O=>true) true ⟨fS w.params,Yv [],YB,gj,os⟩=openGood qV iW:=by
 rw[PySem.W.Fast.te4187177175401517315]
 kernel_rfl
theorem Oc(w:Xo)(os:OsState):dW.obs ⟨fS w.params,Yv [],YB,gj,os⟩=dW.val w:=by
 kernel_rfl
theorem Oo:LeftO TP qV iW (fun O=>true) dW.obs dW.val NT:=by
 refine LeftO.of_pieces (H₁:=fS) (gs₁:=Yv []) (d₁:=YB) (k₁:=gj) Mr Iv (fun w os=>?_) Os (fun w=>?_)
 ·rw[HA]
  exact Ja w os
 ·funext os
  rw[Oe,Od,Oc]
end
section
open PySem PySem.W PyProof.Rows
set_option backward.match.sparseCases false in
noncomputable def LQ:Stmt->Pos
 |.FunctionDef _ _ _ _ _ _ _ _ _ p=>p
 |_=>⟨0,0,0,0⟩
noncomputable def fQ:DefRec:=⟨WR "law",ud (aE 16),bo (aE 16),jz (aE 16),LQ (aE 16)⟩
theorem RL:defOf qV (WR "law")=some (fQ,[]):=by kernel_rfl
theorem Oq:LeftO YR qV iW (fun O=>true) dW.obs dW.val NT:=by
 rw[qh]
 exact Oo
theorem Hx:PySem.Challenge.pw_dm0049_04.theDef (WR "law")=some (fQ.params,fQ.body,fQ.scope):=by
 rw[qh]
 kernel_rfl
theorem MM:(chainsOk qV&&opensWell YR&&(frees PySem.Challenge.rw_dm0049_04.row.toRowW&&PySem.Challenge.rw_dm0049_04.row.toRowW.within.isEmpty))=true:=by
 rw[qh]
 kernel_rfl
theorem IY:OpenLaw.wellSaid XX=true:=by
 delta XX
 rw[qh]
 kernel_rfl
theorem Pf(walk:WalkO qV iW (fun O O=>True) dW.says PySem.Challenge.rw_dm0049_04.row.toRowW fQ [] (fun f vs=>PySem.call f vs)):PySem.Challenge.rw_dm0049_04.Holds:=by
 refine holds_law IY fun said=>?_
 refine PySem.W.holds_open (q:=qV) (loose:=iW) (Xt:=fun O=>true) (XP:=fun O O=>True) (Yf:=dW.obs) (Ya:=dW.val) (YP:=dW.says) (N:=NT) (d:=fQ) (kwd:=[])
  Oq dW.of dW.keeps (fun O O=>trivial) (fun O O O O O=>trivial) RL Hx (by kernel_rfl) (fun s O=>recFacts_of (by kernel_rfl)) (by kernel_rfl) said MM ⟨rfl,rfl,rfl,rfl,rfl,by decide +kernel⟩ ?hw walk
 w_witness2
end
set_option genSizeOf false in
inductive AV where
 |none
 |bool (b:Bool)
 |int (i:Int)
 |str (s:Str)
 |bytes (b:Array UInt8)
 |typ (n:String)
 |blt (id:String)
 |ref (a:XC)
 |tup (xs:List AV)
 |lst (xs:List AV)
 |mat (c:XC) (xs:List AV)
 |bm (id:String) (self:AV)
 |inst (c d:XC)
 |rng (a b:Int)
 |any
 deriving Inhabited
set_option backward.match.sparseCases false in
noncomputable def AV.isAny:AV->Bool
 |.any=>true
 |_=>false
noncomputable abbrev f9:=XC->Option Obj
mutual
inductive Val (Z:f9):AV->Value->Prop
 |none:Val Z .none .none
 |bool (b:Bool):Val Z (.bool b) (.bool b)
 |int (i:Int) (t:Tok):Val Z (.int i) (.int i t)
 |str (x:Str) (t:Tok):Val Z (.str x) (.str x t)
 |bytes (b:Array UInt8) (t:Tok):Val Z (.bytes b) (.bytes b t)
 |typ (n:String):Val Z (.typ n) (.type n)
 |blt (n:String):Val Z (.blt n) (.builtin n)
 |ref (a:XC):Val Z (.ref a) (.ref a)
 |tup {a:XC} {xs:List AV} {items:List Value} {n:Nat}:Z a=some {cls:=.type "tuple",data:=.seq items.toArray n}->Vals Z xs items->Val Z (.tup xs) (.ref a)
 |lst {a:XC} {xs:List AV} {items:List Value} {n:Nat}:Z a=some {cls:=.type "list",data:=.seq items.toArray n}->Vals Z xs items->Val Z (.lst xs) (.ref a)
 |mat {a c d:XC} {xs:List AV} {items:List Value} {n:Nat}:Z a=some {cls:=.ref c,dict:=some d,data:=.seq items.toArray n}->Vals Z xs items->Val Z (.mat c xs) (.ref a)
 |bm {a:XC} {id:String} {self:AV} {v:Value}:Z a=some {cls:=.type "builtin_function_or_method",data:=.fields #[.builtin id,v]}->Val Z self v->Val Z (.bm id self) (.ref a)
 |inst {a c d:XC}:Z a=some {cls:=.ref c,dict:=some d,data:=.plain}->Val Z (.inst c d) (.ref a)
 |rng {r:XC} {a b:Int} {t u v:Tok}:Z r=some {cls:=.type "range",dict:=none,data:=.fields #[.int a t,.int b u,.int 1 v],slots:=#[]}->Val Z (.rng a b) (.ref r)
 |any (x:Value):Val Z .any x
inductive Vals (Z:f9):List AV->List Value->Prop
 |nil:Vals Z [] []
 |cons {x:AV} {v:Value} {xs:List AV} {vs:List Value}:Val Z x v->Vals Z xs vs->Vals Z (x::xs) (v::vs)
end
def VI(Z:f9)(x:Value):AV->Prop
 |.none=>x=.none
 |.bool b=>x=.bool b
 |.int i=>∃t,x=.int i t
 |.str y=>∃t,x=.str y t
 |.bytes y=>∃t,x=.bytes y t
 |.typ n=>x=.type n
 |.blt n=>x=.builtin n
 |.ref a=>x=.ref a
 |.tup xs=>∃a items n,x=.ref a/\Z a=some {cls:=.type "tuple",data:=.seq (List.toArray items) n}/\Vals Z xs items
 |.lst xs=>∃a items n,x=.ref a/\Z a=some {cls:=.type "list",data:=.seq (List.toArray items) n}/\Vals Z xs items
 |.mat c xs=>∃a d items n,x=.ref a/\Z a=some {cls:=.ref c,dict:=some d,data:=.seq (List.toArray items) n}/\Vals Z xs items
 |.bm id self=>∃a v,x=.ref a/\Z a=some {cls:=.type "builtin_function_or_method",data:=.fields #[.builtin id,v]}/\Val Z self v
 |.inst c d=>∃a,x=.ref a/\Z a=some {cls:=.ref c,dict:=some d,data:=.plain}
 |.rng a b=>∃r t u v,x=.ref r/\Z r=some {cls:=.type "range",dict:=none,data:=.fields #[.int a t,.int b u,.int 1 v],slots:=#[]}
 |.any=>True
theorem Val.inv{Z:f9}{v:AV}{x:Value}(h:Val Z v x):VI Z x v :=
 Val.casesOn (motive_1:=fun v x O=>VI Z x v) h rfl (fun O=>rfl) (fun O t=>⟨t,rfl⟩) (fun O t=>⟨t,rfl⟩) (fun O t=>⟨t,rfl⟩) (fun O=>rfl) (fun O=>rfl) (fun O=>rfl) (fun e v=>⟨_,_,_,rfl,e,v⟩) (fun e v=>⟨_,_,_,rfl,e,v⟩)
  (fun e v=>⟨_,_,_,_,rfl,e,v⟩) (fun e v=>⟨_,_,rfl,e,v⟩) (fun e=>⟨_,rfl,e⟩) (fun e=>⟨_,_,_,_,rfl,e⟩) (fun O=>⟨⟩)
section
variable{Z:f9}{P:Value->Prop}
theorem Val.eNone(k:P .none)(x:Value)(h:Val Z .none x):P x:=(show _=_ from h.inv)▸k
theorem Val.eBool{b:Bool}(k:P (.bool b))(x:Value)(h:Val Z (.bool b) x):P x:=(show _=_ from h.inv)▸k
theorem Val.eInt{i:Int}(k:∀t,P (.int i t))(x:Value)(h:Val Z (.int i) x):P x:=ak h.inv fun t e=>e▸k t
theorem Val.eStr{y:Str}(k:∀t,P (.str y t))(x:Value)(h:Val Z (.str y) x):P x:=ak h.inv fun t e=>e▸k t
theorem Val.eBytes{y:Array UInt8}(k:∀t,P (.bytes y t))(x:Value)(h:Val Z (.bytes y) x):P x:=ak h.inv fun t e=>e▸k t
theorem Val.eTyp{n:String}(k:P (.type n))(x:Value)(h:Val Z (.typ n) x):P x:=(show _=_ from h.inv)▸k
theorem Val.eRef{a:XC}(k:P (.ref a))(x:Value)(h:Val Z (.ref a) x):P x:=(show _=_ from h.inv)▸k
end
theorem Pd{Z:f9}{y:Str}{x:Value}(h:Val Z (.str y) x):∃t,x=.str y t:=h.inv
theorem Pe{Z:f9}{y:Array UInt8}{x:Value}(h:Val Z (.bytes y) x):∃t,x=.bytes y t:=h.inv
theorem lP{Z:f9}{xs:List AV}{x:Value}(h:Val Z (.tup xs) x):∃a items n,x=.ref a/\Z a=some {cls:=.type "tuple",data:=.seq (List.toArray items) n}/\Vals Z xs items:=h.inv
theorem lQ{Z:f9}{xs:List AV}{x:Value}(h:Val Z (.lst xs) x):∃a items n,x=.ref a/\Z a=some {cls:=.type "list",data:=.seq (List.toArray items) n}/\Vals Z xs items:=h.inv
theorem tC{Z:f9}{c:XC}{xs:List AV}{x:Value}(h:Val Z (.mat c xs) x):∃a d items n,x=.ref a/\Z a=some {cls:=.ref c,dict:=some d,data:=.seq (List.toArray items) n}/\Vals Z xs items:=h.inv
theorem yj{Z:f9}{id:String}{self:AV}{x:Value}(h:Val Z (.bm id self) x):∃a v,x=.ref a/\Z a=some {cls:=.type "builtin_function_or_method",data:=.fields #[.builtin id,v]}/\Val Z self v:=h.inv
theorem yi{Z:f9}{c d:XC}{x:Value}(h:Val Z (.inst c d) x):∃a,x=.ref a/\Z a=some {cls:=.ref c,dict:=some d,data:=.plain}:=h.inv
theorem Dk{Z:f9}{a b:Int}{x:Value}(h:Val Z (.rng a b) x):∃r t u v,x=.ref r/\Z r=some {cls:=.type "range",dict:=none,data:=.fields #[.int a t,.int b u,.int 1 v],slots:=#[]}:=h.inv
def EU(Z:f9)(xs:List Value):List AV->Prop
 | []=>xs=[]
 |a::as=>∃y ys,xs=y::ys/\Val Z a y/\Vals Z as ys
theorem Vals.inv{Z:f9}{vs:List AV}{xs:List Value}(h:Vals Z vs xs):EU Z xs vs :=
 Vals.casesOn (motive_2:=fun v x O=>EU Z x v) h rfl fun h t=>⟨_,_,rfl,h,t⟩
theorem Vals.un{Z:f9}{a:AV}{as:List AV}{P:List Value->Prop}(k:∀x,Val Z a x->∀ys,Vals Z as ys->P (x::ys))(xs:List Value)(h:Vals Z (a::as) xs):P xs :=
 br h.inv fun y ys e h t=>e▸k y h ys t
theorem Vals.un0{Z:f9}{P:List Value->Prop}(k:P [])(xs:List Value)(h:Vals Z [] xs):P xs:=(show _=_ from h.inv)▸k
theorem Vals.un2{Z:f9}{a b:AV}{P:List Value->Prop}(k:∀x,Val Z a x->∀y,Val Z b y->P [x,y])(xs:List Value)(h:Vals Z [a,b] xs):P xs:=Vals.un (P:=P) (fun x hx=>Vals.un fun y hy=>Vals.un0 (k x hx y hy)) xs h
theorem Vals.un3{Z:f9}{a b c:AV}{P:List Value->Prop}(k:∀x,Val Z a x->∀y,Val Z b y->∀z,Val Z c z->P [x,y,z])(xs:List Value)(h:Vals Z [a,b,c] xs):P xs:=Vals.un (P:=P) (fun x hx=>Vals.un2 (k x hx)) xs h
def f9.le(Z Z':f9):Prop:=∀a o,Z a=some o->Z' a=some o
theorem f9.le.refl(Z:f9):f9.le Z Z:=fun O O e=>e
theorem f9.le.trans{Z Z' y0:f9}(x:f9.le Z Z')(y:f9.le Z' y0):f9.le Z y0:=fun a o e=>y a o (x a o e)
theorem Val.mono{Z Z':f9}(k:f9.le Z Z'){v:AV}{x:Value}(h:Val Z v x):Val Z' v x :=
 Val.rec (motive_1:=fun v x O=>Val Z' v x) (motive_2:=fun v x O=>Vals Z' v x) .none .bool .int .str .bytes .typ .blt .ref (fun e O => .tup (k _ _ e)) (fun e O => .lst (k _ _ e))
  (fun e O => .mat (k _ _ e)) (fun e O => .bm (k _ _ e)) (fun e => .inst (k _ _ e)) (fun e => .rng (k _ _ e)) .any .nil (fun O O => .cons) h
theorem Vals.mono{Z Z':f9}(k:f9.le Z Z'){v:List AV}{x:List Value}(h:Vals Z v x):Vals Z' v x :=
 Vals.rec (motive_1:=fun v x O=>Val Z' v x) (motive_2:=fun v x O=>Vals Z' v x) .none .bool .int .str .bytes .typ .blt .ref (fun e O => .tup (k _ _ e)) (fun e O => .lst (k _ _ e))
  (fun e O => .mat (k _ _ e)) (fun e O => .bm (k _ _ e)) (fun e => .inst (k _ _ e)) (fun e => .rng (k _ _ e)) .any .nil (fun O O => .cons) h
theorem Vals.ind{Z:f9}{P:List AV->List Value->Prop}(n:P [] [])(c:∀ {x v xs vs},Val Z x v->Vals Z xs vs->P xs vs->P (x::xs) (v::vs)){xs:List AV}{vs:List Value}(h:Vals Z xs vs):P xs vs :=
 Vals.rec (motive_1:=fun O O O=>True) (motive_2:=fun x v O=>P x v) ⟨⟩ (fun O=>⟨⟩) (fun O O=>⟨⟩) (fun O O=>⟨⟩) (fun O O=>⟨⟩) (fun O=>⟨⟩) (fun O=>⟨⟩) (fun O=>⟨⟩) (fun O O O=>⟨⟩) (fun O O O=>⟨⟩)
  (fun O O O=>⟨⟩) (fun O O O=>⟨⟩) (fun O=>⟨⟩) (fun O=>⟨⟩) (fun O=>⟨⟩) n (fun h t O=>c h t) h
theorem Vals.length{Z:f9}{xs:List AV}{vs:List Value}(h:Vals Z xs vs):vs.length=xs.length :=
 h.ind (P:=fun xs vs=>vs.length=xs.length) rfl fun O O=>congrArg Nat.succ
theorem Vals.size{Z:f9}{xs:List AV}{items:Array Value}(h:Vals Z xs items.toList):items.size=xs.length:=Yz.symm.trans h.length
theorem Vals.append{Z:f9}{xs ys:List AV}{vs us:List Value}(h:Vals Z xs vs)(h':Vals Z ys us):Vals Z (xs++ys) (vs++us) :=
 h.ind (P:=fun xs vs=>Vals Z (xs++ys) (vs++us)) h' fun h O => .cons h
theorem Vals.get{Z:f9}{xs:List AV}{vs:List Value}(h:Vals Z xs vs):∀ {i:Nat} {x:AV},xs[i]?=some x->∃v,vs[i]?=some v/\Val Z x v :=
 h.ind (P:=fun xs vs=>∀ {i:Nat} {x:AV},xs[i]?=some x->∃v,vs[i]?=some v/\Val Z x v) nofun fun{x v _ _} h _ t i y e =>
  match i with
  |0=>bb _ rfl (Zi e▸h)
  |_+1=>t e
theorem Vals.take{Z:f9}{xs:List AV}{vs:List Value}(h:Vals Z xs vs):∀n,Vals Z (xs.take n) (vs.take n) :=
 h.ind (P:=fun xs vs=>∀n,Vals Z (xs.take n) (vs.take n)) (fun |0 => .nil |_+1 => .nil) fun h O t n =>
  match n with
  |0 => .nil
  |n+1 => .cons h (t n)
theorem Vals.drop{Z:f9}{xs:List AV}{vs:List Value}(h:Vals Z xs vs):∀n,Vals Z (xs.drop n) (vs.drop n) :=
 h.ind (P:=fun xs vs=>∀n,Vals Z (xs.drop n) (vs.drop n)) (fun |0 => .nil |_+1 => .nil) fun h ht t n =>
  match n with
  |0 => .cons h ht
  |n+1=>t n
set_option genSizeOf false in
inductive i9 where
 |list (xs:List AV)
 |ns (m:List (Str×AV))
 |gen (g:Nat) (gs:ZQ)
 |raw (o:Obj)
 |obj (P:f9->Obj->Prop) (mono:∀Z Z' o,f9.le Z Z'->P Z o->P Z' o)
noncomputable abbrev aa:=List (XC×i9)
inductive l6 (Z:f9):Option AV->Option Value->Prop
 |none:l6 Z .none .none
 |some {v:AV} {x:Value}:Val Z v x->l6 Z (.some v) (.some x)
 |any {x:Option Value}:l6 Z (.some .any) x
theorem l6.mono{Z Z':f9}(k:f9.le Z Z'){v:Option AV}{x:Option Value}(h:l6 Z v x):l6 Z' v x :=
 l6.casesOn (motive:=fun v x O=>l6 Z' v x) h .none (fun h => .some (h.mono k)) .any
def Fl(Z:f9)(x:Option Value):Option AV->Prop
 |.none=>x=.none
 |.some v=>v.isAny=true∨∃y,x=.some y/\Val Z v y
theorem l6.inv{Z:f9}{v:Option AV}{x:Option Value}(h:l6 Z v x):Fl Z x v :=
 l6.casesOn (motive:=fun v x O=>Fl Z x v) h rfl (fun h => .inr ⟨_,rfl,h⟩) (.inl rfl)
theorem l6.val{Z:f9}{v:AV}{x:Option Value}(h:l6 Z (.some v) x)(U4:v.isAny=false):∃y,x=.some y/\Val Z v y :=
 h.inv.resolve_left fun e=>Bool.noConfusion (U4.symm.trans e)
def z5(Z:f9)(h:Heap)(a:XC)(m:List (Str×AV)):Prop:=∃f,h.Ns a f/\∀x,l6 Z (m.lookup x) (f x)
theorem z5.mono{Z Z':f9}{h h':Heap}{a:XC}{m:List (Str×AV)}(k:f9.le Z Z')(e:∀o,h.get? a=some o->h'.get? a=some o)(x:z5 Z h a m):z5 Z' h' a m :=
 x.imp fun O h=>⟨h.1.at' e,fun y=>(h.2 y).mono k⟩
theorem z5.set{Z:f9}{h h':Heap}{a:XC}{m:List (Str×AV)}{x:Str}{v:AV}{u:Value}(hm:z5 Z h a m)(hv:Val Z v u)
  (hn:∀f,h.Ns a f->h'.Ns a (fun y=>if y=x then some u else f y)):z5 Z h' a ((x,v)::m):=by
 refine ad hm fun f n r=>?_;clear hm
 refine bb _ (hn f n) (fun y=>?_)
 rw[Xl]
 by_cases e:y=x
 ·subst e
  simp only[beq_self_eq_true,if_true]
  exact .some hv
 ·have:(y==x)=false:=beq_eq_false_iff_ne.mpr e
  simp only[this,e,if_false]
  exact r y
def Holds(Z:f9)(s:WS)(a:XC):i9->Prop
 |.list xs=>∃items n,s.heap.get? a=some {cls:=.type "list",data:=.seq items n}/\Vals Z xs items.toList
 |.ns m=>z5 Z s.heap a m
 |.gen g gs=>s.heap.IsGen a g/\s.gens[g]?=some gs
 |.raw o=>s.heap.get? a=some o
 |.obj P _=>∃o,s.heap.get? a=some o/\P Z o
noncomputable def i9.gnum:i9->Option Nat
 |.gen g _=>some g
 |_=>none
theorem Holds.mono{Z Z':f9}{s s':WS}{a:XC}{o:i9}(k:f9.le Z Z')(e:∀o,s.heap.get? a=some o->s'.heap.get? a=some o)
  (eg:∀g gs,o.gnum=some g->s.gens[g]?=some gs->s'.gens[g]?=some gs) (x:Holds Z s a o):Holds Z' s' a o:=by
 cases o with
 |list xs=>refine bt x fun i n g v=>?_;clear x;exact dF i n (e _ g) (v.mono k)
 |ns m=>exact z5.mono k e x
 |gen g gs =>
  refine av x fun O1 y=>?_;clear x;obtain⟨o,nm,qn,ho,r⟩:=O1
  exact⟨⟨o,nm,qn,e _ ho,r⟩,eg g gs rfl y⟩
 |raw o=>exact e _ x
 |obj P m=>refine ad x fun o h p=>?_;clear x;exact bb o (e _ h) (m _ _ _ k p)
theorem Holds.live{Z:f9}{s:WS}{a:XC}{o:i9}(x:Holds Z s a o):∃ob,s.heap.get? a=some ob:=by
 cases o with
 |list xs=>refine bt x fun i n g v=>?_;clear x;exact⟨_,g⟩
 |ns m=>refine ad x fun f O2 O=>?_;clear x;obtain⟨ob,_,_,g,_⟩:=O2;exact⟨_,g⟩
 |gen g gs=>refine av x fun O1 y=>?_;clear x;obtain⟨o,nm,qn,ho,r⟩:=O1;exact⟨_,ho⟩
 |raw o=>exact⟨_,x⟩
 |obj P m=>refine ad x fun o h p=>?_;clear x;exact⟨o,h⟩
set_option genSizeOf false in
structure St where
 loc:List (Str×AV)
 led:aa
noncomputable abbrev keys(l:aa):List XC:=l.map (·.1)
noncomputable abbrev gkeys(l:aa):List Nat:=l.filterMap fun p=>p.2.gnum
theorem Nl{l:aa}{p:XC×i9}{g:Nat}(h:p∈l)(e:p.2.gnum=some g):g∈gkeys l:=List.mem_filterMap.mpr ⟨p,h,e⟩
structure f1 (B:f9) (s:WS) (Z:f9) (led:aa):Prop where
 base:f9.le B Z
 frozen:∀a o,Z a=some o->s.heap.get? a=some o
 nodup:(keys led).Nodup
 apart:∀p∈led,Z p.1=none
 own:∀p∈led,Holds Z s p.1 p.2
 gnodup:(gkeys led).Nodup
 bare:∀x∈s.gens,x.bare=true
structure g8 (B:f9) (d8:Env) (s:WS) (Z:f9) (st:St):Prop extends f1 B s Z st.led where
 locZ:Z d8.locals=none
 locL:d8.locals∉keys st.led
 loc:z5 Z s.heap d8.locals st.loc
 kinds:∀x v,st.loc.lookup x=some v->d8.kindOf x=some .local
 fn:d8.scope.kind=.function
set_option genSizeOf false in set_option genInjectivity false in
structure L7 where
 at_:XC->Prop
 gn:Nat->Prop
structure k8 (own:L7) (s:WS) (Z:f9) (s':WS) (Z':f9) (A3:L7):Prop where
 le:f9.le Z Z'
 kept:∀a o,s.heap.get? a=some o -> ¬ own.at_ a->s'.heap.get? a=some o
 grow:∀a,A3.at_ a->own.at_ a∨s.heap.get? a=none
 zgrow:∀a o,Z' a=some o->Z a=some o∨own.at_ a∨s.heap.get? a=none
 os:s'.os=s.os
 gkept:∀g gs,s.gens[g]?=some gs -> ¬ own.gn g->s'.gens[g]?=some gs
 ggrow:∀g,A3.gn g->own.gn g∨s.gens[g]?=none
theorem k8.refl{own:L7}{s:WS}{Z:f9}:k8 own s Z s Z own:=⟨.refl _,fun O O e O=>e,fun O h => .inl h,fun O O e => .inl e,rfl,fun O O e O=>e,fun O h => .inl h⟩
theorem k8.trans{o1 o2 Q3:L7}{s₁ s2 s3:WS}{Z1 Z2 Z3:f9}(x:k8 o1 s₁ Z1 s2 Z2 o2)(y:k8 o2 s2 Z2 s3 Z3 Q3):k8 o1 s₁ Z1 s3 Z3 Q3 where
 le:=x.le.trans y.le
 kept:=fun a o e h=>y.kept a o (x.kept a o e h) fun h'=>(x.grow a h').elim h fun n=>by rw[e] at n;cases n
 grow:=fun a h=>by
  rcases y.grow a h with h' |h'
  ·exact x.grow a h'
  ·by_cases q:o1.at_ a
   ·exact .inl q
   ·right
    cases e:s₁.heap.get? a with
    |none=>rfl
    |some o=>rw[x.kept a o e q] at h';cases h'
 zgrow:=fun a o e=>by
  rcases y.zgrow a o e with h |h |h
  ·exact x.zgrow a o h
  ·exact .inr (x.grow a h)
  ·by_cases q:o1.at_ a
   ·exact .inr (.inl q)
   ·refine .inr (.inr ?_)
    cases e':s₁.heap.get? a with
    |none=>rfl
    |some o=>rw[x.kept a o e' q] at h;cases h
 os:=y.os.trans x.os
 gkept:=fun a o e h=>y.gkept a o (x.gkept a o e h) fun h'=>(x.ggrow a h').elim h fun n=>by rw[e] at n;cases n
 ggrow:=fun a h=>by
  rcases y.ggrow a h with h' |h'
  ·exact x.ggrow a h'
  ·by_cases q:o1.gn a
   ·exact .inl q
   ·right
    cases e:s₁.gens[a]? with
    |none=>rfl
    |some o=>rw[x.gkept a o e q] at h';cases h'
noncomputable def aw(d8:Env)(st:St):L7:=⟨fun a=>a=d8.locals∨a∈keys st.led,(· ∈ gkeys st.led)⟩
noncomputable def ah(led:aa):L7:=⟨(· ∈ keys led),(· ∈ gkeys led)⟩
section
variable{d7:Xh}{w:Xo}{A:Xg}{B:f9}{d8:Env}
def HQ(B:f9)(d8:Env){α β:Type}(rel:f9->α->β->Prop)(st:St)(K:α->St->Prop)(s:WS)(Z:f9)(Q:β->WS->Prop):Prop :=
 ∀v x s' Z' e9,K v e9->g8 B d8 s' Z' e9->rel Z' v x->k8 (aw d8 st) s Z s' Z' (aw d8 e9)->Q x s'
def T(d7:Xh)(w:Xo)(A:Xg)(B:f9)(d8:Env){α β:Type}(rel:f9->α->β->Prop)(t:Sem β)(st:St)(K:α->St->Prop):Prop :=
 ∀(s:WS) (Z:f9),g8 B d8 s Z st->∀(Q:β->WS->Prop) (E:Value->WS->Prop),
  HQ B d8 rel st K s Z Q->Xq (Xn d7 w) A t Q E s
set_option genSizeOf false in set_option genInjectivity false in
inductive g6 where
 |next |brk |cont
 |ret (v:AV)
inductive j5 (Z:f9):g6->Flow->Prop
 |next:j5 Z .next .next
 |brk:j5 Z .brk .brk
 |cont:j5 Z .cont .cont
 |ret {v:AV} {x:Value}:Val Z v x->j5 Z (.ret v) (.ret x)
def aH(_:f9)(b c:Bool):Prop:=c=b
def aJ(_:f9)(_ _:Unit):Prop:=True
def F1(d7:Xh)(w:Xo)(A:Xg)(B:f9)(d8:Env){α β:Type}(rel:f9->α->β->Prop)(f:Value->Sem β)(v:AV)(st:St)(K:α->St->Prop):Prop :=
 ∀(s:WS) (Z:f9) (x:Value),Val Z v x->g8 B d8 s Z st->∀(Q:β->WS->Prop) (E:Value->WS->Prop),
  HQ B d8 rel st K s Z Q->Xq (Xn d7 w) A (f x) Q E s
def F2(d7:Xh)(w:Xo)(A:Xg)(B:f9)(d8:Env){α β:Type}(rel:f9->α->β->Prop)(f:Value->Value->Sem β)(v1 v2:AV)(st:St)(K:α->St->Prop):Prop :=
 ∀(s:WS) (Z:f9) (m6 x2:Value),Val Z v1 m6->Val Z v2 x2->g8 B d8 s Z st->∀(Q:β->WS->Prop) (E:Value->WS->Prop),
  HQ B d8 rel st K s Z Q->Xq (Xn d7 w) A (f m6 x2) Q E s
theorem aY{α:Type}{M:Model}{A:Xg}{E:Value->WS->Prop}{s:WS}{c:Prop}[Decidable c]{a b:Sem α}{Q:α->WS->Prop}(h : ¬ c)(k:Xq M A b Q E s):Xq M A (if c then a else b) Q E s:=by rw[if_neg h];exact k
theorem dH{α:Type}{M:Model}{A:Xg}{E:Value->WS->Prop}{s:WS}{c:Prop}[Decidable c]{a b:Sem α}{Q:α->WS->Prop}(h:c)(k:Xq M A a Q E s):Xq M A (if c then a else b) Q E s:=by rw[if_pos h];exact k
theorem F1.of{α β:Type}{rel:f9->α->β->Prop}{f:Value->Sem β}{v:AV}{st:St}{K:α->St->Prop}
  (h:∀s Z,g8 B d8 s Z st->∀Q E,HQ B d8 rel st K s Z Q->∀x,Val Z v x->Xq (Xn d7 w) A (f x) Q E s):F1 d7 w A B d8 rel f v st K :=
 fun s Z x V S Q E hQ=>h s Z S Q E hQ x V
theorem F2.of{α β:Type}{rel:f9->α->β->Prop}{f:Value->Value->Sem β}{v u:AV}{st:St}{K:α->St->Prop}
  (h:∀s Z,g8 B d8 s Z st->∀Q E,HQ B d8 rel st K s Z Q->∀x,Val Z v x->∀y,Val Z u y->Xq (Xn d7 w) A (f x y) Q E s):F2 d7 w A B d8 rel f v u st K :=
 fun s Z x y V U S Q E hQ=>h s Z S Q E hQ x V y U
theorem g8.toks{s:WS}{Z:f9}{st:St}(h:g8 B d8 s Z st)(tk:Nat):g8 B d8 {s with toks:=tk} Z st :=
 ⟨⟨h.base,h.frozen,h.nodup,h.apart,fun p hp=>(h.own p hp).mono (.refl _) (fun O e=>e) fun O O O e=>e,h.gnodup,h.bare⟩,h.locZ,h.locL,h.loc,h.kinds,h.fn⟩
theorem k8.toks{own:L7}{s:WS}{Z:f9}(tk:Nat):k8 own s Z {s with toks:=tk} Z own:=⟨.refl _,fun O O e O=>e,fun O h => .inl h,fun O O e => .inl e,rfl,fun O O e O=>e,fun O h => .inl h⟩
theorem T.mono{α β:Type}{rel:f9->α->β->Prop}{t:Sem β}{st:St}{K K':α->St->Prop}(h:T d7 w A B d8 rel t st K)(k:∀v e9,K v e9->K' v e9):T d7 w A B d8 rel t st K' :=
 fun s Z S Q E hQ=>h s Z S Q E fun v x s' Z' e9 hk=>hQ v x s' Z' e9 (k v e9 hk)
theorem Fa{i:Int}{k:Nat}{pos:Pos}{st:St}{K:AV->St->Prop}(h:K (.int i) st):T d7 w A B d8 Val (Yw (.Constant (.int i) k pos) d8) st K :=
 fun s Z S Q E hQ=>wpAny_Constant_int (hQ _ _ _ Z st h (S.toks _) (.int _ _) (.toks _))
theorem EZ{x:Str}{k:Nat}{pos:Pos}{st:St}{K:AV->St->Prop}(h:K (.str x) st):T d7 w A B d8 Val (Yw (.Constant (.str x) k pos) d8) st K :=
 fun s Z S Q E hQ=>ZD (hQ _ _ _ Z st h (S.toks _) (.str _ _) (.toks _))
theorem uq{x:List UInt8}{k:Nat}{pos:Pos}{st:St}{K:AV->St->Prop}(h:K (.bytes x.toArray) st):T d7 w A B d8 Val (Yw (.Constant (.bytes x) k pos) d8) st K :=
 fun s Z S Q E hQ=>(fun O O O=>hQ _ (.bytes x.toArray s.toks) {s with toks:=s.toks+1} Z st h (S.toks _) (.bytes _ _) (.toks _))
theorem Ud{k:Nat}{pos:Pos}{st:St}{K:AV->St->Prop}(h:K .none st):T d7 w A B d8 Val (Yw (.Constant .none k pos) d8) st K :=
 fun s Z S Q E hQ=>WN (hQ _ _ s Z st h S .none .refl)
theorem Ui{b:Bool}{k:Nat}{pos:Pos}{st:St}{K:AV->St->Prop}(h:K (.bool b) st):T d7 w A B d8 Val (Yw (.Constant (.bool b) k pos) d8) st K :=
 fun s Z S Q E hQ=>WN (hQ _ _ s Z st h S (.bool b) .refl)
theorem Ug{x:Str}{pos:Pos}{loc:List (Str×AV)}{led:aa}{v:AV}{K:AV->St->Prop}(hx:loc.lookup x=some v)(h:K v ⟨loc,led⟩)
  (hd:(x==("__debug__" : Str))=false) (U4:v.isAny=false):T d7 w A B d8 Val (Yw (.Name x pos) d8) ⟨loc,led⟩ K:=fun s Z S Q E hQ =>
 ad S.loc fun f hn hr=>ad (l6.val (hx▸hr x) U4) fun u M7 hv=>wpAny_Name (wpAny_loadName_local S.fn (S.kinds x v hx) hn M7 (hQ v u s Z ⟨loc,led⟩ h S hv .refl)) hd
theorem zb{l r:Expr}{op:Operator}{pos:Pos}{st:St}{K:AV->St->Prop}
  (h:T d7 w A B d8 Val (Yw l d8) st fun v1 j9=>T d7 w A B d8 Val (Yw r d8) j9 fun v2 m5=>F2 d7 w A B d8 Val (binaryOp op) v1 v2 m5 K) :
  T d7 w A B d8 Val (Yw (.BinOp l op r pos) d8) st K:=fun s Z S Q E hQ =>
 wpAny_BinOp (h s Z S _ _ fun v1 m6 s₁ Z1 j9 k₁ S1 V1 X1=>k₁ s₁ Z1 S1 _ _ fun v2 x2 s2 Z2 m5 k2 S2 V2 X2 =>
  k2 s2 Z2 m6 x2 (V1.mono X2.le) V2 S2 _ _ fun v x s' Z' e9 k S' V X=>hQ v x s' Z' e9 k S' V ((X1.trans X2).trans X))
theorem Um{l r:Expr}{op:CmpOp}{pos:Pos}{st:St}{K:AV->St->Prop}
  (h:T d7 w A B d8 Val (Yw l d8) st fun v1 j9=>T d7 w A B d8 Val (Yw r d8) j9 fun v2 m5=>F2 d7 w A B d8 Val (Zx op) v1 v2 m5 K)
  (hm:behindInMarks op r=false) :
  T d7 w A B d8 Val (Yw (.Compare l [op] [r] pos) d8) st K:=fun s Z S Q E hQ =>
 wpAny_Compare1 (h s Z S _ _ fun v1 m6 s₁ Z1 j9 k₁ S1 V1 X1=>k₁ s₁ Z1 S1 _ _ fun v2 x2 s2 Z2 m5 k2 S2 V2 X2 =>
  k2 s2 Z2 m6 x2 (V1.mono X2.le) V2 S2 _ _ fun v x s' Z' e9 k S' V X=>hQ v x s' Z' e9 k S' V ((X1.trans X2).trans X)) hm
theorem UA{l r:Expr}{op:CmpOp}{pos:Pos}{whole:Sem Value}{st:St}{K:Bool->St->Prop}
  (h:T d7 w A B d8 Val (Yw l d8) st fun v1 j9=>T d7 w A B d8 Val (Yw r d8) j9 fun v2 m5=>F2 d7 w A B d8 Val (Zx op) v1 v2 m5 fun c u6=>F1 d7 w A B d8 aH truthy c u6 K)
  (hm:behindInMarks op r=false) :
  T d7 w A B d8 aH (isTrue (.Compare l [op] [r] pos) d8 whole) st K:=fun s Z S Q E hQ =>
 wpAny_isTrue_Compare1 (h s Z S _ _ fun v1 m6 s₁ Z1 j9 k₁ S1 V1 X1=>k₁ s₁ Z1 S1 _ _ fun v2 x2 s2 Z2 m5 k2 S2 V2 X2 =>
  k2 s2 Z2 m6 x2 (V1.mono X2.le) V2 S2 _ _ fun v3 x3 s3 Z3 u6 k3 S3 V3 X3=>k3 s3 Z3 x3 V3 S3 _ _ fun v x s' Z' e9 k S' V X=>hQ v x s' Z' e9 k S' V (((X1.trans X2).trans X3).trans X)) hm
theorem pB{e:Expr}{st:St}{K:Bool->St->Prop}(h:T d7 w A B d8 Val (Yw e d8) st fun v j9=>F1 d7 w A B d8 aH truthy v j9 K)
  (he:isTrue e d8 (Yw e d8)=(do let v ← Yw e d8;standAt e.pos;b9 [v] (truthy v)):=by rfl):T d7 w A B d8 aH (isTrue e d8 (Yw e d8)) st K:=fun s Z S Q E hQ =>
 wpAny_isTrue_value (h s Z S _ _ fun v1 m6 s₁ Z1 j9 k₁ S1 V1 X1=>k₁ s₁ Z1 m6 V1 S1 _ _ fun v x s' Z' e9 k S' V X=>hQ v x s' Z' e9 k S' V (X1.trans X)) he
theorem Uz{x:Expr}{pos:Pos}{whole:Sem Value}{st:St}{K:Bool->St->Prop}(h:T d7 w A B d8 aH (isTrue x d8 (Yw x d8)) st fun b e9=>K (!b) e9) :
  T d7 w A B d8 aH (isTrue (.UnaryOp .Not x pos) d8 whole) st K:=fun s Z S Q E hQ =>
 wpAny_isTrue_Not (h s Z S _ _ fun b c s' Z' e9 k S' V X=>hQ (!b) (!c) s' Z' e9 k S' (by unfold aH at V ⊢;rw[V]) X)
theorem UC{st:St}{K:Bool->St->Prop}(h:K true st):T d7 w A B d8 aH (allTrue .And [] d8) st K:=fun s Z S Q E hQ=>wpAny_allTrue_And_nil (hQ true true s Z st h S rfl .refl)
theorem Ux{st:St}{K:Bool->St->Prop}(h:K false st):T d7 w A B d8 aH (allTrue .Or [] d8) st K:=fun s Z S Q E hQ=>wpAny_allTrue_Or_nil (hQ false false s Z st h S rfl .refl)
theorem UD{x:Expr}{rest:List Expr}{st:St}{K:Bool->St->Prop}
  (h:T d7 w A B d8 aH (isTrue x d8 (Yw x d8)) st fun b e9=>if b then T d7 w A B d8 aH (allTrue .And rest d8) e9 K else K false e9):T d7 w A B d8 aH (allTrue .And (x::rest) d8) st K:=fun s Z S Q E hQ =>
 wpAny_allTrue_And_cons (h s Z S _ _ fun b c s' Z' e9 k S' V X=>by
  unfold aH at V
  subst V
  cases c with
  |true=>exact k s' Z' S' Q E fun b' c' z1 y0 l7 k' u7 V' X'=>hQ b' c' z1 y0 l7 k' u7 V' (X.trans X')
  |false=>exact hQ false false s' Z' e9 k S' rfl X)
theorem UB{op:BoolOp}{R6:List Expr}{pos:Pos}{whole:Sem Value}{st:St}{K:Bool->St->Prop}(h:T d7 w A B d8 aH (allTrue op R6 d8) st K) :
  T d7 w A B d8 aH (isTrue (.BoolOp op R6 pos) d8 whole) st K:=fun s Z S Q E hQ=>wpAny_isTrue_BoolOp (h s Z S Q E hQ)
theorem Ul{m9 body m7:Expr}{pos:Pos}{st:St}{K:AV->St->Prop}
  (h:T d7 w A B d8 aH (isTrue m9 d8 (Yw m9 d8)) st fun b e9=>if b then T d7 w A B d8 Val (Yw body d8) e9 K else T d7 w A B d8 Val (Yw m7 d8) e9 K) :
  T d7 w A B d8 Val (Yw (.IfExp m9 body m7 pos) d8) st K:=fun s Z S Q E hQ =>
 wpAny_IfExp (h s Z S _ _ fun b c s' Z' e9 k S' V X=>by
  unfold aH at V
  subst V
  cases c <;> exact k s' Z' S' Q E fun v x z1 y0 l7 k' u7 V' X'=>hQ v x z1 y0 l7 k' u7 V' (X.trans X'))
theorem Wl{a b:Int}{st:St}{K:AV->St->Prop}(h:K (.int (a+b)) st):F2 d7 w A B d8 Val (binaryOp .Add) (.int a) (.int b) st K:=F2.of fun s Z S Q E hQ=>Val.eInt fun O=>Val.eInt fun O=>PyProof.Rows.add_int (hQ _ _ _ Z st h (S.toks _) (.int _ _) (.toks _))
theorem VO{a b:Int}{st:St}{K:AV->St->Prop}(h:K (.int (a-b)) st):F2 d7 w A B d8 Val (binaryOp .Sub) (.int a) (.int b) st K:=F2.of fun s Z S Q E hQ=>Val.eInt fun O=>Val.eInt fun O=>PyProof.Rows.sub_int (hQ _ _ _ Z st h (S.toks _) (.int _ _) (.toks _))
theorem VX{a b:Int}{st:St}{K:AV->St->Prop}(hb:b≠0)(h:K (.int (a.fmod b)) st):F2 d7 w A B d8 Val (binaryOp .Mod) (.int a) (.int b) st K:=F2.of fun s Z S Q E hQ=>Val.eInt fun O=>Val.eInt fun O=>PyProof.Rows.mod_int hb (hQ _ _ _ Z st h (S.toks _) (.int _ _) (.toks _))
theorem Wj{a b:Int}{st:St}{K:AV->St->Prop}(h:K (.bool (a==b)) st):F2 d7 w A B d8 Val (Zx .Eq) (.int a) (.int b) st K:=F2.of fun s Z S Q E hQ=>Val.eInt fun O=>Val.eInt fun O=>PyProof.Rows.eq_int (hQ _ _ _ Z st h S (.bool _) .refl)
theorem VS{a b:Int}{st:St}{K:AV->St->Prop}(h:K (.bool (a != b)) st):F2 d7 w A B d8 Val (Zx .NotEq) (.int a) (.int b) st K:=F2.of fun s Z S Q E hQ=>Val.eInt fun O=>Val.eInt fun O=>PyProof.Rows.ne_int (hQ _ _ _ Z st h S (.bool _) .refl)
theorem VY{a b:Int}{st:St}{K:AV->St->Prop}(h:K (.bool (decide (a<b))) st):F2 d7 w A B d8 Val (Zx .Lt) (.int a) (.int b) st K:=F2.of fun s Z S Q E hQ=>Val.eInt fun O=>Val.eInt fun O=>PyProof.Rows.lt_int (hQ _ _ _ Z st h S (.bool _) .refl)
theorem Wf{a b:Int}{st:St}{K:AV->St->Prop}(h:K (.bool (decide (b<a))) st):F2 d7 w A B d8 Val (Zx .Gt) (.int a) (.int b) st K:=F2.of fun s Z S Q E hQ=>Val.eInt fun O=>Val.eInt fun O=>PyProof.Rows.gt_int (hQ _ _ _ Z st h S (.bool _) .refl)
theorem VZ{a b:Int}{st:St}{K:AV->St->Prop}(h:K (.bool (decide (a<=b))) st):F2 d7 w A B d8 Val (Zx .LtE) (.int a) (.int b) st K:=F2.of fun s Z S Q E hQ=>Val.eInt fun O=>Val.eInt fun O=>PyProof.Rows.le_int (hQ _ _ _ Z st h S (.bool _) .refl)
theorem Wg{a b:Int}{st:St}{K:AV->St->Prop}(h:K (.bool (decide (b<=a))) st):F2 d7 w A B d8 Val (Zx .GtE) (.int a) (.int b) st K:=F2.of fun s Z S Q E hQ=>Val.eInt fun O=>Val.eInt fun O=>PyProof.Rows.ge_int (hQ _ _ _ Z st h S (.bool _) .refl)
theorem Wi{a b:Str}{st:St}{K:AV->St->Prop}(h:K (.bool (a==b)) st):F2 d7 w A B d8 Val (Zx .Eq) (.str a) (.str b) st K:=F2.of fun s Z S Q E hQ=>Val.eStr fun O=>Val.eStr fun O=>PyProof.Rows.eq_str (hQ _ _ _ Z st h S (.bool _) .refl)
theorem VR{a b:Str}{st:St}{K:AV->St->Prop}(h:K (.bool (a != b)) st):F2 d7 w A B d8 Val (Zx .NotEq) (.str a) (.str b) st K:=F2.of fun s Z S Q E hQ=>Val.eStr fun O=>Val.eStr fun O=>PyProof.Rows.ne_str (hQ _ _ _ Z st h S (.bool _) .refl)
theorem Wk{a b:Str}{st:St}{K:AV->St->Prop}(hsz:a.length+b.length<=XK)(h:K (.str (a++b)) st):F2 d7 w A B d8 Val (binaryOp .Add) (.str a) (.str b) st K:=F2.of fun s Z S Q E hQ=>Val.eStr fun O=>Val.eStr fun O=>PyProof.Rows.add_str (fun t' tk=>hQ _ _ _ Z st h (S.toks _) (.str _ _) (.toks _)) hsz
theorem uH{b:Bool}{st:St}{K:Bool->St->Prop}(h:K b st):F1 d7 w A B d8 aH truthy (.bool b) st K:=F1.of fun s Z S Q E hQ=>Val.eBool <| wpAny_truthy_bool (hQ _ _ s Z st h S rfl .refl)
theorem Wn{i:Int}{st:St}{K:Bool->St->Prop}(h:K (i != 0) st):F1 d7 w A B d8 aH truthy (.int i) st K:=fun s Z x V S Q E hQ=>by
 cases V;exact PySem.P.truthy_int (hQ _ _ s Z st h S rfl .refl)
theorem cK{st:St}{K:g6->St->Prop}(h:K .next st):T d7 w A B d8 j5 (execs [] d8) st K:=fun s Z S Q E hQ=>wpAny_execs_nil (hQ _ _ s Z st h S .next .refl)
def IK(d7:Xh)(w:Xo)(A:Xg)(B:f9)(d8:Env)(rest:List Stmt)(K:g6->St->Prop)(f:g6)(e9:St):Prop :=
 match f with
 |.next=>T d7 w A B d8 j5 (execs rest d8) e9 K
 |f=>K f e9
theorem aC{x:Stmt}{rest:List Stmt}{st:St}{K:g6->St->Prop}
  (h:T d7 w A B d8 j5 (exec x d8) st (IK d7 w A B d8 rest K)):T d7 w A B d8 j5 (execs (x::rest) d8) st K:=fun s Z S Q E hQ =>
 wpAny_execs_cons (h s Z S _ _ fun f x s' Z' e9 k S' V X=>by
  induction V with
  |next=>exact k s' Z' S' Q E fun v y z1 y0 l7 k' u7 V' X'=>hQ v y z1 y0 l7 k' u7 V' (X.trans X')
  |brk=>exact hQ _ _ s' Z' e9 k S' .brk X
  |cont=>exact hQ _ _ s' Z' e9 k S' .cont X
  |ret hv=>exact hQ _ _ s' Z' e9 k S' (.ret hv) X)
theorem mf{m9:Expr}{body m7:List Stmt}{pos:Pos}{st:St}{K:g6->St->Prop}
  (h:T d7 w A B d8 aH (isTrue m9 d8 (Yw m9 d8)) st fun b e9=>if b then T d7 w A B d8 j5 (execs body d8) e9 K else T d7 w A B d8 j5 (execs m7 d8) e9 K) :
  T d7 w A B d8 j5 (exec (.If m9 body m7 pos) d8) st K:=fun s Z S Q E hQ =>
 wpAny_If (h s Z S _ _ fun b c s' Z' e9 k S' V X=>by
  unfold aH at V
  subst V
  cases c <;> exact k s' Z' S' Q E fun v y z1 y0 l7 k' u7 V' X'=>hQ v y z1 y0 l7 k' u7 V' (X.trans X'))
theorem TQ{e:Expr}{pos:Pos}{st:St}{K:g6->St->Prop}(h:T d7 w A B d8 Val (Yw e d8) st fun v e9=>K (.ret v) e9):T d7 w A B d8 j5 (exec (.Return (some e) pos) d8) st K:=fun s Z S Q E hQ =>
 wpAny_Return_some (h s Z S _ _ fun v x s' Z' e9 k S' V X=>hQ _ _ s' Z' e9 k S' (.ret V) X)
theorem TO{pos:Pos}{st:St}{K:g6->St->Prop}(h:K (.ret .none) st):T d7 w A B d8 j5 (exec (.Return none pos) d8) st K:=fun s Z S Q E hQ =>
 wpAny_Return_none (hQ _ _ s Z st h S (.ret .none) .refl)
theorem TR{pos:Pos}{st:St}{K:g6->St->Prop}(h:K .next st):T d7 w A B d8 j5 (exec (.Pass pos) d8) st K:=fun s Z S Q E hQ =>
 wpAny_Pass (hQ _ _ s Z st h S .next .refl)
noncomputable def cg:List (Str×AV)->Str->AV->List (Str×AV)
 | [],x,v=>[(x,v)]
 |(y,u)::r,x,v=>if x==y then (y,v)::r else (y,u)::cg r x v
theorem vM{y x:Str}{u v:AV}{r:List (Str×AV)}:cg ((y,u)::r) x v=if x==y then (y,v)::r else (y,u)::cg r x v:=rfl
theorem tn(x:Str)(v:AV):∀(l:List (Str×AV)) (y:Str),(cg l x v).lookup y=if y=x then some v else l.lookup y:=by
 intro t_
 induction t_ with
 |nil =>
  intro y
  show List.lookup y [(x,v)]=_
  rw[Xl]
  by_cases e:y=x
  ·subst e;simp
  ·have:(y==x)=false:=beq_eq_false_iff_ne.mpr e
   simp[this,e]
 |cons e_ r ih =>
  obtain⟨z,u⟩:=e_
  intro y
  rw[vM]
  by_cases q:x=z
  ·subst q
   simp only[beq_self_eq_true,if_true]
   rw[Xl,Xl]
   by_cases e:y=x
   ·subst e;simp
   ·have:(y==x)=false:=beq_eq_false_iff_ne.mpr e
    simp[this,e]
  ·have hq:(x==z)=false:=beq_eq_false_iff_ne.mpr q
   simp only[hq,XI,if_false]
   rw[Xl,Xl,ih y]
   by_cases e:y=z
   ·subst e
    have:y≠x:=fun h=>q h.symm
    simp[this]
   ·have:(y==z)=false:=beq_eq_false_iff_ne.mpr e
    simp[this]
theorem zv{x:Str}{v:AV}{loc:List (Str×AV)}{led:aa}{K:Unit->St->Prop}(hk:d8.kindOf x=some .local){l:List (Str×AV)}(hl:cg loc x v=l)(h:K () ⟨l,led⟩) :
  F1 d7 w A B d8 aJ (b0 d8 x) v ⟨loc,led⟩ K:=fun s Z u V S Q E hQ=>by
 subst hl
 generalize m8:(⟨loc,led⟩:St)=st at *
 have h:K () ⟨cg st.loc x v,st.led⟩:=by subst m8;exact h
 refine ad S.loc fun f hn hr=>?_
 refine wpAny_storeName_local hk hn (fun h' H4 y3=>?_) (by rw[S.fn];rfl)
 have keep:∀b o,b≠d8.locals->s.heap.get? b=some o->h'.get? b=some o:=fun b o hb e=>(y3.2 b hb).trans e
 refine hQ () () _ Z ⟨cg st.loc x v,st.led⟩ h ⟨⟨S.base,fun a o e=>keep a o (fun q=>?_) (S.frozen a o e),S.nodup,S.apart,fun p hp=>(S.own p hp).mono (.refl _) (fun o e=>keep _ o (fun q=>?_) e) (fun O O O e=>e),S.gnodup,S.bare⟩,S.locZ,S.locL,
  ⟨_,H4,fun y=>?_⟩,fun y u' e=>?_,S.fn⟩ trivial ⟨.refl _,fun a o e ha=>keep a o (fun q=>ha (.inl q)) e,fun a ha => .inl ha,fun O O e => .inl e,rfl,fun O O e O=>e,fun O h => .inl h⟩
 ·rw[q,S.locZ] at e;cases e
 ·exact S.locL (q▸Xm hp)
 ·rw[tn]
  by_cases e:y=x
  ·simp only[e,if_true];exact .some V
  ·simp only[e,if_false];exact hr y
 ·rw[tn] at e
  by_cases q:y=x
  ·exact(Eq.symm (q))▸hk
  ·simp only[q,if_false] at e;exact S.kinds y u' e
theorem gI{x:Str}{F6 pos:Pos}{value:Expr}{st:St}{K:g6->St->Prop}
  (h:T d7 w A B d8 Val (Yw value d8) st fun v j9=>F1 d7 w A B d8 aJ (b0 d8 x) v j9 fun O m5=>K .next m5)
  (hs:swapsWith value (some (.Name x F6)) pos.line d8=YV false) :
  T d7 w A B d8 j5 (exec (.Assign [.Name x F6] value pos) d8) st K:=fun s Z S Q E hQ =>
 wpAny_Assign_Name (h s Z S _ _ fun v m6 s₁ Z1 j9 k₁ S1 V1 X1=>k₁ s₁ Z1 m6 V1 S1 _ _ fun O O s' Z' e9 k S' O X=>hQ _ _ s' Z' e9 k S' .next (X1.trans X)) hs
theorem TX{x:Str}{F6 pos:Pos}{op:Operator}{value:Expr}{loc:List (Str×AV)}{led:aa}{v₀:AV}{K:g6->St->Prop}(hx:loc.lookup x=some v₀)(U4:v₀.isAny=false)
  (h:T d7 w A B d8 Val (Yw value d8) ⟨loc,led⟩ fun v j9=>F2 d7 w A B d8 Val (inplaceOp op) v₀ v j9 fun r m5=>F1 d7 w A B d8 aJ (b0 d8 x) r m5 fun O u6=>K .next u6) :
  T d7 w A B d8 j5 (exec (.AugAssign (.Name x F6) op value pos) d8) ⟨loc,led⟩ K:=fun s Z S Q E hQ =>
 ad S.loc fun f hn hr=>ad (l6.val (hx▸hr x) U4) fun u M7 hv =>
 wpAny_AugAssign_Name (wpAny_loadName_local S.fn (S.kinds x v₀ hx) hn M7 (h s Z S _ _ fun O m6 s₁ Z1 O k₁ S1 V1 X1=>k₁ s₁ Z1 u m6 (hv.mono X1.le) V1 S1 _ _
  fun O x2 s2 Z2 O k2 S2 V2 X2=>k2 s2 Z2 x2 V2 S2 _ _ fun O O s' Z' e9 k S' O X=>hQ _ _ s' Z' e9 k S' .next ((X1.trans X2).trans X)))
theorem We{a b:Int}{st:St}{K:AV->St->Prop}(h:K (.int (a+b)) st):F2 d7 w A B d8 Val (inplaceOp .Add) (.int a) (.int b) st K:=F2.of fun s Z S Q E hQ=>Val.eInt fun O=>Val.eInt fun O=>PyProof.Rows.iadd_int (hQ _ _ _ Z st h (S.toks _) (.int _ _) (.toks _))
theorem Wb{a b:Int}{st:St}{K:AV->St->Prop}(h:K (.int (a-b)) st):F2 d7 w A B d8 Val (inplaceOp .Sub) (.int a) (.int b) st K:=F2.of fun s Z S Q E hQ=>Val.eInt fun O=>Val.eInt fun O=>PyProof.Rows.isub_int (hQ _ _ _ Z st h (S.toks _) (.int _ _) (.toks _))
theorem xS(x y:Str):∀loc:List (Str×AV),(loc++[(x,AV.any)]).lookup y=loc.lookup y∨(y=x/\(loc++[(x,AV.any)]).lookup y=some .any)
 | []=>by
  by_cases e:y=x
  ·subst e
   right
   refine⟨rfl,?_⟩
   show List.lookup y [(y,AV.any)]=_
   rw[Xl,beq_self_eq_true]
  ·left
   have:(y==x)=false:=beq_eq_false_iff_ne.mpr e
   show List.lookup y [(x,AV.any)]=_
   rw[Xl,this]
 |p::l=>by
  rw[WZ,Xl,Xl]
  cases y==p.1 with
  |true=>exact .inl rfl
  |false=>exact xS x y l
theorem g8.spare{s:WS}{Z:f9}{loc:List (Str×AV)}{led:aa}(x:Str)(hk:d8.kindOf x=some .local)(S:g8 B d8 s Z ⟨loc,led⟩):g8 B d8 s Z ⟨loc++[(x,.any)],led⟩:=by
 refine⟨S.tof1,S.locZ,S.locL,?_,fun y v e=>?_,S.fn⟩
 ·refine ad S.loc fun f hn hr=>?_
  refine bb f hn (fun y=>?_)
  rcases xS x y loc with h |⟨_,h⟩
  ·show l6 Z ((loc++[(x,AV.any)]).lookup y) (f y)
   exact(Eq.symm (h))▸hr y
  ·show l6 Z ((loc++[(x,AV.any)]).lookup y) (f y)
   exact(Eq.symm (h))▸.any
 ·rcases xS x y loc with h |⟨h,_⟩
  ·exact S.kinds y v (by exact(h)▸e)
  ·exact(Eq.symm (h))▸hk
theorem T.spare{α β:Type}{rel:f9->α->β->Prop}{t:Sem β}{loc:List (Str×AV)}{led:aa}{K:α->St->Prop}(x:Str)(hk:d8.kindOf x=some .local)(h:T d7 w A B d8 rel t ⟨loc++[(x,.any)],led⟩ K):T d7 w A B d8 rel t ⟨loc,led⟩ K :=
 fun s Z S Q E hQ=>h s Z (S.spare x hk) Q E hQ
theorem T.spares{α β:Type}{rel:f9->α->β->Prop}{t:Sem β}{led:aa}{K:α->St->Prop}(xs:List Str){loc:List (Str×AV)}(hk:(xs.all fun x=>decide (d8.kindOf x=some .local))=true)(h:T d7 w A B d8 rel t ⟨loc++xs.map fun x=>(x,.any),led⟩ K):T d7 w A B d8 rel t ⟨loc,led⟩ K:=by
 induction xs generalizing loc with
 |nil=>rw[ZL,Yi] at h;exact h
 |cons x xs ih =>
  rw[List.all_cons,Yl] at hk
  exact T.spare x (of_decide_eq_true hk.1) (ih hk.2 (by rw[Xv];exact h))
end
variable {st:St}{w:Xo}{A:Xg}{Z B:f9}{d7:Xh}{s:WS}{n i k j f2 alo f6:Nat}{d8:Env}{x y name:Str}{v:AV}{a d it C:XC}{pos:Pos}{K R:AV->St->Prop}{loc kw binds l G g9:List (Str×AV)}{xs args f0 ys:List AV}{α β:Type}{E Q:Value->WS->Prop}{e8 iter:Expr}{o:Obj}{body:List Stmt}{e:Nat->Nat->Bool}{P:Prop}{vs:List Value}{elts:List Expr}{d9:List Int}{J:List (Str×AV)->Prop}{r:List (Str×Value)}
inductive j4 (Z:f9):List (Str×AV)->List (Str×Value)->Prop
 |nil:j4 Z [] []
 |cons {k:Str} {v:AV} {x:Value} {l:List (Str×AV)} {r:List (Str×Value)}:Val Z v x->j4 Z l r->j4 Z ((k,v)::l) ((k,x)::r)
theorem j4.un0{P:List (Str×Value)->Prop}(k:P [])(xs:List (Str×Value))(h:j4 Z [] xs):P xs:=by cases h;exact k
theorem j4.mono{Z':f9}(k:f9.le Z Z')(h:j4 Z l r):j4 Z' l r:=by
 induction h with
 |nil=>exact .nil
 |cons v _ ih=>exact .cons (v.mono k) ih
theorem j4.lookup(h:j4 Z l r)(y:Str):l6 Z (l.lookup y) (r.lookup y):=by
 induction h with
 |nil=>exact .none
 | @cons k v x l r hv _ ih =>
  rw[Xl,Xl];cases e:(y==k) with
  |true=>exact .some hv
  |false=>exact ih
theorem j4.keys(h:j4 Z l r):r.map (·.1)=l.map (·.1):=by
 induction h with
 |nil=>rfl
 |cons _ _ ih=>simp only[WY,ih]
theorem j4.append{l':List (Str×AV)}{r':List (Str×Value)}(h:j4 Z l r)(h':j4 Z l' r'):j4 Z (l++l') (r++r'):=by
 induction h with
 |nil=>exact h'
 |cons v _ ih=>exact .cons v ih
theorem j4.reverse(h:j4 Z l r):j4 Z l.reverse r.reverse:=by
 induction h with
 |nil=>exact .nil
 |cons v _ ih=>rw[Xw,Xw];exact ih.append (.cons v .nil)
theorem j4.zip(ks:List Str){vs:List AV}{xs:List Value}(h:Vals Z vs xs):j4 Z (ks.zip vs) (ks.zip xs) :=
 h.ind (P:=fun vs xs=>∀ks:List Str,j4 Z (ks.zip vs) (ks.zip xs)) (fun ks=>by rw[List.zip_nil_right,List.zip_nil_right];exact .nil) (fun h O t ks=>by
  cases ks with
  |nil=>exact .nil
  |cons k ks=>exact .cons h (t ks)) ks
def HR(B:f9)(led:aa)(K:AV->aa->Prop)(s:WS)(Z:f9)(R:Result->WS->Prop):Prop :=
 ∀v x s' Z' led',K v led'->f1 B s' Z' led'->Val Z' v x->k8 (ah led) s Z s' Z' (ah led')->R (.ok (.ret x)) s'
def TC(d7:Xh)(w:Xo)(A:Xg)(B:f9)(f:AV)(args:List AV)(kw:List (Str×AV))(led:aa)(K:AV->aa->Prop):Prop :=
 ∀(s:WS) (Z:f9) (fx:Value) (xs:List Value) (ks:List (Str×Value)),f1 B s Z led->Val Z f fx->Vals Z args xs->j4 Z kw ks->∀(R:Result->WS->Prop),
  HR B led K s Z R->codeAny (Xn d7 w) A (.call fx ⟨xs,ks⟩) R s
def hM(R:AV->aa->Prop)(fl:g6)(e9:St):Prop :=
 match fl with
 |.ret v=>R v e9.led
 |_=>R .none e9.led
theorem g8.after{s':WS}{Z':f9}{led':aa}(S:g8 B d8 s Z st)(L:f1 B s' Z' led')(X:k8 (ah st.led) s Z s' Z' (ah led')):g8 B d8 s' Z' ⟨st.loc,led'⟩:=by
 refine ad S.loc fun f hn hr=>?_;refine jq (id hn) fun ob es ep g O=>?_;refine⟨L,?_,fun h=>?_,z5.mono X.le (fun o e=>X.kept _ o e S.locL) S.loc,S.kinds,S.fn⟩
 ·cases e:Z' d8.locals with
  |none=>rfl
  |some o =>
   rcases X.zgrow _ o e with q |q |q
   ·rw[S.locZ] at q;cases q
   ·exact absurd q S.locL
   ·rw[g] at q;cases q
 ·rcases X.grow _ h with q |q
  ·exact S.locL q
  ·rw[g] at q;cases q
theorem k8.toF{s':WS}{Z':f9}{led':aa}(X:k8 (ah st.led) s Z s' Z' (ah led')):k8 (aw d8 st) s Z s' Z' (aw d8 ⟨st.loc,led'⟩) where
 le:=X.le
 kept:=fun a o e h=>X.kept a o e fun q=>h (.inr q)
 grow:=fun a h=>by
  rcases h with h |h
  ·exact .inl (.inl h)
  ·exact(X.grow a h).imp .inr id
 zgrow:=fun a o e=>(X.zgrow a o e).imp id (Or.imp .inr id)
 os:=X.os
 gkept:=X.gkept
 ggrow:=X.ggrow
structure m3 (B:f9):Prop where
 lim:∀s:WS,(∀a o,B a=some o->s.heap.get? a=some o)->s.heap.NoLimit
noncomputable def cy(scope:Scope)(L g:XC)(cells:List (Str×XC))(qual:Str)(f:XC)(cd:Value)(bi:XC):Env :=
 { scope,locals:=L,globals:=g,cells,qual:=qual ++ ".<locals>.",func:=some f,code:=cd,frame:=some L,builtins:=bi}
def Binds(d7:Xh)(w:Xo)(A:Xg)(B:f9)(fd:a8)(args:List AV)(kw binds:List (Str×AV)):Prop :=
 ∀(s:WS) (Z:f9) (led:aa) (xs:List Value) (ks:List (Str×Value)),f1 B s Z led->Vals Z args xs->j4 Z kw ks ->
  ∀(Q:List (Str×Value)->WS->Prop) (E:Value->WS->Prop),(∀bs s' Z',f1 B s' Z' led->j4 Z' binds bs->k8 (ah led) s Z s' Z' (ah led)->Q bs s')->Xq (Xn d7 w) A (bindArgs fd ⟨xs,ks⟩) Q E s
theorem fk(s:WS):s.heap.get? s.heap.objs.size=none:=by
 cases e:s.heap.get? s.heap.objs.size with
 |none=>rfl
 |some o=>exact absurd (XT e) (Zh _)
section
variable{s s₁:WS}{led:aa}
theorem f1.zfree(S:f1 B s Z led)(h:s.heap.get? a=none):Z a=none:=by
 cases e:Z a with
 |none=>rfl
 |some o=>exact nomatch h.symm.trans (S.frozen a o e)
theorem f1.lfree(S:f1 B s Z led)(h:s.heap.get? a=none):a∉keys led:=fun q =>
 ad (Xu.mp q) fun p hp e=>ak (S.own p hp).live fun ob g=>nomatch (show none=some ob from(e.symm▸h:s.heap.get? p.1=none).symm.trans g)
theorem f1.zfresh(S:f1 B s Z led):Z s.heap.objs.size=none:=S.zfree (fk s)
theorem f1.lfresh(S:f1 B s Z led):s.heap.objs.size∉keys led:=S.lfree (fk s)
theorem f1.keep(S:f1 B s Z led)(k:∀b o,s.heap.get? b=some o->s₁.heap.get? b=some o)(g:∀(n:Nat) (gs:ZQ),s.gens[n]?=some gs->s₁.gens[n]?=some gs)(b:∀x∈s₁.gens,x.bare=true):f1 B s₁ Z led :=
 ⟨S.base,fun a o e=>k a o (S.frozen a o e),S.nodup,S.apart,fun p hp=>(S.own p hp).mono (.refl _) (fun o e=>k _ o e) fun n gs O e=>g n gs e,S.gnodup,b⟩
theorem f1.cons{o:i9}(S:f1 B s Z led)(ha:a∉keys led)(hz:Z a=none)(hh:Holds Z s a o)(hg:(gkeys ((a,o)::led)).Nodup):f1 B s Z ((a,o)::led) :=
 ⟨S.base,S.frozen,Xj.mpr ⟨ha,S.nodup⟩,fun p hp=>(WT.mp hp).elim (fun e=>e▸hz) (S.apart p),fun p hp=>(WT.mp hp).elim (fun e=>e▸hh) (S.own p),hg,S.bare⟩
theorem yJ(k:∀b o,s.heap.get? b=some o->s₁.heap.get? b=some o)(h:s₁.heap.get? a=none):s.heap.get? a=none:=by
 cases e:s.heap.get? a with
 |none=>rfl
 |some o=>exact nomatch h.symm.trans (k a o e)
theorem NU(e:l.lookup x=some v):x∈l.map (·.1):=by
 induction l with
 |nil=>exact nomatch e
 |cons p l ih =>
  rw[Xl] at e;cases q:(x==p.1) with
  |true=>exact beq_iff_eq.mp q▸WM ..
  |false=>rw[q] at e;exact WO _ (ih e)
theorem CE(e:l.reverse.lookup x=some v):x∈l.map (·.1):=List.mem_reverse.mp (List.map_reverse▸NU e)
theorem g8.enter{bs:List (Str×Value)}(L:f1 B s Z led)(hZ:Z d8.locals=none)(hL:d8.locals∉keys led)(C9:s.heap.Ns d8.locals fun y=>bs.reverse.lookup y)(G1:j4 Z binds bs)
  (u8:∀x∈binds.map (·.1),d8.kindOf x=some .local) (hk:d8.scope.kind=.function):g8 B d8 s Z ⟨binds.reverse,led⟩ :=
 ⟨L,hZ,hL,⟨_,C9,fun y=>G1.reverse.lookup y⟩,fun x O e=>u8 x (CE e),hk⟩
theorem k8.inner{o8:aa}{h1:Heap}{tk:Nat}{s':WS}{Z':f9}{e9:St}(X:k8 (aw d8 ⟨loc,o8⟩) {s with heap:=h1,toks:=tk} Z s' Z' (aw d8 e9))(k:∀b o,s.heap.get? b=some o->h1.get? b=some o)
  (own:∀a,a=d8.locals∨a∈keys o8->a∈keys led∨s.heap.get? a=none) (g:gkeys o8=gkeys led):k8 (ah led) s Z s' Z' (ah e9.led) where
 le:=X.le
 kept:=fun a o e ha=>X.kept a o (k a o e) fun q=>(own a q).elim ha fun n=>nomatch n.symm.trans e
 grow:=fun a ha=>(X.grow a (.inr ha)).elim (own a) fun n => .inr (yJ (s₁:={ s with heap:=h1,toks:=tk}) k n)
 zgrow:=fun a o e=>(X.zgrow a o e).elim .inl fun q => .inr (q.elim (own a) fun n => .inr (yJ (s₁:={ s with heap:=h1,toks:=tk}) k n))
 os:=X.os
 gkept:=fun n gs e h=>X.gkept n gs e fun q=>h (show n∈gkeys led from g▸(show n∈gkeys o8 from q))
 ggrow:=fun n h=>(X.ggrow n h).imp_left fun q=>(show n∈gkeys led from g▸(show n∈gkeys o8 from q))
theorem HR.after{s':WS}{Z':f9}{K:AV->aa->Prop}{R:Result->WS->Prop}(hR:HR B led K s Z R)(X:k8 (ah led) s Z s' Z' (ah led)):HR B led K s' Z' R:=fun v x O O led' k S' V X'=>hR v x _ _ led' k S' V (X.trans X')
theorem CO{o8:aa}{h1:Heap}{tk:Nat}{K:AV->aa->Prop}{R:Result->WS->Prop}{Q:Flow->WS->Prop}(hR:HR B led K s Z R)(k:∀b o,s.heap.get? b=some o->h1.get? b=some o)
  (own:∀a,a=d8.locals∨a∈keys o8->a∈keys led∨s.heap.get? a=none) (g:gkeys o8=gkeys led) (hq:∀x s',R (.ok (.ret x)) s'->Q (.ret x) s') (hn:∀s',R (.ok (.ret .none)) s'->Q .next s'/\Q .brk s'/\Q .cont s') :
  HQ B d8 j5 ⟨loc,o8⟩ (hM K) {s with heap:=h1,toks:=tk} Z Q:=fun fl x s' Z' e9 k' S' V X=>by
 have X':=k8.inner X k own g;induction V with
 |next=>exact(hn _ (hR _ _ s' Z' e9.led k' S'.tof1 .none X')).1
 |brk=>exact(hn _ (hR _ _ s' Z' e9.led k' S'.tof1 .none X')).2.1
 |cont=>exact(hn _ (hR _ _ s' Z' e9.led k' S'.tof1 .none X')).2.2
 |ret hv=>exact hq _ _ (hR _ _ s' Z' e9.led k' S'.tof1 hv X')
end
theorem AN{f:XC}{fd:a8}{led:aa}{K:AV->aa->Prop}{c:XC}{oc:Obj}{vs:Array Value}{tq:Tok}{xs:List Value}{ks:List (Str×Value)}{R:Result->WS->Prop}
  (hG:m3 B) (ho:s.heap.get? f=some o) (hd:o.data=.func fd) (C6:fd.scope.isCoroutine=false) (M6:fd.scope.isGenerator=false) (hk:fd.scope.kind=.function) (y5:fd.body=.stmts body)
  (o5:∀x∈fd.scope.names,x.2 ≠ .cell)
  (hc:fd.code=.ref c) (I7:s.heap.get? c=some oc) (A5:oc.data=.fields vs) (hq:vs[1]?=some (.str fd.qualname tq)) (n9:A.depth<YU)
  (hb:Binds d7 w A.in1 B fd args kw binds) (u8:∀x∈binds.map (·.1),fd.scope.names.lookup x=some .local)
  (h:∀L,L∉keys led->T d7 w (A.deeper (cy fd.scope L fd.globals fd.closure fd.qualname f fd.code fd.builtins)) B (cy fd.scope L fd.globals fd.closure fd.qualname f fd.code fd.builtins) j5
   (execs body (cy fd.scope L fd.globals fd.closure fd.qualname f fd.code fd.builtins)) ⟨binds.reverse,led⟩ (hM K))
  (S:f1 B s Z led) (hx:Vals Z args xs) (H5:j4 Z kw ks) (hR:HR B led K s Z R):codeAny (Xn d7 w) A (.call (.ref f) ⟨xs,ks⟩) R s:=by
 refine codeAny_call_function n9 ho hd C6 M6 y5 ⟨c,oc,vs,tq,hc,I7,A5,hq⟩ (hb s Z led xs ks S hx H5 _ _ fun bs s₁ Z1 S1 G1 X1=>?_);have hR1:=hR.after X1;refine wpAny_newFunctionEnv (around:=none) o5 (fun x hx=>u8 x.1 (G1.keys▸Xm hx)) (fun h1 C9 y3=>?_) hk;have keep:∀b o,s₁.heap.get? b=some o->h1.get? b=some o:=fun b o e=>y3.extBut b o (Ys (XT e)) (WX _ e);have hf:=fk s₁;exact⟨hG.lim _ fun a o e=>keep a o (S1.frozen a o (S1.base a o e)),show codeAny _ A (.func body (cy fd.scope s₁.heap.objs.size fd.globals fd.closure fd.qualname f fd.code fd.builtins)) R _ from
  codeAny_func (h _ (S1.lfree hf) _ Z1 (g8.enter (S1.keep (s₁:={ s₁ with heap:=h1,toks:=s₁.toks+bs.length}) keep (fun O O e=>e) S1.bare) (S1.zfree hf) (S1.lfree hf) C9 G1 u8 hk) _ _ (CO hR1 keep (fun a q=>q.elim (fun e => .inr (e▸hf)) .inl) rfl (fun O O h=>h) fun O h=>⟨h,h,h⟩))⟩
theorem Uu{f:XC}{fd:a8}{led:aa}{K:AV->aa->Prop}{c:XC}{oc:Obj}{vs:Array Value}{tq:Tok}
  (hG:m3 B) (ho:B f=some o) (hd:o.data=.func fd) (C6:fd.scope.isCoroutine=false) (M6:fd.scope.isGenerator=false) (hk:fd.scope.kind=.function) (y5:fd.body=.stmts body)
  (o5:∀x∈fd.scope.names,x.2 ≠ .cell)
  (hc:fd.code=.ref c) (I7:B c=some oc) (A5:oc.data=.fields vs) (hq:vs[1]?=some (.str fd.qualname tq)) (n9:A.depth<YU)
  (hb:Binds d7 w A.in1 B fd args kw binds) (u8:∀x∈binds.map (·.1),fd.scope.names.lookup x=some .local)
  (h:∀L,L∉keys led->T d7 w (A.deeper (cy fd.scope L fd.globals fd.closure fd.qualname f fd.code fd.builtins)) B (cy fd.scope L fd.globals fd.closure fd.qualname f fd.code fd.builtins) j5
   (execs body (cy fd.scope L fd.globals fd.closure fd.qualname f fd.code fd.builtins)) ⟨binds.reverse,led⟩ (hM K)) :
  TC d7 w A B (.ref f) args kw led K:=fun s Z fx xs ks S hf hx H5 R hR=>by
 exact Val.eRef (P:=fun fx=>codeAny (Xn d7 w) A (.call fx ⟨xs,ks⟩) R s) (AN hG (S.frozen _ _ (S.base _ _ ho)) hd C6 M6 hk y5 o5 hc (S.frozen _ _ (S.base _ _ I7)) A5 hq n9 hb u8 h S hx H5 hR) fx hf
section
variable{s s':WS}{Z Z':f9}{gl gl' led:aa}
theorem fR:a∈keys (gl++led)↔a∈keys gl∨a∈keys led:=by unfold keys;rw[Xr,XR]
theorem DB:gkeys (gl++led)=gkeys gl++gkeys led:=ZC
theorem f1.live(S:f1 B s Z led)(h:a∈keys led):∃ob,s.heap.get? a=some ob:=ad (Xu.mp h) fun p hp e=>e▸(S.own p hp).live
theorem f1.zkey(S:f1 B s Z led)(h:a∈keys led):Z a=none:=ad (Xu.mp h) fun p hp e=>e▸S.apart p hp
theorem f1.tail(S:f1 B s Z (gl++led))(h:a∈keys led):a∉keys gl:=fun q =>
 (List.nodup_append.mp (Xr▸S.nodup:(keys gl++keys led).Nodup)).2.2 a q a h rfl
theorem f1.step(S:f1 B s Z (gl++led))(le:f9.le Z Z')(keep:∀b o,b∉keys gl->s.heap.get? b=some o->s'.heap.get? b=some o)
  (zn:∀a o,Z' a=some o->Z a=some o∨(s.heap.get? a=none/\s'.heap.get? a=some o)) (own:∀p∈gl',Holds Z' s' p.1 p.2)
  (kn:∀a∈keys gl',a∈keys gl∨(s.heap.get? a=none/\Z' a=none)) (nd:(keys gl').Nodup) (hg:(gkeys gl').Sublist (gkeys gl)) (G7:s'.gens=s.gens) (t7:s'.os=s.os) :
  f1 B s' Z' (gl'++led)/\k8 (ah (gl++led)) s Z s' Z' (ah (gl'++led)):=by
 have zk:∀a,a∈keys (gl++led)->Z' a=none:=fun a h=>by
  cases e:Z' a with
  |none=>rfl
  |some o=>exact(zn a o e).elim (fun q=>nomatch (S.zkey h).symm.trans q) fun q=>ak (S.live h) fun ob g=>nomatch q.1.symm.trans g
 have ì:(gkeys (gl'++led)).Sublist (gkeys (gl++led)):=by rw[DB,DB];exact hg.append (.refl _)
 have nd2:=List.nodup_append.mp (Xr▸S.nodup:(keys gl++keys led).Nodup);refine⟨⟨S.base.trans le,fun a o e=>(zn a o e).elim (fun q=>keep a o (fun y=>nomatch (S.zkey (fR.mpr (.inl y))).symm.trans q) (S.frozen a o q)) And.right,?_,fun p hp=>?_,fun p hp=>?_,ì.nodup S.gnodup,G7▸S.bare⟩,
  ⟨le,fun a o e ha=>keep a o (fun y=>ha (fR.mpr (.inl y))) e,fun a ha=>(fR.mp ha).elim (fun q=>(kn a q).imp (fun y=>fR.mpr (.inl y)) And.left) fun q => .inl (fR.mpr (.inr q)),
   fun a o e=>(zn a o e).imp id fun q => .inr q.1,t7,fun g gs e O=>G7▸e,fun g h => .inl (show g∈gkeys (gl++led) from ì.subset (show g∈gkeys (gl'++led) from h))⟩⟩
 ·unfold keys;rw[Xr];exact List.nodup_append.mpr ⟨nd,nd2.2.1,fun a ha b hb e=>(kn a ha).elim (fun q=>nd2.2.2 a q b hb e) fun q=>ak (S.live (fR.mpr (.inr (e▸hb)))) fun ob g=>nomatch q.1.symm.trans g⟩
 ·exact(XR.mp hp).elim (fun q=>(kn _ (Xm q)).elim (fun y=>zk _ (fR.mpr (.inl y))) And.right) fun q=>zk _ (fR.mpr (.inr (Xm q)))
 ·exact(XR.mp hp).elim (own p) fun q=>Holds.mono (s:=s) le (fun o e=>keep _ o (S.tail (Xm q)) e) (fun O O O e=>G7▸e) (S.own p (Xx _ q))
theorem f1.stepS(S:f1 B s Z (gl++led))(keep:∀b o,b∉keys gl->s.heap.get? b=some o->s'.heap.get? b=some o)(own:∀p∈gl',Holds Z s' p.1 p.2)(hk:keys gl'=keys gl)(hg:gkeys gl'=gkeys gl)(G7:s'.gens=s.gens)(t7:s'.os=s.os) :
  f1 B s' Z (gl'++led)/\k8 (ah (gl++led)) s Z s' Z (ah (gl'++led)) :=
 S.step (.refl _) keep (fun O O e => .inl e) own (fun O h => .inl (hk▸h)) (hk▸(List.nodup_append.mp (Xr▸S.nodup:(keys gl++keys led).Nodup)).1) (hg▸.refl _) G7 t7
theorem f1.stepE(S:f1 B s Z (gl++led))(keep:∀b o,b∉keys gl->s.heap.get? b=some o->s'.heap.get? b=some o)(G7:s'.gens=s.gens)(t7:s'.os=s.os) :
  f1 B s' Z led/\k8 (ah (gl++led)) s Z s' Z (ah led) :=
 S.step (gl':=[]) (.refl _) keep (fun O O e => .inl e) (fun O h=>absurd h YM) (fun O h=>absurd h YM) List.nodup_nil (List.nil_sublist _) G7 t7
end
theorem f1.newAt{led:aa}(S:f1 B s Z led){h':Heap}{ao:i9}(I9:ao.gnum=none)(tk:Nat)(keep:∀b o,s.heap.get? b=some o->h'.get? b=some o)
  (hh:Holds Z {s with heap:=h',toks:=tk} s.heap.objs.size ao) :
  f1 B {s with heap:=h',toks:=tk} Z ((s.heap.objs.size,ao)::led)/\k8 (ah led) s Z {s with heap:=h',toks:=tk} Z (ah ((s.heap.objs.size,ao)::led)) :=
 f1.step (gl:=[]) (gl':=[(s.heap.objs.size,ao)]) S (.refl _) (fun b o O=>keep b o) (fun O O e => .inl e) (fun p hp=>Xi.mp hp▸hh) (fun a ha => .inr (Xi.mp ha▸⟨fk s,S.zfresh⟩))
  (Xj.mpr ⟨YM,List.nodup_nil⟩) (by unfold gkeys;rw[Yy,I9];exact .refl _) rfl rfl
theorem xX{I:XC}{v:Value}{n:String}{vs:Array Value}{Q:Unit->WS->Prop}(ho:s.heap.get? I=some o)(hc:o.cls=.type n)(hd:o.data=.fields vs)
  (hn:n = "list_iterator" ∨ n = "tuple_iterator" ∨ n = "range_iterator") (hQ:Q () s):Xq (Xn d7 w) A (Yg e8 (.ref I) v) Q E s:=by
 have key:∀a,Xq (Xn d7 w) A (Yg (.Tuple [] 0 default) (.ref I) (.ref a)) Q E s:=fun a=>by
  refine WL (wpAny_load ho ?_);rw[hc,hd];refine aY (fun q=>?_) (WN hQ);rcases hn with rfl |rfl |rfl <;> exact absurd (Bool.and_eq_true_iff.mp q).1 (by decide)
 cases e8
 case Tuple=>cases v <;> first |exact WN hQ |exact key _
 case List=>cases v <;> first |exact WN hQ |exact key _
 all_goals exact WN hQ
def bc(B:f9)(x:Str)(v:AV):Prop :=
 ∀(M:Model) (A:Xg) (s:WS) (Z:f9) (d8:Env),f9.le B Z->(∀a o,Z a=some o->s.heap.get? a=some o)->d8.globals=YD->d8.builtins=Zm->∀(Q:Value->WS->Prop) (E:Value->WS->Prop),
  (∀u,Val Z v u->Q u s)->Xq M A (loadGlobal d8 x) Q E s
theorem sR{es:Array DictEntry}{ep:Nat}(hB:B a=some o)(hd:o.data=.dict es ep)(hk:StrKeys es)(le:f9.le B Z)(fr:∀a o,Z a=some o->s.heap.get? a=some o) :
  s.heap.Ns a (nsFind es):=⟨o,es,ep,fr _ _ (le _ _ hB),hd,hk,fun O=>rfl⟩
theorem eQ{u:Value}{es:Array DictEntry}{ep:Nat}(hB:B YD=some o)(hd:o.data=.dict es ep)(hk:StrKeys es)(e:nsFind es x=some u)(hv:∀Z,Val Z v u):bc B x v :=
 fun M A s Z d8 le fr hg hb Q E hQ=>Calls.loadGlobal_global (by rw[hg];exact sR hB hd hk le fr) e (hQ u (hv Z))
theorem cR{u:Value}{o':Obj}{es es':Array DictEntry}{ep ù:Nat}(hB:B YD=some o)(hd:o.data=.dict es ep)(hk:StrKeys es)(e:nsFind es x=none)
  (P9:B Zm=some o') (U2:o'.data=.dict es' ù) (M_:StrKeys es') (e':nsFind es' x=some u) (hv:∀Z,Val Z v u):bc B x v :=
 fun M A s Z d8 le fr hg hb Q E hQ=>Calls.loadGlobal_builtin (by rw[hg];exact sR hB hd hk le fr) e (by rw[hb];exact sR P9 U2 M_ le fr) e' (hQ u (hv Z))
theorem Fc(hx:bc B x v)(hk:d8.kindOf x=some .globalImplicit)(hg:d8.globals=YD)(hb:d8.builtins=Zm)
  (hd:(x==("__debug__" : Str))=false) (h:K v st):T d7 w A B d8 Val (Yw (.Name x pos) d8) st K:=fun s Z S Q E hQ =>
 Calls.Name_function_global S.fn hk (hx _ _ s Z d8 S.base S.frozen hg hb _ _ fun u V=>hQ v u s Z st h S V .refl) hd
theorem pC{K:List AV->St->Prop}(h:K [] st):T d7 w A B d8 Vals (spliced (Zy pos (XV [] d8))) st K:=fun s Z S Q E hQ=>Calls.spliced_nil (hQ _ _ s Z st h S .nil .refl)
theorem Fj{e:Expr}{rest:List Expr}{K:List AV->St->Prop}(hs:XV (e::rest) d8=(false,Yw e d8)::XV rest d8)
  (h:T d7 w A B d8 Val (Yw e d8) st fun v j9=>T d7 w A B d8 Vals (spliced (Zy pos (XV rest d8))) j9 fun vs m5=>K (v::vs) m5) :
  T d7 w A B d8 Vals (spliced (Zy pos (XV (e::rest) d8))) st K:=fun s Z S Q E hQ=>by
 exact(Eq.symm (hs))▸Calls.spliced_cons (h s Z S _ _ fun v1 m6 s₁ Z1 j9 k₁ S1 V1 X1=>k₁ s₁ Z1 S1 _ _ fun v2 x2 s2 Z2 m5 k2 S2 V2 X2=>hQ _ _ s2 Z2 m5 k2 S2 (.cons (V1.mono X2.le) V2) (X1.trans X2))
def FC(d7:Xh)(w:Xo)(A:Xg)(B:f9)(d8:Env)(f:AV)(args:List AV)(kw:List (Str×AV))(st:St)(K:AV->St->Prop):Prop :=
 ∀(s:WS) (Z:f9) (fx:Value) (xs:List Value) (ks:List (Str×Value)),Val Z f fx->Vals Z args xs->j4 Z kw ks->g8 B d8 s Z st->∀(Q:Value->WS->Prop) (E:Value->WS->Prop),
  HQ B d8 Val st K s Z Q->Xq (Xn d7 w) A (call fx xs ks) Q E s
theorem FC.b{n:String}
  (h:∀s Z,g8 B d8 s Z st->∀Q E,HQ B d8 Val st K s Z Q->∀xs,Vals Z args xs->Xq (Xn d7 w) A (call (.builtin n) xs []) Q E s):FC d7 w A B d8 (.blt n) args [] st K :=
 fun s Z fx xs ks hf hx hk S Q E hQ=>by
  cases hf
  cases hk
  exact h s Z S Q E hQ xs hx
theorem FC.t{n:String}
  (h:∀s Z,g8 B d8 s Z st->∀Q E,HQ B d8 Val st K s Z Q->∀xs,Vals Z args xs->Xq (Xn d7 w) A (call (.type n) xs []) Q E s):FC d7 w A B d8 (.typ n) args [] st K :=
 fun s Z fx xs ks hf hx hk S Q E hQ=>by
  cases hf
  cases hk
  exact h s Z S Q E hQ xs hx
theorem zl{f:AV}(h:TC d7 w A B f args kw st.led fun v led'=>K v ⟨st.loc,led'⟩):FC d7 w A B d8 f args kw st K :=
 fun s Z fx xs ks hf hx hk S Q E hQ=>Zu (h s Z fx xs ks S.tof1 hf hx hk _ fun v x s' Z' led' k L V X=>hQ v x s' Z' ⟨st.loc,led'⟩ k (S.after L X) V X.toF)
def dE(d7:Xh)(w:Xo)(B:f9)(f:AV):Prop :=
 ∀(A:Xg) (s:WS) (Z:f9) (fx:Value),Val Z f fx->f9.le B Z->(∀a o,Z a=some o->s.heap.get? a=some o)->∀(Q:Keeper->WS->Prop) (E:Value->WS->Prop),(∀k,Q k s)->Xq (Xn d7 w) A (keeperOf fx) Q E s
theorem gE{id:String}:dE d7 w B (.blt id):=fun A s Z fx V le fr Q E hQ=>by cases V;exact WN (hQ _)
theorem CT{n:String}:dE d7 w B (.typ n):=fun A s Z fx V le fr Q E hQ=>by cases V;exact WN (hQ _)
theorem OH{f:XC}{fd:a8}(ho:B f=some o)(hd:o.data=.func fd):dE d7 w B (.ref f):=fun A s Z fx V le fr Q E hQ=>by
 (have e_:=V.inv;subst e_)
 unfold keeperOf;refine WL (wpAny_load (fr _ _ (le _ _ ho)) ?_);exact(Eq.symm (hd))▸WN (hQ _)
theorem OI{id:String}{self:AV}:dE d7 w B (.bm id self):=fun A s Z fx V le fr Q E hQ=>by
 refine br (yj V) fun O O qv e h=>?_;subst qv;unfold keeperOf;refine WL (wpAny_load (fr _ _ e) ?_);exact WN (hQ _)
theorem yA{fx:Value}{Q:Args->WS->Prop}(h:Xq (Xn d7 w) A (spliced []) (fun vs s'=>Q ⟨vs,[]⟩ s') E s):Xq (Xn d7 w) A (evalArgs fx true [] []) Q E s:=by
 unfold evalArgs;show Xq _ A (spliced []>>=_) Q E s;refine WL (XU h (fun vs s' h'=>?_) fun O O x=>x);refine WL (WN ?_);refine Xc ?_;exact WL (WN (WL (WN (WN h'))))
def CA(d7:Xh)(w:Xo)(A:Xg)(B:f9)(d8:Env)(pos:Pos)(f:AV)(first:List AV)(args:List Expr)(st:St)(K:AV->St->Prop):Prop :=
 ∀(s:WS) (Z:f9) (fx:Value) (xs:List Value),Val Z f fx->Vals Z first xs->g8 B d8 s Z st->∀(Q:Value->WS->Prop) (E:Value->WS->Prop),
  HQ B d8 Val st K s Z Q->Xq (Xn d7 w) A (callWith pos fx xs (Zy pos (XV args d8)) []) Q E s
theorem cp{f:AV}{first:List AV}{args:List Expr}(m8:((Zy pos (XV args d8)).all fun x => !x.1)=true)(hk:dE d7 w B f)
  (h:T d7 w A B d8 Vals (spliced (Zy pos (XV args d8))) st fun vs j9=>FC d7 w A B d8 f (first++vs) [] j9 K):CA d7 w A B d8 pos f first args st K:=fun s Z fx xs hf Δ S Q E hQ=>by
 unfold callWith;have K7:∀ {Q':Args->WS->Prop},(∀v x s' Z' e9,FC d7 w A B d8 f (first++v) [] e9 K->g8 B d8 s' Z' e9->Vals Z' v x->k8 (aw d8 st) s Z s' Z' (aw d8 e9)->Q' ⟨x,[]⟩ s') ->
   Xq (Xn d7 w) A (evalArgs fx true (Zy pos (XV args d8)) []) Q' E s:=fun{Q'} g_=>by
  have F8:=h s Z S (fun x s'=>Q' ⟨x,[]⟩ s') E g_;revert F8 m8;generalize Zy pos (XV args d8)=l;intro m8 F8;cases l with
  |nil=>exact yA F8
  |cons y r =>
   obtain⟨b,t⟩:=y
   have:b=false:=by simpa using (XF.mp m8 (b,t) (WM ..))
   subst this;exact Calls.evalArgs_plain F8
 refine WL (Xc (K7 fun vs x s₁ Z1 j9 k₁ S1 V1 X1=>WL (XB ?_)));refine WL (hk A s₁ Z1 fx (hf.mono X1.le) S1.base S1.frozen _ _ fun k=>?_);have s8:Xq (Xn d7 w) A (call fx (xs++x) []) (fun r s'=>Xq (Xn d7 w) A (do b9 [r] point;YV r) Q E s') E s₁ :=
  k₁ s₁ Z1 fx _ [] (hf.mono X1.le) ((Δ.mono X1.le).append V1) .nil S1 _ _ fun v y s' Z' e9 k S' V X=>WL (Xc (wpAny_point (WN (hQ v y s' Z' e9 k S' V (X1.trans X)))))
 have Q5:∀l,Xq (Xn d7 w) A (operate l (call fx (xs++x) [])>>=fun r=>(do b9 [r] point;YV r)) Q E s₁:=fun l=>WL (fun Γ p F7=>by rw[Sem.wp_operate];exact s8 Γ p F7);have hm:∀m,Xq (Xn d7 w) A (callMarked m fx (xs++x) []>>=fun r=>(do b9 [r] point;YV r)) Q E s₁:=fun m=>WL (by unfold callMarked;exact Calls.wpAny_keep s8);generalize (((Zy pos (XV args d8)).any fun x=>x.fst)||([]:List (Option Str×Sem Value)).any fun x=>x.fst.isNone)=b;cases k <;> cases b <;> first
  |exact Q5 _
  |exact hm _
  |exact WL s8
  |exact wpAny_ite (by split <;> first |exact WL s8 |exact hm _)
theorem pA{func:Expr}{args:List Expr}(hc:Yw (.Call func args [] pos) d8=(do callWith pos (← Yw func d8) [] (Zy pos (XV args d8)) []))
  (h:T d7 w A B d8 Val (Yw func d8) st fun f j9=>CA d7 w A B d8 pos f [] args j9 K):T d7 w A B d8 Val (Yw (.Call func args [] pos) d8) st K:=fun s Z S Q E hQ=>by
 rw[hc];exact WL (h s Z S _ _ fun f x s₁ Z1 j9 k₁ S1 V1 X1=>k₁ s₁ Z1 x [] V1 .nil S1 _ _ fun v y s' Z' e9 k S' V X=>hQ v y s' Z' e9 k S' V (X1.trans X))
def ds(B:f9)(v:AV)(led:aa)(T:String):Prop :=
 ∀(s:WS) (Z:f9) (x:Value),Val Z v x->f1 B s Z led->s.TypeIs x T/\∀a,x=.ref a->∃o,s.heap.get? a=some o/\o.dict=none
theorem my{led:aa}:ds B (.str x) led "str" := fun s Z u V S=>by cases V;exact⟨typeIs_str s x _,fun a e=>nomatch e⟩
theorem Hl{x:Array UInt8}{led:aa}(h:∀(s:WS) t,s.TypeIs (.bytes x t) "bytes"):ds B (.bytes x) led "bytes" := fun s Z u V S=>by cases V;exact⟨h s _,fun a e=>nomatch e⟩
theorem bS{led:aa}(hm:(a,.list xs)∈led):ds B (.ref a) led "list" := fun s Z u V S=>by
 (have e_:=V.inv;subst e_)
 refine bt (S.own _ hm) fun items n g O=>?_;exact⟨⟨_,g,rfl⟩,fun b e=>by cases e;exact bb _ g rfl⟩
theorem vr{led:aa}:ds B (.lst xs) led "list" := fun s Z u V S=>by
 refine bC (lQ V) fun O O O qv e h=>?_;subst qv;exact⟨⟨_,S.frozen _ _ e,rfl⟩,fun b q=>by cases q;exact bb _ (S.frozen _ _ e) rfl⟩
theorem ut{o:Expr}{C3:Pos}{args:List Expr}{T' id:String}
  (B1:attributeBase o name d8 (Yw o d8)=Yw o d8)
  (M8:((Zy pos (XV args d8)).all (fun x => !x.1)&&(backToKw pos (keywordEach [] d8)).all (fun x=>x.1.isSome)
   && decide (args.length+([]:List Keyword).length+(if ([]:List Keyword).isEmpty then 0 else 1)<30))=true)
  (A6:(C3.endLine==pos.line)=true) (pa:PlainAttrs T') (slot:Slot T' name id) (S9:typeOf (.builtin id)=YV (.type "method_descriptor"))
  (h:T d7 w A B d8 Val (Yw o d8) st fun v j9=>ds B v j9.led T'/\CA d7 w A B d8 pos (.blt id) [v] args j9 K) :
  T d7 w A B d8 Val (Yw (.Call (.Attribute o name C3) args [] pos) d8) st K:=fun s Z S Q E hQ =>
 wpAny_Call_method B1 M8 A6 pa slot S9 (h s Z S _ _ fun v x s₁ Z1 j9 k₁ S1 V1 X1 =>
  ⟨(k₁.1 s₁ Z1 x V1 S1.tof1).1,(k₁.1 s₁ Z1 x V1 S1.tof1).2,k₁.2 s₁ Z1 _ [x] (.blt id) (.cons V1 .nil) S1 _ _ fun v y s' Z' e9 k S' V X=>hQ v y s' Z' e9 k S' V (X1.trans X)⟩)
section
open PySem PySem.W PySem.Builtin PySem.Builtin.Str
inductive E9:Value->Str->Nat->Prop
 |str {x:Str} {t:Tok} {k:Nat} (h:x.length<=k):E9 (.str x t) x k
 |int {n:Int} {u:Tok} (h0:0<=n) (h1:n<10^10):E9 (.int n u) (WR (ZY n)) 10
theorem E9.len{v:Value}(h:E9 v x k):x.length<=k:=by
 cases h with
 |str h=>exact h
 |int h0 h1=>exact PyProof.Rows.toString_length_le h0 (by decide) h1
inductive L1 (n:Nat):List Nat->List Value->Str->Nat->Str->Nat->Nat->Prop
 |done {T:Str} {N:Nat}:L1 n [] [] T N T N 0
 |lit {r l rest:List Nat} {vs:List Value} {T T1 T':Str} {N N' c:Nat} (hr:r.isEmpty=false) (hN:N<=16777216) (hl:(l.length==n)=false) (h:nextMarkup r=.ok (l,none,rest)) {L:Str} (hL:⟨l.toArray⟩=L) (e:T++L=T1) (p:L1 n rest vs T1 (N+l.length) T' N' c):L1 n r vs T N T' N' (c+1)
 |field {r l rest:List Nat} {v:Value} {vs:List Value} {x T T1 T':Str} {k N N' c:Nat} (hr:r.isEmpty=false) (hN:N<=16777216) (hl:(l.length==n)=false) (h:nextMarkup r=.ok (l,some ⟨[],none,[],false⟩,rest))
   (hx:E9 v x k) {L:Str} (hL:⟨l.toArray⟩=L) (e:(T++L)++x=T1) (p:L1 n rest vs T1 (N+l.length+k) T' N' c):L1 n r (v::vs) T N T' N' (c+1)
theorem Gh{v:Value}(h:E9 v x k)(hQ:∀t m,Q (.str x t) {s with toks:=m}):Xq (Xn d7 w) A (formatOf v ⟨[].toArray⟩) Q E s:=by
 cases h with
 |str h=>exact Yd (KFm.formatOf_str _ _) (hQ _ s.toks)
 |int h0 h1=>exact KFm.formatOf_int (PyProof.Rows.shown (N:=2^1920) (Int.lt_of_lt_of_le (by decide +kernel) h0) (Int.lt_of_lt_of_le h1 (by decide +kernel)) (Int.le_refl _)) hQ
theorem Ef{xs ys:List α}{x:α}(h:xs.drop i=x::ys):xs.toArray[i]?=some x/\xs.drop (i+1)=ys:=by
 have e:(xs.drop i)[0]?=some x:=h▸rfl;rw[List.getElem?_drop] at e;exact⟨(List.getElem?_toArray ..).trans e,List.drop_drop.symm.trans (h▸rfl)⟩
section
variable{ς:List Value}{f:Nat->Writer×Numbering×List Nat->Sem (ForInStep (Writer×Numbering×List Nat))}
structure Body (d7:Xh) (w:Xo) (A:Xg) (E:Value->WS->Prop) (n:Nat) (ς:List Value) (f:Nat->Writer×Numbering×List Nat->Sem (ForInStep (Writer×Numbering×List Nat))):Prop where
 stop:∀x wr num,f x (wr,num,[])=YV (.done (wr,num,[]))
 lit:∀ {x wr num r l rest},r.isEmpty=false -> ¬ tooLong wr.total=true->(l.length==n)=false->nextMarkup r=.ok (l,none,rest)->f x (wr,num,r)=YV (.yield (wr.add ⟨l.toArray⟩ none,num,rest))
 field:∀ {x wr num r l rest v y k i} {s:WS} {Q:ForInStep (Writer×Numbering×List Nat)->WS->Prop},r.isEmpty=false -> ¬ tooLong wr.total=true->(l.length==n)=false->nextMarkup r=.ok (l,some ⟨[],none,[],false⟩,rest) ->
  E9 v y k->ς.toArray[i]?=some v->(num=.unset/\i=0∨num=.auto i)->(∀o m,KPc.Obj o y->Q (.yield ((wr.add ⟨l.toArray⟩ none).add y o,.auto (i+1),rest)) {s with toks:=m})->Xq (Xn d7 w) A (f x (wr,num,r)) Q E s
theorem Je(hf:Body d7 w A E n ς f){r:List Nat}{T T':Str}{N N' c:Nat}(hp:L1 n r vs T N T' N' c):∀ {l:List Nat} {wr:Writer} {num:Numbering} {i:Nat} {s:WS} {Q:Writer×Numbering×List Nat->WS->Prop},c<=l.length->KPc.Good wr T N->ς.drop i=vs ->
  (num=.unset/\i=0∨num=.auto i)->(∀Ż φ m,KPc.Good Ż T' N'->Q (Ż,φ,[]) {s with toks:=m})->Xq (Xn d7 w) A (forIn l (wr,num,r) f) Q E s:=by
 induction hp with
 |done =>
  intro l wr num i s Q _ g _ _ hQ;cases l with
  |nil=>exact WN (hQ wr num s.toks g)
  |cons x l=>exact KPc.turn (hf.stop x wr num▸WN (hQ wr num s.toks g))
 |lit hr hN0 ê h hL e p ih =>
  subst hL;intro l wr num i s Q hl g hi hn hQ;cases l with
  |nil=>exact absurd hl (Nat.not_succ_le_zero _)
  |cons x l=>exact KPc.turn (hf.lit hr (KPc.short_good g hN0) ê h▸WN (ih (Nat.le_of_succ_le_succ hl) (e▸KPc.good_add g (KPc.obj_none rfl)) hi hn hQ))
 |field hr hN0 ê h hx hL e p ih =>
  subst hL;intro l wr num i s Q hl g hi hn hQ;cases l with
  |nil=>exact absurd hl (Nat.not_succ_le_zero _)
  |cons x l=>exact KPc.turn (hf.field hr (KPc.short_good g hN0) ê h hx (Ef hi).1 hn fun o m ho=>ih (Nat.le_of_succ_le_succ hl) (e▸KPc.good_mono (KPc.good_add (KPc.good_add g (KPc.obj_none rfl)) ho) (Nat.add_le_add_left hx.len _)) (Ef hi).2 (.inr rfl) hQ)
end
theorem LY{byName:Str->Sem Value}{self:Value}{Ô:List Nat}{N' c:Nat}{T':Str}{Q:PySem.Fin->WS->Prop}
  (hp:L1 Ô.length Ô vs Str.empty 0 T' N' c) (hc:c<=Ô.length) (hN:N'<=16777216) (hQ:∀t m,Q (.done (.ret (.str T' t))) {s with toks:=m}) :
  Xq (Xn d7 w) A (buildString "str.format" (some vs.toArray) byName 2 Ô (some self) .unset>>=fun r=>r.1.finish "str.format") Q E s:=by
 refine WL (WL ?_);rw[KPc.range_list];refine KFm.start fun wr g=>Je (n:=Ô.length) (ς:=vs) ⟨fun x wr num=>rfl,fun hr ht hl h=>?_,fun hr ht hl h hx hv hn hQ=>?_⟩ hp (XQ hc (Nat.le_of_eq (List.length_range' ..).symm)) g rfl (.inl ⟨rfl,rfl⟩) fun Ż φ m g=>WN (KPc.finish_ok g hN rfl fun t k=>hQ t k)
 ·dsimp only;rw[if_neg fun q=>XL (hr.symm.trans q),if_neg ht,h];dsimp only;rw[if_neg fun q=>XL (hl.symm.trans q)]
 ·refine wpAny_ite (KPc.ite_no (fun q=>XL (hr.symm.trans q)) ?_);refine wpAny_ite (KPc.ite_no ht ?_);dsimp only;rw[h];dsimp only;rw[if_neg fun q=>XL (hl.symm.trans q)];refine WL (KFm.field_auto hn hv ?_);refine WL (Xc (Yd (a:=_) rfl ?_));refine wpAny_ite (KPc.ite_no XL ?_);refine WL (WN ?_);refine WL (Xc (Gh hx fun t m=>?_));refine WL (Yd (a:=some _) rfl ?_);refine WN (hQ _ m ?_);intro u hu;split at hu
  ·exact⟨_,(Zi hu).symm⟩
  ·exact nomatch hu
theorem fO{F:List Nat}{t:Tok}{T':Str}{N' c:Nat}(hp:L1 F.length F vs Str.empty 0 T' N' c)(hc:c<=F.length)(hN:N'<=16777216) :
  Meets (Builtin.«str.format» ⟨.str ⟨F.toArray⟩ t::vs,[]⟩) (fun O R s=>∀t' k,R (.ok (.ret (.str T' t'))) {s with toks:=k}) :=
 KPc.meets_of fun d7 w A s Q E hQ=>WL (m:=strSelf ⟨.str ⟨F.toArray⟩ t::vs,[]⟩) (Yd (a:=(_,_,_)) rfl (LY hp hc hN hQ))
theorem Nt{n:Int}{t u:Tok}(h0:0<=n)(h1:n<10^10):Meets (Builtin.«str.format» ⟨[.str (Str.mk #[123,125]) t,.int n u],[]⟩) (fun O R s=>∀t' k,R (.ok (.ret (.str (WR (ZY n)) t'))) {s with toks:=k}) :=
 fO (F:=[123,125]) (.field (l:=[]) (rest:=[]) (L:=WR "") rfl (Yo rfl) rfl rfl (.int h0 h1) (by decide +kernel) KFm.cat_ee .done) (Yo rfl) (Yo rfl)
theorem Nr{n m:Int}{t u u':Tok}(h0:0<=n)(h1:n<10^10)(h2:0<=m)(h3:m<10^10):Meets (Builtin.«str.format» ⟨[.str (Str.mk #[123,125,44,123,125]) t,.int n u,.int m u'],[]⟩)
  (fun O R s=>∀t' k,R (.ok (.ret (.str ((WR (ZY n)++WR ",")++WR (ZY m)) t'))) {s with toks:=k}) :=
 fO (F:=[123,125,44,123,125]) (.field (l:=[]) (rest:=[44,123,125]) (L:=WR "") rfl (Yo rfl) rfl rfl (.int h0 h1) (by decide +kernel) KFm.cat_ee
  (.field (l:=[44]) (rest:=[]) (L:=WR ",") rfl (Yo rfl) rfl rfl (.int h2 h3) (by decide +kernel) rfl .done)) (Yo rfl) (Yo rfl)
end
noncomputable def am(K:Frag):f9:=fun a=>K.lookup a
theorem cP{K:Frag}(le:f9.le (am K) Z)(fr:∀a o,Z a=some o->s.heap.get? a=some o):K.In s.heap:=fun a o e=>fr a o (le a o e)
section
variable{K:Frag}
theorem Binds.peek{fd:a8}
  (h:∀(Z:f9) (xs:List Value) (ks:List (Str×Value)),Vals Z args xs->j4 Z kw ks->∃bs,XW K ⟨d7,w.params⟩ (bindArgs fd ⟨xs,ks⟩)=some bs/\j4 Z binds bs) :
  Binds d7 w A (am K) fd args kw binds:=fun s Z led xs ks S hx hk Q E hQ=>by
 refine ad (h Z xs ks hx hk) fun bs e hb=>?_;exact ZO (M:=Xn d7 w) (cP S.base S.frozen) e A Q E s (fun b o e=>e) (hQ bs s Z S hb .refl)
theorem Binds.pk{fd:a8}
  (h:∀(Z:f9) (xs:List Value),Vals Z args xs->∃bs,XW K ⟨d7,w.params⟩ (bindArgs fd ⟨xs,[]⟩)=some bs/\j4 Z binds bs) :
  Binds d7 w A (am K) fd args [] binds:=Binds.peek fun Z xs ks hx hk=>j4.un0 (P:=fun ks=>∃bs,XW K ⟨d7,w.params⟩ (bindArgs fd ⟨xs,ks⟩)=some bs/\j4 Z binds bs) (h Z xs hx) ks hk
def bH(K:Frag)(f:XC)(gen:Bool)(fd:a8)(body:List Stmt)(c:XC):Prop :=
 (∃o,K.lookup f=some o/\o.data=.func fd)/\fd.body=.stmts body/\fd.code=.ref c/\fd.closure=[]/\fd.globals=YD/\fd.builtins=Zm /\
 (∃oc vs tq,K.lookup c=some oc/\oc.data=.fields vs/\vs[1]?=some (.str fd.qualname tq)) /\
 (fd.scope.isCoroutine=false/\fd.scope.isGenerator=gen/\fd.scope.kind=.function)/\(fd.scope.names.all fun x=>decide (x.2 ≠ .cell))=true
noncomputable abbrev ba(fd:a8)(L f c:XC):Env:=cy fd.scope L YD [] fd.qualname f (.ref c) Zm
theorem zd{f c:XC}{fd:a8}{led:aa}{R:AV->aa->Prop}
  (hG:m3 (am K)) (ok:bH K f false fd body c) (n9:A.depth<YU) (hb:Binds d7 w A.in1 (am K) fd args kw binds)
  (u8:((binds.map (·.1)).all fun x=>decide (fd.scope.names.lookup x=some .local))=true)
  (h:∀L,L∉keys led->T d7 w (A.deeper (ba fd L f c)) (am K) (ba fd L f c) j5 (execs body (ba fd L f c)) ⟨binds.reverse,led⟩ (hM R)) :
  TC d7 w A (am K) (.ref f) args kw led R:=by
 refine Gb ok fun O1 y5 hc c_ hg d_ O7 O8 h4=>?_;clear ok;obtain⟨o,ho,hd⟩:=O1;obtain⟨oc,vs,tq,I7,A5,hq⟩:=O7;obtain⟨h1,h2,h3⟩:=O8;refine Uu hG ho hd h1 h2 h3 y5 (fun x hx=>of_decide_eq_true (XF.mp h4 x hx)) hc I7 A5 hq n9 hb (fun x hx=>of_decide_eq_true (XF.mp u8 x hx)) fun L hL=>?_;exact(Eq.symm (c_))▸(Eq.symm (hg))▸(Eq.symm (d_))▸(Eq.symm (hc))▸h L hL
theorem CU{f c:XC}{gen:Bool}{fd:a8}(ok:bH K f gen fd body c):dE d7 w (am K) (.ref f):=by
 refine av ok fun O1 O=>?_;clear ok;obtain⟨o,ho,hd⟩:=O1;exact OH ho hd
theorem zp{X:Str}{vs:List AV}{T':Str}
  (hm:∀Z t xs,Vals Z vs xs->c6 "str.format" ⟨.str X t::xs,[]⟩/\Meets (Builtin.«str.format» ⟨.str X t::xs,[]⟩) (fun O R s=>∀t' k,R (.ok (.ret (.str T' t'))) {s with toks:=k}))
  (h:R (.str T') st):FC d7 w A B d8 (.blt "str.format") (.str X::vs) [] st R:=FC.b fun s Z S Q E hQ=>Vals.un <| Val.eStr fun t xs ht =>
 KFm.call_k rfl (hm Z t xs ht).1 (hm Z t xs ht).2 fun t' k=>hQ _ _ _ Z st h (S.toks _) (.str _ _) (.toks _)
theorem Fy{X:Str}{T':Str}
  (hm:∀Z t x,Val Z v x->Meets (Builtin.«str.format» ⟨[.str X t,x],[]⟩) (fun O R s=>∀t' k,R (.ok (.ret (.str T' t'))) {s with toks:=k}))
  (h:R (.str T') st):FC d7 w A B d8 (.blt "str.format") [.str X,v] [] st R :=
 zp (fun Z t=>Vals.un fun x hx=>Vals.un0 ⟨KFm.args_2 _ _,hm Z t x hx⟩) h
theorem zo{X:Str}{u:AV}{T':Str}
  (hm:∀Z t x,Val Z v x->∀y,Val Z u y->Meets (Builtin.«str.format» ⟨[.str X t,x,y],[]⟩) (fun O R s=>∀t' k,R (.ok (.ret (.str T' t'))) {s with toks:=k}))
  (h:R (.str T') st):FC d7 w A B d8 (.blt "str.format") [.str X,v,u] [] st R :=
 zp (fun Z t=>Vals.un fun x hx=>Vals.un fun y hy=>Vals.un0 ⟨KFm.args_3 _ _ _,hm Z t x hx y hy⟩) h
theorem uC{X:Str}{u r:AV}{T':Str}
  (hm:∀Z t x,Val Z v x->∀y,Val Z u y->∀z,Val Z r z->Meets (Builtin.«str.format» ⟨[.str X t,x,y,z],[]⟩) (fun O R s=>∀t' k,R (.ok (.ret (.str T' t'))) {s with toks:=k}))
  (h:R (.str T') st):FC d7 w A B d8 (.blt "str.format") [.str X,v,u,r] [] st R :=
 zp (fun Z t=>Vals.un fun x hx=>Vals.un fun y hy=>Vals.un fun z hz=>Vals.un0 ⟨KFm.args_4 _ _ _ _,hm Z t x hx y hy z hz⟩) h
end
theorem zr{n:Int}(h0:0<=n)(h1:n<10^10)(h:R (.str (WR (ZY n))) st):FC d7 w A B d8 (.blt "str.format") [.str (Str.mk (Yv [123,125])),.int n] [] st R :=
 Fy (fun Z t=>Val.eInt fun O=>Nt h0 h1) h
theorem zq{n m:Int}(h0:0<=n)(h1:n<10^10)(h2:0<=m)(h3:m<10^10)(h:R (.str ((WR (ZY n)++WR ",")++WR (ZY m))) st) :
  FC d7 w A B d8 (.blt "str.format") [.str (Str.mk (Yv [123,125,44,123,125])),.int n,.int m] [] st R :=
 zo (fun Z t=>Val.eInt fun O=>Val.eInt fun O=>Nr h0 h1 h2 h3) h
structure g7 (A:Xg) (k:Nat):Prop where
 h:A.handled=none
 d:A.depth+k<=YU
 u:A.units+k<=cLine
theorem g7.mono(r:g7 A k)(h:j<=k):g7 A j:=⟨r.h,XQ (Nat.add_le_add_left h _) r.d,XQ (Nat.add_le_add_left h _) r.u⟩
theorem g7.in1(r:g7 A (k+1)):g7 A.in1 k:=⟨r.h,XQ (Nat.add_le_add_left (Nat.le_succ k) _) r.d,by have:=r.u;show A.units+1+k<=cLine;omega⟩
theorem g7.deeper(r:g7 A (k+3)):g7 (A.deeper d8) k:=⟨r.h,by have:=r.d;show A.depth+1+k<=_;omega,by have:=r.u;show A.units+3+k<=cLine;omega⟩
theorem g7.lt(r:g7 A (k+1)):A.depth<YU:=by have:=r.d;omega
theorem g7.ult(r:g7 A (k+1)):A.units<cLine:=by have:=r.u;omega
section
variable{M:Model}{Φ:End->WS->Prop}{c:Code}{fs:List Frame}
def aT(M:Model)(A:Xg)(Φ:End->WS->Prop)(c:Code)(t:Sem Fin)(fs:List Frame)(s:WS):Prop :=
 ∀Γ p,Γ.code=c->Γ.Woken A->∃e s',Runs M Γ p t fs s e s'/\Φ e s'
theorem dJ{m:Sem α}{K:α->Sem Fin}{H:Value->Sem Fin}{gd lv}
  (h:Xq M (A.over c fs) m (fun a s'=>aT M A Φ c (K a) fs s') (fun x s'=>aT M A Φ c (H x) fs s') s):aT M A Φ c (m.wrap K H gd lv) fs s:=by
 rintro Γ p rfl F7
 exact runs_wrap_of_wp K H gd lv m (h (Γ.over fs) p (F7.over fs)) (fun a p' s' h'=>h' Γ p' rfl F7) (fun x p' s' h'=>h' Γ p' rfl F7)
theorem gY{p':Pos}{k:Unit->Sem Fin}(h:aT M A Φ c (k ()) fs s):aT M A Φ c (.at p' k) fs s :=
 dJ (m:=standAt p') (K:=k) (H:=.raise) (gd:=id) (lv:=id) (XB h)
theorem IN{l:List Value}{k:Unit->Sem Fin}(h:aT M A Φ c (k ()) fs s):aT M A Φ c (.point l k) fs s :=
 dJ (m:=point) (K:=k) (H:=.raise) (gd:=id) (lv:=fun O=>l) (wpAny_point h)
theorem IQ{c':Code}{h g l}{k:Result->Sem Fin}(hc:∀p,aT M A Φ c' (M.den c') (.ret k h g l c p []::fs) s):aT M A Φ c (.call c' h g l k) fs s:=by
 rintro Γ p rfl F7
 refine bt (hc p (Γ.goto c') p rfl (F7.goto c')) fun e s' hr he=>?_;exact dF e s' (runs_call_seg hr) he
theorem IP{k h g l c₁ p1 kp}(r:Result)(hk:aT M A Φ c₁ (k r) fs s):aT M A Φ c (leafOf r) (.ret k h g l c₁ p1 kp::fs) s:=by
 rintro Γ p rfl F7
 refine bt (hk (Γ.goto c₁) p1 rfl (F7.goto c₁)) fun e s' hr he=>?_;exact dF e s' (Runs.pop r hr) he
theorem mI{c':Code}(hq:c'.quiet=true)(hc:aT M A Φ c' (M.den c') fs s):aT M A Φ c (.pure (.again c')) fs s:=by
 rintro Γ p rfl F7
 refine bt (hc (Γ.goto c') p rfl (F7.goto c')) fun e s' hr he=>?_;exact dF e s' (Runs.head (c₁:=c') (fun O O x => .again hq x) hr) he
theorem AK(r:Result)(h:Φ (.ret r) s):aT M A Φ c (leafOf r) [] s:=by
 rintro Γ p rfl _
 exact dF (.ret r) s (Runs.leaf r) h
theorem AJ{v g l}{k:Resume->Sem Fin}(hfs:splitAtGen fs=none)(h:∀p,Φ (.susp v g l k c p fs) s):aT M A Φ c (.yield v g l k) fs s:=by
 rintro Γ p rfl _
 exact dF _ s (Runs.yield' fs hfs) (h p)
set_option backward.match.sparseCases false in
def pG(M:Model)(A:Xg)(Φ:End->WS->Prop)(gs:ZQ)(s:WS):Prop :=
 match gs with
 |.fresh c=>aT M A Φ c (M.den c) [] s
 |.suspended k _ c _ fs _=>aT M A Φ c (k (.send .none)) fs s
 |_=>False
theorem Gw{g:Nat}{gs:ZQ}{l:List Value}{k:GenResult->Sem α}{Q:α->WS->Prop}(hg:s.gens[g]?=some gs)
  (I8:pG M A Φ gs (s.setGen g .running)) (hq:∀e s₁,Φ e s₁->e.quiet=true)
  (hR:∀e s₁,Φ e s₁->Xq M A (k e.result) Q E (s₁.setGen g e.genState)):Xq M A (.resume g (.send .none) l k) Q E s:=by
 intro Γ p F7;rw[Sem.wp_resume];cases gs with
 |fresh c =>
  refine bt (I8 (Γ.wake c p) p rfl (F7.wake c p)) fun I2 s₁ hr he=>?_;exact dF _ _ (by unfold Wakes;exact(Eq.symm (hg))▸Ft I2 s₁ hr (hq I2 s₁ he) rfl rfl) (hR I2 s₁ he Γ p F7)
 |suspended k0 l₀ Õ p0 fs0 cl =>
  refine bt (I8 (Γ.wake Õ p) p0 rfl (F7.wake Õ p)) fun I2 s₁ hr he=>?_;exact dF _ _ (by unfold Wakes;exact(Eq.symm (hg))▸Ft I2 s₁ hr (hq I2 s₁ he) rfl rfl) (hR I2 s₁ he Γ p F7)
 |running=>exact I8.elim
 |finished=>exact I8.elim
end
def F0(e:End):Prop:=e=.ret (.ok (.ret .none))∨e=.ret (.ok .next)
theorem zL{g:Nat}{gs:ZQ}{Φ:End->WS->Prop}{Q:Option Value->WS->Prop}(hh:A.handled=none)
  (hl:s.heap.NoLimit) (n9:A.depth<YU) (hg:s.heap.IsGen a g) (G0:s.gens[g]?=some gs)
  (I8:pG (Xn d7 w) A.in1 Φ gs (s.setGen g .running)) (hq:∀e s₁,Φ e s₁->e.quiet=true)
  (hY:∀e s₁ v,Φ e s₁->e.result=.yielded v->Q (some v) (s₁.setGen g e.genState))
  (hP:∀e s₁,Φ e s₁->(∃v,e.result=.yielded v)∨(F0 e/\∀h',(∀b o,s₁.heap.get? b=some o->h'.get? b=some o)->Q none {s₁.setGen g .finished with heap:=h' })) :
  Xq (Xn d7 w) A (Zl (.ref a)) Q E s:=by
 unfold Zl;refine WL (Zp (XY (name:=WR "__next__") hg.typeIs slot_gen_next
  (XO slot_gen_next hg.typeIs entry_gen_next ?_ (args_gen_next _))))
 show Xq _ _ (Builtin.Generator.genWake (.ref a) (.send .none)) _ _ s;unfold Builtin.Generator.genWake;refine WL (Xc (wpAny_genNumber hg (WL (wpAny_genState G0 ?_))));cases gs with
 |running=>exact I8.elim
 |finished=>exact I8.elim
 |_ =>
  refine WL (wpAny_roomToWake hl n9 ?_);show Xq _ _ (.resume g (.send .none) [] _) _ _ s;refine Gw G0 I8 hq fun e s₁ hx=>?_;rcases hP e s₁ hx with ⟨v,hv⟩ |⟨he,hp⟩
  ·exact(Eq.symm (hv))▸WN ⟨v,rfl,WN (hY e s₁ v hx hv)⟩
  ·rcases he with rfl |rfl
   all_goals
    show Xq _ _ (newExc (.type "StopIteration") []>>=_) _ _ _;refine WL ?_;dsimp only[newExc,newTuple];refine WL (XZ ?_ (by size_fits));refine WL (m:=Zq _ _) (Yd (a:=Yp) (by first |rfl |(dsimp only[Zq];rfl)) ?_);refine XZ ?_ (by size_fits);dsimp only[raiseNew];refine WL (WL (wpAny_handled ?_));rw[show A.in1.handled=none from hh];refine wpAny_throw ?_;refine WL (YJ (T := "StopIteration") (b:=true) ⟨_,WW _ rfl,rfl⟩ isSubtype_stop ?_);exact WN (hp _ fun b o hb=>WX _ (WX _ hb))
section
theorem dk(st:St):aw d8 st=ah ((d8.locals,.ns st.loc)::st.led):=by
 unfold aw ah;congr 1
 funext a
 simp only[keys,WY,WT]
theorem g8.toL(S:g8 B d8 s Z st):f1 B s Z ((d8.locals,.ns st.loc)::st.led) where
 base:=S.base
 frozen:=S.frozen
 nodup:=Xj.mpr ⟨S.locL,S.nodup⟩
 apart:=fun p hp=>by
  rcases WT.mp hp with rfl |hp
  ·exact S.locZ
  ·exact S.apart p hp
 own:=fun p hp=>by
  rcases WT.mp hp with rfl |hp
  ·exact S.loc
  ·exact S.own p hp
 gnodup:=S.gnodup
 bare:=S.bare
theorem f1.drop1{p:XC×i9}{led:aa}(S:f1 B s Z (p::led)):f1 B s Z led where
 base:=S.base
 frozen:=S.frozen
 nodup:=(Xj.mp S.nodup).2
 apart:=fun q hq=>S.apart q (WO _ hq)
 own:=fun q hq=>S.own q (WO _ hq)
 gnodup:=by
  have:=S.gnodup;unfold gkeys at this ⊢;rw[Yy] at this;split at this
  ·exact this
  ·exact(Xj.mp this).2
 bare:=S.bare
theorem f1.toF(S:f1 B s Z ((d8.locals,.ns st.loc)::st.led))(hk:∀x v,st.loc.lookup x=some v->d8.kindOf x=some .local)(hf:d8.scope.kind=.function):g8 B d8 s Z st where
 tof1:=S.drop1
 locZ:=S.apart _ (WM ..)
 locL:=(Xj.mp S.nodup).1
 loc:=S.own _ (WM ..)
 kinds:=hk
 fn:=hf
def n7(N led:aa):Prop:=∀p∈N,p∈led
theorem n7.app{N led:aa}(h:n7 N led)(l:aa):n7 N (l++led):=fun p hp=>Xx _ (h p hp)
theorem n7.cons{N led:aa}(h:n7 N led)(q:XC×i9):n7 N (q::led):=fun p hp=>WO _ (h p hp)
theorem n7.nil{led:aa}:n7 [] led:=fun p hp=>by cases hp
variable{N:aa}
def t6(d7:Xh)(w:Xo)(B:f9)(N:aa)(n:Nat):List AV->aa->ZQ->Prop
 | [],I0,gs=>∀A,g7 A n->∀led,n7 N led->∀s Z,f1 B s Z (I0++led) ->
   pG (Xn d7 w) A (fun e s'=>F0 e/\∃Z',f1 B s' Z' led/\k8 (ah (I0++led)) s Z s' Z' (ah led)) gs s
 |row::rest,I0,gs=>∀A,g7 A n->∀led,n7 N led->∀s Z,f1 B s Z (I0++led) ->
   pG (Xn d7 w) A (fun e s'=>e.quiet=true/\∃v Z' D9,e.result=.yielded v/\f1 B s' Z' (D9++led)/\Val Z' row v/\k8 (ah (I0++led)) s Z s' Z' (ah (D9++led))/\t6 d7 w B N n rest D9 e.genState) gs s
def pM(d7:Xh)(w:Xo)(B:f9)(N:aa)(n:Nat)(f0:List AV)(led:aa)(o7:L7)(o6:WS)(Z0:f9)(e:End)(s':WS):Prop :=
 match f0 with
 | []=>F0 e/\∃Z',f1 B s' Z' led/\k8 o7 o6 Z0 s' Z' (ah led)
 |row::rest=>e.quiet=true/\∃v Z' D9,e.result=.yielded v/\f1 B s' Z' (D9++led)/\Val Z' row v/\k8 o7 o6 Z0 s' Z' (ah (D9++led))/\t6 d7 w B N n rest D9 e.genState
theorem t6.iff{I0:aa}{gs:ZQ}:t6 d7 w B N n f0 I0 gs↔∀A,g7 A n->∀led,n7 N led->∀s Z,f1 B s Z (I0++led)->pG (Xn d7 w) A (pM d7 w B N n f0 led (ah (I0++led)) s Z) gs s:=by
 cases f0 <;> rfl
def jn(d7:Xh)(w:Xo)(B:f9)(N:aa)(n:Nat)(d8:Env)(c:Code)(t:Sem Fin)(fs:List Frame)(f0:List AV)(st:St):Prop :=
 ∀A,g7 A n->∀led,n7 N led->∀o7 o6 Z0 s Z,g8 B d8 s Z ⟨st.loc,st.led++led⟩->k8 o7 o6 Z0 s Z (aw d8 ⟨st.loc,st.led++led⟩)->aT (Xn d7 w) A (pM d7 w B N n f0 led o7 o6 Z0) c t fs s
structure Sk (n m:Nat) (c:Code) (fs:List Frame):Prop where
 room:∀A,g7 A n->g7 (A.over c fs) m
 split:splitAtGen fs=none
 quiet:fs.any Frame.guarded=false
inductive B9:g6->Flow->Prop
 |next:B9 .next .next
 |brk:B9 .brk .brk
 |cont:B9 .cont .cont
 |ret:B9 (.ret .none) (.ret .none)
theorem B9.of{f:g6}{x:Flow}(p:match f with |.ret v=>v=.none |_=>True)(V:j5 Z f x):B9 f x:=by
 induction V with
 |next=>exact .next
 |brk=>exact .brk
 |cont=>exact .cont
 |ret hv =>
  dsimp only at p;subst p;exact(show _=_ from hv.inv)▸.ret
def TG(d7:Xh)(w:Xo)(B:f9)(N:aa)(n m:Nat)(d8:Env)(t:Sem Flow)(st:St)(f0:List AV)(K:g6->St->List AV->Prop):Prop :=
 ∀c fs (Kc:Flow->Sem Fin) H gd lv,Sk n m c fs->gd false=false->(∀f x e9 j6,K f e9 j6->B9 f x->jn d7 w B N n d8 c (Kc x) fs j6 e9)->jn d7 w B N n d8 c (t.wrap Kc H gd lv) fs f0 st
variable{n m:Nat}{K:g6->St->List AV->Prop}
theorem EY{t:Sem Flow}(h:∀A,g7 A m->∀led,n7 N led->T d7 w A B d8 j5 t ⟨st.loc,st.led++led⟩ fun f e9=>∃l,e9.led=l++led/\(match f with |.ret v=>v=.none |_=>True)/\K f ⟨e9.loc,l⟩ f0):TG d7 w B N n m d8 t st f0 K :=
 fun c fs Kc H gd lv hs hg hK A hA led hN o7 o6 Z0 s Z S X=>dJ (h _ (hs.room A hA) led hN s Z S _ _ fun f x s' Z' e9 k S' V X'=>by
  obtain⟨g9,led'⟩:=e9;refine aU k ?_;clear k;intro l e p k;dsimp only at e k;subst e;refine hK f x ⟨g9,l⟩ f0 k ?_ A hA led hN o7 o6 Z0 s' Z' S' (X.trans X');exact .of p V)
theorem TG.spare{t:Sem Flow}{led:aa}(x:Str)(hk:d8.kindOf x=some .local)(h:TG d7 w B N n m d8 t ⟨loc++[(x,.any)],led⟩ f0 K):TG d7 w B N n m d8 t ⟨loc,led⟩ f0 K :=
 fun c fs Kc H gd lv hs hg hK A hA led' hN o7 o6 Z0 s Z S X=>h c fs Kc H gd lv hs hg hK A hA led' hN o7 o6 Z0 s Z (S.spare x hk) X
theorem TG.spares{t:Sem Flow}{led:aa}(xs:List Str)(hk:(xs.all fun x=>decide (d8.kindOf x=some .local))=true)(h:TG d7 w B N n m d8 t ⟨loc++xs.map fun x=>(x,.any),led⟩ f0 K):TG d7 w B N n m d8 t ⟨loc,led⟩ f0 K:=by
 induction xs generalizing loc with
 |nil=>rw[ZL,Yi] at h;exact h
 |cons x xs ih =>
  rw[List.all_cons,Yl] at hk;exact TG.spare x (of_decide_eq_true hk.1) (ih hk.2 (by rw[Xv];exact h))
theorem be(h:K .next st f0):TG d7 w B N n m d8 (execs [] d8) st f0 K:=fun c fs Kc H gd lv hs hg hK=>hK .next .next st f0 h .next
def AI(d7:Xh)(w:Xo)(B:f9)(N:aa)(n m:Nat)(d8:Env)(rest:List Stmt)(K:g6->St->List AV->Prop)(f:g6)(e9:St)(j6:List AV):Prop :=
 match f with
 |.next=>TG d7 w B N n m d8 (execs rest d8) e9 j6 K
 |f=>K f e9 j6
theorem cm{x:Stmt}{rest:List Stmt}(h:TG d7 w B N n m d8 (exec x d8) st f0 (AI d7 w B N n m d8 rest K)) :
  TG d7 w B N n m d8 (execs (x::rest) d8) st f0 K:=fun c fs Kc H gd lv hs hg hK=>by
 rw[execs_cons_wrap];refine h c fs _ H gd lv hs hg fun f y e9 j6 k p=>?_;induction p with
 |next=>exact k c fs Kc H gd lv hs hg hK
 |brk=>exact hK _ _ e9 j6 k .brk
 |cont=>exact hK _ _ e9 j6 k .cont
 |ret=>exact hK _ _ e9 j6 k .ret
theorem Ub{m9:Expr}{m7:List Stmt}
  (h:∀A,g7 A m->∀led,n7 N led->T d7 w A B d8 aH (isTrue m9 d8 (Yw m9 d8)) ⟨st.loc,st.led++led⟩ fun b e9=>∃l,e9.led=l++led /\
   if b then TG d7 w B N n m d8 (execs body d8) ⟨e9.loc,l⟩ f0 K else TG d7 w B N n m d8 (execs m7 d8) ⟨e9.loc,l⟩ f0 K) :
  TG d7 w B N n m d8 (exec (.If m9 body m7 pos) d8) st f0 K:=fun c fs Kc H gd lv hs hg hK A hA led hN o7 o6 Z0 s Z S X=>by
 rw[show exec (.If m9 body m7 pos) d8=(standAt pos>>=fun O=>isTrue m9 d8 (Yw m9 d8)>>=fun b=>if b=true then execs body d8 else execs m7 d8) from rfl];refine gY ?_;show aT _ A _ c ((isTrue m9 d8 (Yw m9 d8)>>=fun b=>if b=true then execs body d8 else execs m7 d8).wrap Kc H gd lv) fs s;rw[Ym,YK];refine dJ (h _ (hs.room A hA) led hN s Z S _ _ fun b x s' Z' e9 k S' V X'=>?_);obtain⟨g9,led'⟩:=e9;refine ad k ?_;clear k;intro l e k;dsimp only at e k;subst e;unfold aH at V;subst V;cases x with
 |true=>exact k c fs Kc H gd lv hs hg hK A hA led hN o7 o6 Z0 s' Z' S' (X.trans X')
 |false=>exact k c fs Kc H gd lv hs hg hK A hA led hN o7 o6 Z0 s' Z' S' (X.trans X')
theorem Ua{e:Expr}{D1:Pos}
  (h:∀A,g7 A m->∀led,n7 N led->T d7 w A B d8 Val (Yw e d8) ⟨st.loc,st.led++led⟩ fun v e9=>∃l rest,f0=v::rest/\e9.led=l++led/\K .next ⟨e9.loc,l⟩ rest)
  (C6:d8.scope.isCoroutine=false) (hi:interactive d8=false):TG d7 w B N n m d8 (exec (.Expr (.Yield (some e) D1) pos) d8) st f0 K:=fun c fs Kc H gd lv hs hg hK A hA led hN o7 o6 Z0 s Z S X=>by
 rw[exec_Expr d8 _ pos hi rfl];have hy:∀v,yieldOut d8 v=yieldValue v:=fun v=>by simp only[yieldOut,C6,XI,if_false]
 show aT _ A _ c (.at pos fun O=>((Yw e d8>>=fun v=>(standAt D1>>=fun O=>yieldOut d8 v))>>=fun x=>dropValue (.Yield (some e) D1) pos x).wrap Kc H gd lv) fs s;simp only[hy];refine gY ?_;rw[Ym,Ym,YK,YK];refine dJ (h _ (hs.room A hA) led hN s Z S _ _ fun v x s' Z' e9 k S' V X'=>?_);obtain⟨g9,led'⟩:=e9;refine br k ?_;clear k;intro l rest I2 Q8 k;dsimp only at Q8 k;subst I2;subst Q8;refine gY (AJ hs.split fun p=>?_);refine⟨by simp[End.quiet,hg,hs.quiet],x,Z',(d8.locals,.ns g9)::l,rfl,S'.toL,V,?_,?_⟩
 ·have:=X.trans X';rw[dk] at this;exact this
 ·rw[t6.iff];intro A' f8 led' l3 s' Z' u7;have SF:g8 B d8 s' Z' ⟨g9,l++led'⟩:=f1.toF (st:=⟨g9,l++led'⟩) u7 S'.kinds S'.fn;refine hK .next .next ⟨g9,l⟩ rest k .next A' f8 led' l3 _ s' Z' s' Z' SF ?_;rw[dk];exact .refl
def g5(d7:Xh)(w:Xo)(B:f9)(N:aa)(n:Nat)(e8:Expr)(it:XC):List AV->aa->Prop
 | [],gl=>∀A,g7 A n->∀led,n7 N led->∀s Z,f1 B s Z (gl++led)->∀(Q:Option Value->WS->Prop) (E:Value->WS->Prop),(∀s' Z',f1 B s' Z' led->k8 (ah (gl++led)) s Z s' Z' (ah led)->Q none s') ->
   Xq (Xn d7 w) A (Zl (.ref it)) Q E s
 |x::xs,gl=>∀A,g7 A n->∀led,n7 N led->∀s Z,f1 B s Z (gl++led)->∀(Q:Option Value->WS->Prop) (E:Value->WS->Prop),
   (∀s' Z' v gl',f1 B s' Z' (gl'++led)->Val Z' x v->k8 (ah (gl++led)) s Z s' Z' (ah (gl'++led))->g5 d7 w B N n e8 it xs gl'->Q (some v) s') ->
   Xq (Xn d7 w) A (Zl (.ref it)) (fun r s₁=>match r with |none=>False |some v=>Xq (Xn d7 w) A (Yg e8 (.ref it) v) (fun O s2=>Q (some v) s2) E s₁) E s
theorem g5.last{gl led:aa}{f:Option Value->Sem α}{Q:α->WS->Prop}(hI:g5 d7 w B N n e8 it [] gl)(hA:g7 A n)(hN:n7 N led)(S:f1 B s Z (gl++led))
  (h:∀s' Z',f1 B s' Z' led->k8 (ah (gl++led)) s Z s' Z' (ah led)->Xq (Xn d7 w) A (f none) Q E s'):Xq (Xn d7 w) A (Zl (.ref it)>>=f) Q E s:=WL (hI A hA led hN s Z S _ _ h)
theorem g5.draw{x:AV}{gl led:aa}{f:Option Value->Sem α}{g:Value->Sem α}{Q:α->WS->Prop}(hI:g5 d7 w B N n e8 it (x::xs) gl)(hA:g7 A n)(hN:n7 N led)(S:f1 B s Z (gl++led))
  (hf:∀v,f (some v)=Yg e8 (.ref it) v>>=fun O=>g v) (h:∀s' Z' v gl',f1 B s' Z' (gl'++led)->Val Z' x v->k8 (ah (gl++led)) s Z s' Z' (ah (gl'++led))->g5 d7 w B N n e8 it xs gl'->Xq (Xn d7 w) A (g v) Q E s') :
  Xq (Xn d7 w) A (Zl (.ref it)>>=f) Q E s :=
 WL (XU (hI A hA led hN s Z S (fun r s₁=>match r with |none=>False |some v=>Xq (Xn d7 w) A (g v) Q E s₁) E h) (fun r s₁ k=>by
  cases r with
  |none=>exact k.elim
  |some v=>rw[hf];exact WL k) fun O O h=>h)
end
section
variable{N:aa}
theorem f1.perm{l l':aa}(S:f1 B s Z l)(p:l.Perm l'):f1 B s Z l' where
 base:=S.base
 frozen:=S.frozen
 nodup:=(p.map _).nodup_iff.mp S.nodup
 apart:=fun q hq=>S.apart q (p.mem_iff.mpr hq)
 own:=fun q hq=>S.own q (p.mem_iff.mpr hq)
 gnodup:=(p.filterMap _).nodup_iff.mp S.gnodup
 bare:=S.bare
theorem dM{l l':aa}(p:l.Perm l'):ah l=ah l':=by
 unfold ah;congr 1
 ·funext a;exact propext (p.map _).mem_iff
 ·funext a;exact propext (p.filterMap _).mem_iff
theorem f1.drop:∀ {l l':aa},f1 B s Z (l++l')->f1 B s Z l'
 | [],_,S=>S
 |_::l,_,S=>f1.drop (l:=l) S.drop1
theorem k8.less{o o' o'':L7}{s':WS}{Z':f9}(X:k8 o s Z s' Z' o')(h1:∀a,o''.at_ a->o'.at_ a)(h2:∀a,o''.gn a->o'.gn a):k8 o s Z s' Z' o'' :=
 ⟨X.le,X.kept,fun a h=>X.grow a (h1 a h),X.zgrow,X.os,X.gkept,fun g h=>X.ggrow g (h2 g h)⟩
theorem mH{g:Nat}{gs x:ZQ}(h:s.gens[g]?=some gs):(s.setGen g x).gens[g]?=some x:=setGen_self h
theorem mG{g:Nat}{x:ZQ}(h:k≠g):(s.setGen g x).gens[k]?=s.gens[k]?:=by
 show (s.gens.setIfInBounds g x)[k]?=_;rw[Array.getElem?_setIfInBounds];simp[Ne.symm h]
theorem Nj{g:Nat}{x y:ZQ}(h:y∈(s.setGen g x).gens):y=x∨y∈s.gens:=by
 refine ak (Array.mem_iff_getElem?.mp h) fun i hi=>?_;by_cases e:i=g
 ·subst e;by_cases hb:i<s.gens.size
  ·have:=mH (x:=x) (YI hb);rw[this] at hi;exact .inl (Zi hi).symm
  ·rw[show (s.setGen i x).gens[i]?=none from by
    show (s.gens.setIfInBounds i x)[i]?=none;rw[Array.getElem?_eq_none_iff,Array.size_setIfInBounds];omega] at hi
   cases hi
 ·rw[mG e] at hi;exact .inr (Array.mem_iff_getElem?.mpr ⟨i,hi⟩)
theorem f1.setGen{l:aa}{g:Nat}{x:ZQ}(S:f1 B s Z l)(hg:g∉gkeys l)(hx:x.bare=true):f1 B (s.setGen g x) Z l where
 base:=S.base
 frozen:=S.frozen
 nodup:=S.nodup
 apart:=S.apart
 own:=fun p hp=>Holds.mono (s:=s) (s':=s.setGen g x) (.refl _) (fun O e=>e) (x:=S.own p hp) fun k gs e h=>by
  rw[mG]
  ·exact h
  ·intro q;subst q;exact hg (Nl hp e)
 gnodup:=S.gnodup
 bare:=fun y hy=>by
  rcases Nj hy with rfl |h
  ·exact hx
  ·exact S.bare y h
theorem F0.elim{P:End->Prop}{e:End}(h:F0 e)(a:P (.ret (.ok (.ret .none))))(b:P (.ret (.ok .next))):P e:=Or.elim h (fun h=>h▸a) fun h=>h▸b
theorem k8.unrun{own A3 o2 Q3:L7}{s₁ s2:WS}{Z':f9}{g:Nat}{x y:ZQ}(X:k8 own (s.setGen g y) Z s₁ Z' A3)(hh:∀b o,s₁.heap.get? b=some o->s2.heap.get? b=some o)(t7:s2.os=s₁.os)(hg:s2.gens=(s₁.setGen g x).gens)
  (ha:∀b,own.at_ b->o2.at_ b) (hn:∀k,own.gn k->o2.gn k) (I9:o2.gn g) (h3:∀b,Q3.at_ b->o2.at_ b∨A3.at_ b) (h3n:∀k,Q3.gn k->k≠g->A3.gn k):k8 o2 s Z s2 Z' Q3 where
 le:=X.le
 kept:=fun b o e hb=>hh b o (X.kept b o e fun q=>hb (ha b q))
 grow:=fun b hb=>(h3 b hb).elim .inl fun q=>(X.grow b q).imp_left (ha b)
 zgrow:=fun b o e=>(X.zgrow b o e).imp_right (Or.imp_left (ha b))
 os:=t7.trans X.os
 gkept:=fun k gs e hk =>
  have θ:k≠g:=fun q=>hk (q▸I9);hg▸(mG θ).trans (X.gkept k gs ((mG θ).trans e) fun q=>hk (hn k q))
 ggrow:=fun k hk=>if θ:k=g then .inl (θ▸I9) else (X.ggrow k (h3n k hk θ)).imp (hn k) (mG θ).symm.trans
theorem f1.consGen{l:aa}{g:Nat}{gs:ZQ}(S:f1 B s Z l)(κ:s.heap.IsGen a g)(G0:s.gens[g]?=some gs)(J1:a∉keys l)(I9:g∉gkeys l)(hZ:Z a=none):f1 B s Z ((a,.gen g gs)::l) where
 base:=S.base
 frozen:=S.frozen
 nodup:=Xj.mpr ⟨J1,S.nodup⟩
 apart:=fun p hp=>(WT.mp hp).elim (fun e=>e▸hZ) (S.apart p)
 own:=fun p hp=>(WT.mp hp).elim (fun e=>e▸⟨κ,G0⟩) (S.own p)
 gnodup:=Xj.mpr ⟨I9,S.gnodup⟩
 bare:=S.bare
theorem f1.more{s':WS}{l:aa}(S:f1 B s Z l)(hk:∀b o,s.heap.get? b=some o->s'.heap.get? b=some o)(hg:s'.gens=s.gens):f1 B s' Z l where
 base:=S.base
 frozen:=fun b o e=>hk b o (S.frozen b o e)
 nodup:=S.nodup
 apart:=S.apart
 own:=fun p hp=>Holds.mono (s:=s) (.refl _) (fun o e=>hk _ o e) (fun O O O e=>hg▸e) (S.own p hp)
 gnodup:=S.gnodup
 bare:=hg▸S.bare
section
variable(hG:m3 B)
include hG
theorem g5.gen_last{g:Nat}{gs:ZQ}{gl:aa}(h:t6 d7 w B N n [] gl gs):g5 d7 w B N (n+1) e8 a [] ((a,.gen g gs)::gl):=fun A hA led hN s Z S Q E hQ =>
 have I9:g∉gkeys (gl++led):=(Xj.mp S.gnodup).1;av (S.own _ (WM ..)) fun κ G0 =>
 zL hA.h (hG.lim s fun a o e=>S.frozen a o (S.base a o e)) hA.lt κ G0 (h A.in1 hA.in1 led hN _ Z (S.drop1.setGen I9 rfl)) (fun e s₁ he=>he.1.elim (P:=fun e=>e.quiet=true) rfl rfl) (fun e s₁ v he=>he.1.elim (P:=fun e=>e.result=.yielded v->_) nofun nofun) fun e s₁ he => .inr ⟨he.1,fun h' hk =>
  ad he.2 fun Z' S' X=>hQ _ Z' (f1.more (f1.setGen (x:=.finished) S' (fun q=>I9 (by unfold gkeys;rw[ZC];exact Xx _ q)) rfl) hk rfl)
   (X.unrun (x:=.finished) hk rfl rfl (fun b=>WO _) (fun k=>WO _) (WM ..) (fun b => .inr) fun k q O=>q)⟩
theorem g5.gen_draw(ht:∀led s Z v g gs gl,f1 B s Z ((a,.gen g gs)::gl++led)->∀A (Q:Unit->WS->Prop) E,Q () s->Xq (Xn d7 w) A (Yg e8 (.ref a) v) Q E s){row:AV}{rest:List AV}
  (ih:∀ {g:Nat} {gs:ZQ} {gl:aa},t6 d7 w B N n rest gl gs->g5 d7 w B N (n+1) e8 a rest ((a,.gen g gs)::gl)) {g:Nat} {gs:ZQ} {gl:aa} (h:t6 d7 w B N n (row::rest) gl gs):g5 d7 w B N (n+1) e8 a (row::rest) ((a,.gen g gs)::gl):=fun A hA led hN s Z S Q E hQ=>by
 have I9:g∉gkeys (gl++led):=(Xj.mp S.gnodup).1;have J1:a∉keys (gl++led):=(Xj.mp S.nodup).1;have hZ:=S.apart _ (WM ..);refine av (S.own _ (WM ..)) fun κ G0=>?_;refine zL hA.h (hG.lim s fun a o e=>S.frozen a o (S.base a o e)) hA.lt κ G0 (h A.in1 hA.in1 led hN _ Z (S.drop1.setGen I9 rfl)) (fun e s₁ he=>he.1) (fun e s₁ v he hv=>?_) fun e s₁ he => .inl (jq he.2 fun v O O e O=>⟨v,e⟩);refine pP he.2 fun v' Z' gl' R9 S' V X hs=>?_;cases GenResult.yielded.inj (R9.symm.trans hv)
 refine jq κ fun o nm qn ho r=>?_;have è:∀ {P:Prop},s.heap.get? a=none->P:=fun q=>nomatch q.symm.trans ho;have S2:=(S'.setGen (x:=e.genState) (fun q=>(X.ggrow g q).elim I9 fun q=>nomatch q.symm.trans (mH G0)) (End.bare_of_quiet he.1)).consGen (a:=a) (gs:=e.genState) (Vb o nm qn (X.kept a o ho J1) r) (mH (X.gkept g _ (mH G0) I9)) (fun q=>(X.grow a q).elim J1 è) (fun q=>(X.ggrow g q).elim I9 fun q=>nomatch q.symm.trans (mH G0))
  (Option.eq_none_iff_forall_ne_some.mpr fun o e=>(X.zgrow a o e).elim (fun q=>nomatch hZ.symm.trans q) fun q=>q.elim J1 è)
 exact ht led _ Z' v g e.genState gl' S2 A _ _ (hQ _ Z' v ((a,.gen g e.genState)::gl') S2 V (X.unrun (x:=e.genState) (fun O O e=>e) rfl rfl (fun b=>WO _) (fun k=>WO _) (WM ..)
  (fun b hb=>(WT.mp hb).imp (fun e:b=a=>e▸WM ..) id) fun k hk q=>(WT.mp hk).resolve_left q) (ih hs))
end
theorem g5.gen(hG:m3 B)(ht:∀led s Z v g gs gl,f1 B s Z ((a,.gen g gs)::gl++led)->∀A (Q:Unit->WS->Prop) E,Q () s->Xq (Xn d7 w) A (Yg e8 (.ref a) v) Q E s) :
  ∀ {g:Nat} {gs:ZQ} {gl:aa},t6 d7 w B N n f0 gl gs->g5 d7 w B N (n+1) e8 a f0 ((a,.gen g gs)::gl):=by
 induction f0 with
 |nil=>exact fun h=>g5.gen_last hG h
 |cons row rest ih=>exact fun h=>g5.gen_draw hG ht ih h
end
section
variable{N:aa}
def yc(I:XC)(fp:List XC)(Pv:Nat->Value->Prop)(xs:List AV)(St:Nat->Heap->Prop)(i:Nat)(Z:f9)(o:Obj):Prop :=
 (∀b∈fp,b=I∨∃o,Z b=some o)/\(∀i x v,xs[i]?=some x->Pv i v->Val Z x v)/\(∀h:Heap,h.get? I=some o->(∀a o,Z a=some o->h.get? a=some o)->St i h)
theorem OO{I:XC}{fp:List XC}{Pv:Nat->Value->Prop}{St:Nat->Heap->Prop}(Z Z':f9)(o:Obj)(k:f9.le Z Z')(x:yc I fp Pv xs St i Z o):yc I fp Pv xs St i Z' o :=
 ⟨fun b hb=>(x.1 b hb).imp id fun⟨o,h⟩=>⟨o,k _ _ h⟩,fun i y v h1 h2=>(x.2.1 i y v h1 h2).mono k,fun h h1 h2=>x.2.2 h h1 fun a o e=>h2 a o (k a o e)⟩
noncomputable abbrev dy(I:XC)(fp:List XC)(Pv:Nat->Value->Prop)(xs:List AV)(St:Nat->Heap->Prop)(i:Nat):i9:=.obj (yc I fp Pv xs St i) OO
theorem g5.walks{I:XC}{fp:List XC}{Pv:Nat->Value->Prop}{St:Nat->Heap->Prop}
  (hW:∀A:Xg,A.handled=none->Walks d7 w A I fp [I] xs.length Pv St)
  (hlet:∀(A:Xg) i (s:WS) v Q E,St i s.heap->Q () s->Xq (Xn d7 w) A (Yg e8 (.ref I) v) Q E s) (Τ:∀i h,St i h->∃o,h.get? I=some o) (k:Nat) :
  ∀(d i:Nat),i+d=xs.length->g5 d7 w B N k e8 I (xs.drop i) [(I,dy I fp Pv xs St i)]:=by
 intro d;induction d with
 |zero =>
  intro i hi;have hi:i=xs.length:=hi;subst hi;rw[List.drop_length];intro A hA led hN s Z S Q E hQ;refine gR (S.own _ (WM ..)) fun o ho h1 h2 h3=>?_;refine(hW A hA.h).toS.done s _ _ (h3 _ ho S.frozen) fun s' mv=>?_;have P:=f1.stepE (gl:=[(I,dy I fp Pv xs St xs.length)]) S mv.heap mv.gens mv.os;exact hQ s' Z P.1 P.2
 |succ d ih =>
  intro i hi;have l8:i<xs.length:=hi▸Nat.lt_add_of_pos_right (Nat.succ_pos d);rw[YH l8];intro A hA led hN s Z S Q E hQ;refine gR (S.own _ (WM ..)) fun o ho h1 h2 h3=>?_;have W:=(hW A hA.h).toS;refine W.item i s _ _ l8 (h3 _ ho S.frozen) fun v s' hP e9 mv=>hlet A (i+1) s' v _ _ e9 ?_;refine ak (Τ _ _ e9) fun o' W6=>?_;have fro:∀a o,Z a=some o->s'.heap.get? a=some o:=fun a o e=>mv.heap a o (fun q=>nomatch (S.zkey (fR.mpr (.inl q)):Z a=none).symm.trans e) (S.frozen a o e);have T2:∀h:Heap,h.get? I=some o'->(∀a o,Z a=some o->h.get? a=some o)->St (i+1) h:=fun h e1 e2=>W.frame (i+1) s' h s'.toks e9 (Xy _) fun b hb ob e =>
   (h1 b hb).elim (fun q=>by subst q;exact e1.trans (W6.symm.trans e)) fun q=>ak q fun oz q=>(e2 _ _ q).trans ((fro _ _ q).symm.trans e)
  have P:=f1.stepS (gl:=[(I,dy I fp Pv xs St i)]) (gl':=[(I,dy I fp Pv xs St (i+1))]) S mv.heap (fun p hp=>Xi.mp hp▸Vc o' W6 h1 h2 T2) rfl rfl mv.gens mv.os;exact hQ s' Z v [(I,dy I fp Pv xs St (i+1))] P.1 (h2 i _ v (Xs l8) hP) P.2 (ih (i+1) ((Nat.succ_add_eq_add_succ i d).trans hi))
theorem f1.push{led:aa}(S:f1 B s Z led){ao:i9}(I9:ao.gnum=none)(tk:Nat)(hh:Holds Z {s with heap:=s.heap.push o,toks:=tk} s.heap.objs.size ao) :
  f1 B {s with heap:=s.heap.push o,toks:=tk} Z ((s.heap.objs.size,ao)::led)/\k8 (ah led) s Z {s with heap:=s.heap.push o,toks:=tk} Z (ah ((s.heap.objs.size,ao)::led)) :=
 S.newAt I9 tk (fun O O e=>WX o e) hh
theorem CM{I ax:XC}{v:Value}{Q:Unit->WS->Prop}(h:s.heap.IsListIter I ax i)(hQ:Q () s) :
  Xq (Xn d7 w) A (Yg e8 (.ref I) v) Q E s :=
 aU h fun o ho hc hd=>xX ho hc hd (.inl rfl) hQ
theorem DE{items:List Value}(fr:∀a o,Z a=some o->s.heap.get? a=some o)(e:Z a=some {cls:=.type "list",data:=.seq items.toArray n}):s.heap.IsList a items.toArray :=
 ⟨_,fr _ _ e,rfl,n,rfl⟩
theorem gh(h:∀it gl,g5 d7 w B N k e8 it xs gl->K (.ref it) ⟨st.loc,gl++st.led⟩):F1 d7 w A B d8 Val pyIter (.lst xs) st K:=fun s Z x V S Q E hQ=>by
 refine bC (lQ V) fun a items n qv e hv=>?_;subst qv;have hl:=DE S.frozen e;refine wpAny_pyIter_list hl ?_;have t0:a≠s.heap.objs.size:=Ys (XT (S.frozen _ _ e));have j3:items.toArray.size=xs.length:=by simp[hv.length]
 have hI:Heap.IsListIter (s.heap.push {cls:=.type "list_iterator",data:=.fields #[.ref a,.int 0 0]}) s.heap.objs.size a 0:=⟨_,WW _ rfl,rfl,rfl⟩;have P:=S.tof1.push (o:={ cls:=.type "list_iterator",data:=.fields #[.ref a,.int 0 0]}) (ao:=dy s.heap.objs.size [s.heap.objs.size,a] (fun i v=>items.toArray[i]?=some v) xs (fun i h=>h.IsListIter s.heap.objs.size a i/\h.IsList a items.toArray) 0) rfl s.toks
  ⟨_,WW _ rfl,fun b hb=>by
   simp only[WT,YM,or_false] at hb;rcases hb with rfl |rfl
   ·exact .inl rfl
   ·exact .inr ⟨_,e⟩,fun i y v h1 h2=>by
   refine ad (hv.get h1) fun u e1 e2=>?_;simp only[List.getElem?_toArray] at h2;rw[e1] at h2;cases h2
   exact e2,fun h e1 e2=>⟨⟨_,e1,rfl,rfl⟩,_,e2 _ _ e,rfl,n,rfl⟩⟩
 refine hQ _ _ _ Z _ (h s.heap.objs.size _ (g5.walks (d7:=d7) (w:=w) (B:=B) (e8:=e8) (xs:=xs) (fun A hA=>by exact(j3)▸Walks.list hA s.heap.objs.size a t0 items.toArray) (fun A i s v Q E m8 hq=>CM m8.1 hq) (fun i h m8=>by refine ad m8.1 fun o ho O=>?_;exact⟨o,ho⟩) k xs.length 0 ⋯)) (S.after P.1 P.2) (.ref _) P.2.toF
end
section
variable{N:aa}
theorem g8.perm{l l':aa}(S:g8 B d8 s Z ⟨loc,l⟩)(p:l.Perm l'):g8 B d8 s Z ⟨loc,l'⟩ :=
 ⟨S.tof1.perm p,S.locZ,fun h=>S.locL ((p.map _).mem_iff.mpr h),S.loc,S.kinds,S.fn⟩
theorem en{l l':aa}(p:l.Perm l'):aw d8 ⟨loc,l⟩=aw d8 ⟨g9,l'⟩:=by
 unfold aw;congr 1
 ·funext a;exact propext ⟨Or.imp id (p.map _).mem_iff.mp,Or.imp id (p.map _).mem_iff.mpr⟩
 ·funext a;exact propext (p.filterMap _).mem_iff
theorem T.perm{rel:f9->α->β->Prop}{t:Sem β}{l l':aa}{K:α->St->Prop}(p:l.Perm l')(h:T d7 w A B d8 rel t ⟨loc,l'⟩ K):T d7 w A B d8 rel t ⟨loc,l⟩ K :=
 fun s Z S Q E hQ=>h s Z (S.perm p) Q E fun v x s' Z' e9 k S' V X=>hQ v x s' Z' e9 k S' V (by rw[en (d8:=d8) (loc:=loc) (g9:=loc) p];exact X)
theorem g8.drop{l l':aa}(S:g8 B d8 s Z ⟨loc,l++l'⟩):g8 B d8 s Z ⟨loc,l'⟩ :=
 ⟨S.tof1.drop,S.locZ,fun h=>S.locL (by rw[keys,Xr];exact Xx _ h),S.loc,S.kinds,S.fn⟩
theorem k8.dropF{o:L7}{s':WS}{Z':f9}{l l':aa}(X:k8 o s Z s' Z' (aw d8 ⟨loc,l++l'⟩)):k8 o s Z s' Z' (aw d8 ⟨g9,l'⟩) :=
 X.less (fun a h=>h.imp id fun h=>by rw[keys,Xr];exact Xx _ h) fun a h=>by
  show a∈gkeys (l++l');unfold gkeys;rw[ZC];exact Xx _ h
theorem tx{x:AV}{gl l:aa}(h:g5 d7 w B N k e8 it (x::xs) gl)(hA:g7 A k)(hN:n7 N l)(S:g8 B d8 s Z ⟨loc,l++gl⟩)
  {Q:Option Value->WS->Prop} 
  (hQ:∀s' Z' v gl',g8 B d8 s' Z' ⟨loc,l++gl'⟩->Val Z' x v->k8 (aw d8 ⟨loc,l++gl⟩) s Z s' Z' (aw d8 ⟨loc,l++gl'⟩)->g5 d7 w B N k e8 it xs gl'->Q (some v) s') :
  Xq (Xn d7 w) A (Zl (.ref it)) (fun r s₁=>match r with |none=>False |some v=>Xq (Xn d7 w) A (Yg e8 (.ref it) v) (fun O s2=>Q (some v) s2) E s₁) E s :=
 h A hA l hN s Z (S.tof1.perm Xd) Q E fun s' Z' v gl' S' V X hi=>by
  have u7:=S'.perm (Xd (l₁:=gl') (l₂:=l));have X':k8 (ah (l++gl)) s Z s' Z' (ah (l++gl')):=by
   rw[dM (Xd (l₁:=l) (l₂:=gl)),dM (Xd (l₁:=l) (l₂:=gl'))];exact X
  exact hQ s' Z' v gl' (S.after u7 X') V X'.toF hi
theorem ty{gl l:aa}(h:g5 d7 w B N k e8 it [] gl)(hA:g7 A k)(hN:n7 N l)(S:g8 B d8 s Z ⟨loc,l++gl⟩)
  {Q:Option Value->WS->Prop} 
  (hQ:∀s' Z',g8 B d8 s' Z' ⟨loc,l⟩->k8 (aw d8 ⟨loc,l++gl⟩) s Z s' Z' (aw d8 ⟨loc,l⟩)->Q none s'):Xq (Xn d7 w) A (Zl (.ref it)) Q E s :=
 h A hA l hN s Z (S.tof1.perm Xd) Q E fun s' Z' S' X=>by
  have X':k8 (ah (l++gl)) s Z s' Z' (ah l):=by
   rw[dM (Xd (l₁:=l) (l₂:=gl))];exact X
  exact hQ s' Z' (S.after S' X') X'.toF
theorem Sc{R:Result->WS->Prop}{e8 it body d8}(I:Nat->WS->Prop)
  (turn:∀n s,I n s->Xq (Xn d7 w) A (Zl it) (fun r s₁=>match r with
   |none=>R (.ok .next) s₁
   |some v=>Xq (Xn d7 w) A (Yg e8 it v) (fun O s₁=>Xq (Xn d7 w) A (YE e8 d8 v) (fun O s2=>Xq (Xn d7 w) A (execs body d8) (fun f s3=>match f with
     |.next |.cont=>∃m,m<n/\I m s3
     |.brk=>R (.ok .next) s3
     |.ret v=>R (.ok (.ret v)) s3) (notedBy (Xn d7 w) A d8 fun e s'=>R (.error e) s') s2) (notedBy (Xn d7 w) A d8 fun e s'=>R (.error e) s') s₁) (notedBy (Xn d7 w) A d8 fun e s'=>R (.error e) s') s₁)
    (notedBy (Xn d7 w) A d8 fun e s'=>R (.error e) s') s)
  (n:Nat) (h:I n s):codeAny (Xn d7 w) A (.forLoop e8 it body [] d8) R s:=by
 refine codeAny_loop' rfl I (fun n s hI=>?_) n h;show Xq _ _ ((forTurn e8 it body [] d8).onRaise (fun x=>do noteFrame x d8;theTreesLotGoes x)) _ _ s;refine wpAny_noted ?_;simp only[forTurn];refine WL (XB (WL (wpAny_onRaise (XU (turn n s hI) (fun r s₁ h1=>?_) fun O O h'=>XB h'))));cases r with
 |none=>exact WN (.inr ⟨rfl,codeAny_block (wpAny_execs_nil h1)⟩)
 |some v =>
  refine WL (XU h1 (fun O s₁ h1=>?_) fun O O h'=>h');refine WL (XU h1 (fun O s2 h2=>WL (XU h2 (fun f s3 M2=>?_) fun O O h'=>h')) fun O O h'=>h');cases f with
  |next=>exact WN (.inl ⟨rfl,M2⟩)
  |cont=>exact WN (.inl ⟨rfl,M2⟩)
  |brk=>exact WN M2
  |ret v=>exact WN M2
inductive G2 (J:List AV->St->Prop) (K:g6->St->Prop) (xs:List AV) (gl:aa):g6->St->Prop
 |next {loc:List (Str×AV)} {l:aa} (h:J xs ⟨loc,l⟩):G2 J K xs gl .next ⟨loc,l++gl⟩
 |cont {loc:List (Str×AV)} {l:aa} (h:J xs ⟨loc,l⟩):G2 J K xs gl .cont ⟨loc,l++gl⟩
 |brk {loc:List (Str×AV)} {l:aa} (h:K .next ⟨loc,l⟩):G2 J K xs gl .brk ⟨loc,l++gl⟩
 |ret {v:AV} {loc:List (Str×AV)} {l:aa} (h:K (.ret v) ⟨loc,l⟩):G2 J K xs gl (.ret v) ⟨loc,l++gl⟩
theorem G2.nextE{J:List AV->St->Prop}{K:g6->St->Prop}{gl l led:aa}(e:led=l++gl)(h:J xs ⟨loc,l⟩):G2 J K xs gl .next ⟨loc,led⟩:=e▸.next h
inductive π (d7:Xh) (w:Xo) (B:f9) (N:aa) (k:Nat) (e8:Expr) (J:List AV->St->Prop):AV->St->Prop
 |mk {it:XC} {gl l:aa} {items:List AV} {loc:List (Str×AV)} (hI:g5 d7 w B N k e8 it items gl) (hJ:J items ⟨loc,l⟩):π d7 w B N k e8 J (.ref it) ⟨loc,gl++l⟩
def Fv(d7:Xh)(w:Xo)(B:f9)(d8:Env)(N:aa)(k:Nat)(e8:Expr)(it:XC)(J:List AV->St->Prop)(st:St)(s:WS)(Z:f9)(n:Nat)(s':WS):Prop :=
 ∃Z' g9 l' gl' xs,n=xs.length/\g8 B d8 s' Z' ⟨g9,l'++gl'⟩/\g5 d7 w B N k e8 it xs gl'/\J xs ⟨g9,l'⟩/\k8 (aw d8 st) s Z s' Z' (aw d8 ⟨g9,l'++gl'⟩)
theorem g8.front{l gl:aa}(S:g8 B d8 s Z ⟨loc,l++gl⟩):g8 B d8 s Z ⟨loc,l⟩:=(S.perm Xd).drop
theorem k8.front{o:L7}{s':WS}{Z':f9}{l gl:aa}(X:k8 o s Z s' Z' (aw d8 ⟨loc,l++gl⟩)):k8 o s Z s' Z' (aw d8 ⟨loc,l⟩) :=
 k8.dropF (loc:=loc) (l:=gl) (en (d8:=d8) (loc:=loc) (g9:=loc) (Xd (l₁:=l) (l₂:=gl))▸X)
theorem TS{J:List AV->St->Prop}{K:g6->St->Prop}(hA:g7 A k)
  (p8:T d7 w A B d8 Val (Yw iter d8) st fun v j9=>F1 d7 w A B d8 Val pyIter v j9 (π d7 w B N k e8 J))
  (step:∀x xs e9 gl,J (x::xs) e9->F1 d7 w A B d8 aJ (YE e8 d8) x ⟨e9.loc,e9.led++gl⟩ fun O u6=>T d7 w A B d8 j5 (execs body d8) u6 (G2 J K xs gl))
  (hN:∀items e9,J items e9->n7 N e9.led) (done:∀e9,J [] e9->K .next e9) (hs:∀x,ZI iter d8 x=YV x) :
  T d7 w A B d8 j5 (exec (.For e8 iter body [] pos) d8) st K:=fun s Z S Q E hQ=>by
 refine wpAny_For (p8 s Z S _ _ fun v x s₁ Z1 j9 k₁ S1 V1 X1=>k₁ s₁ Z1 x V1 S1 _ _ fun u y s2 Z2 m5 k2 S2 V2 X2=>π.rec (motive:=fun u m5 O=>g8 B d8 s2 Z2 m5->Val Z2 u y->k8 (aw d8 st) s Z s2 Z2 (aw d8 m5)->_) (fun{it gl l items t8} hit hJ S2 V2 X0=>?_) k2 S2 V2 (X1.trans X2)) hs;have ey:y=.ref it:=V2.inv;subst ey;clear V2 k2 k₁ V1 S1 X1 X2;refine Sc (Fv d7 w B d8 N k e8 it J st s Z) ?_ items.length ⟨Z2,t8,l,gl,items,rfl,S2.perm Xd,hit,hJ,en (d8:=d8) (loc:=t8) (g9:=t8) (Xd (l₁:=gl) (l₂:=l))▸X0⟩;clear X0 S2 hit hJ;intro n s' Y3;refine WC Y3 fun Z' g9 l' gl' xs e S' C1 W9 X'=>?_;clear Y3;subst e;cases xs with
 |nil=>exact ty C1 hA (hN _ _ W9) S' fun s3 Z3 S3 X3=>hQ .next .next s3 Z3 _ (done _ W9) S3 .next (X'.trans X3)
 |cons x xs =>
  refine XU (tx C1 hA (hN _ _ W9) S' (Q:=fun r s₁=>match r with
   |none=>False
   |some v=>Xq (Xn d7 w) A (YE e8 d8 v) (fun O s2=>Xq (Xn d7 w) A (execs body d8) (fun f s3=>match f with
     |.next |.cont=>∃m,m<(x::xs).length/\Fv d7 w B d8 N k e8 it J st s Z m s3
     |.brk=>Q .next s3
     |.ret v=>Q (.ret v) s3) (notedBy (Xn d7 w) A d8 fun e s'=>cameBackBy (Xn d7 w) A d8 E e s') s2) (notedBy (Xn d7 w) A d8 fun e s'=>cameBackBy (Xn d7 w) A d8 E e s') s₁)
   fun s3 Z3 v gl3 S3 V3 X3 H6=>step x xs ⟨g9,l'⟩ gl3 W9 s3 Z3 v V3 S3 _ _ fun O O s4 Z4 y9 k4 S4 O X4=>k4 s4 Z4 S4 _ _ fun f y s5 Z5 R7 k5 S5 V5 X5=>?_) (fun r s₁ h1=>?_) fun O O h=>h
  ·have X6:=((X'.trans X3).trans X4).trans X5;clear k4 S4 X4 X5 X3 S3 V3 X' S' C1 W9 step p8 done;induction V5 with
   |next=>cases k5 with |next k=>exact⟨xs.length,Zv _,Z5,_,_,gl3,xs,rfl,S5,H6,k,X6⟩
   |cont=>cases k5 with |cont k=>exact⟨xs.length,Zv _,Z5,_,_,gl3,xs,rfl,S5,H6,k,X6⟩
   |brk=>cases k5 with |brk k=>exact hQ .next .next s5 Z5 _ k S5.front .next X6.front
   |ret hv=>cases k5 with |ret k=>exact hQ _ _ s5 Z5 _ k S5.front (.ret hv) X6.front
  ·cases r with
   |none=>exact h1.elim
   |some v=>exact h1
end
section
variable{N:aa}{n m:Nat}
theorem Sk.push{c c':Code}{fs:List Frame}{k:Result->Sem PySem.Fin}{l:List Value}{p:Pos}(h:Sk n m c fs)(h1:c'.weight=0)(h2:c'.cUnits=0):Sk n m c' (.ret k none false l c p []::fs) where
 room:=fun A hA=>by
  have R:=h.room A hA;refine⟨?_,?_,?_⟩
  ·show (marksOver (.ret k none false l c p []::fs) (A.handled,A.handled)).1=none
   have:=R.h;simpa[Around.over,marksOver,Frame.marks,markOver] using this
  ·have:=R.d;simp only[Around.over,WY,Frame.where_,frameCount_cons,h1] at this ⊢;omega
  ·have:=R.u;simp only[Around.over,WY,Frame.where_,unitsOf_cons,h2] at this ⊢;omega
 split:=by simp only[splitAtGen,h.split,Option.map_none]
 quiet:=by simp only[List.any_cons,Frame.guarded,h.quiet,Bool.or_false]
noncomputable def tX(e8:Expr)(it:Value)(body:List Stmt)(d8:Env)(v:Value):Sem PySem.Fin :=
 YE e8 d8 v>>=fun O=>execs body d8>>=fun f=>match f with
  |.next |.cont => .pure (.again (.forLoop e8 it body [] d8))
  |.brk => .pure (.done .next)
  |.ret v => .pure (.done (.ret v))
noncomputable def sU(e8:Expr)(it:Value)(body:List Stmt)(d8:Env)(r:Option Value):Sem PySem.Fin :=
 match r with
 |none => .pure (.again (.block [] d8))
 |some v=>Yg e8 it v>>=fun O=>tX e8 it body d8 v
theorem Qc{it:Value}:forTurn e8 it body [] d8=(standAt e8.pos>>=fun O=>((Zl it).onRaise (fun O=>standAt {e8.pos with line:=0}))>>=sU e8 it body d8):=by
 unfold forTurn sU tX;congr 1
theorem Eh{it:Value}:∃H,(Xn d7 w).den (.forLoop e8 it body [] d8) =
  .at e8.pos fun O=>(Zl it).wrap (fun r=>(sU e8 it body d8 r).wrap .pure (fun e=>(do noteFrame e d8;theTreesLotGoes e:Sem Unit).bind fun O => .raise e) id id) H id id:=by
 apply Exists.intro
 ·show (forTurn e8 it body [] d8).onRaise (fun x=>do noteFrame x d8;theTreesLotGoes x)=_;rw[Qc,ZN];show Sem.at e8.pos (fun O=>Sem.wrap _ _ _ _ (((Zl it).onRaise (fun O=>standAt {e8.pos with line:=0}))>>=sU e8 it body d8))=_;rw[Ym,ZN,YK,YK];rfl
inductive I1 (J:List AV->St->List AV->Prop) (K:g6->St->List AV->Prop) (xs:List AV) (gl:aa):g6->St->List AV->Prop
 |next {loc:List (Str×AV)} {l:aa} {f0:List AV} (h:J xs ⟨loc,l⟩ f0):I1 J K xs gl .next ⟨loc,l++gl⟩ f0
 |cont {loc:List (Str×AV)} {l:aa} {f0:List AV} (h:J xs ⟨loc,l⟩ f0):I1 J K xs gl .cont ⟨loc,l++gl⟩ f0
 |brk {loc:List (Str×AV)} {l:aa} {f0:List AV} (h:K .next ⟨loc,l⟩ f0):I1 J K xs gl .brk ⟨loc,l++gl⟩ f0
 |ret {v:AV} {loc:List (Str×AV)} {l:aa} {f0:List AV} (h:K (.ret v) ⟨loc,l⟩ f0):I1 J K xs gl (.ret v) ⟨loc,l++gl⟩ f0
inductive V7 (d7:Xh) (w:Xo) (B:f9) (N:aa) (n m:Nat) (d8:Env) (e8:Expr) (v:AV) (body:List Stmt) (gl:aa) (K:g6->St->List AV->Prop) (st:St) (f0:List AV):Prop
 |mk {loc:List (Str×AV)} (h:∀A,g7 A m->∀led,n7 N led->F1 d7 w A B d8 aJ (YE e8 d8) v ⟨st.loc,(st.led++gl)++led⟩ fun O s=>s=⟨loc,(st.led++gl)++led⟩) (k:TG d7 w B N n m d8 (execs body d8) ⟨loc,st.led++gl⟩ f0 K):V7 d7 w B N n m d8 e8 v body gl K st f0
theorem IM{K:g6->St->List AV->Prop}{J:List AV->St->List AV->Prop}(hk:k<=m)
  (step:∀x xs e9 j6 gl,J (x::xs) e9 j6->V7 d7 w B N n m d8 e8 x body gl (I1 J K xs gl) e9 j6)
  (done:∀e9 j6,J [] e9 j6->K .next e9 j6) {fs:List Frame} (hs:Sk n m (.forLoop e8 (.ref it) body [] d8) fs) (hb:Sk n m (.block [] d8) fs)
  (hK:∀f x e9 j6,K f e9 j6->B9 f x->∀c,jn d7 w B N n d8 c (.pure (.done x)) fs j6 e9) :
  ∀(xs:List AV) (st:St) (f0:List AV) (gl:aa),g5 d7 w B N k e8 it xs gl->J xs st f0 ->
   jn d7 w B N n d8 (.forLoop e8 (.ref it) body [] d8) ((Xn d7 w).den (.forLoop e8 (.ref it) body [] d8)) fs f0 ⟨st.loc,st.led++gl⟩:=by
 intro xs;induction xs with
 |nil =>
  intro st f0 gl hit hJ A hA led hN o7 o6 Z0 s Z S X;refine ak (Eh (d7:=d7) (w:=w) (d8:=d8) (e8:=e8) (it:=.ref it) (body:=body)) fun H hH=>?_;rw[hH];refine gY ?_;have Sp:g8 B d8 s Z ⟨st.loc,(st.led++led)++gl⟩:=S.perm (by
   simp only[Xv];exact d4 _ Xd)
  refine dJ (ty hit ((hs.room A hA).mono hk) (hN.app _) Sp fun s3 Z3 S3 X3=>?_);show aT _ A _ _ (.pure (.again (.block [] d8))) fs s3;refine mI rfl ?_;show aT _ A _ _ (.pure (.done .next)) fs s3;refine hK .next .next st f0 (done st f0 hJ) .next _ A hA led hN o7 o6 Z0 s3 Z3 S3 (X.trans ?_);exact(Eq.symm (en (d8:=d8) (loc:=st.loc) (g9:=st.loc) (l:=(st.led++gl)++led) (l':=(st.led++led)++gl) (by
   simp only[Xv];exact d4 _ Xd)))▸X3
 |cons x xs ih =>
  intro st f0 gl hit hJ A hA led hN o7 o6 Z0 s Z S X;refine ak (Eh (d7:=d7) (w:=w) (d8:=d8) (e8:=e8) (it:=.ref it) (body:=body)) fun H hH=>?_;rw[hH];refine gY ?_;have P:((st.led++gl)++led).Perm ((st.led++led)++gl):=by
   simp only[Xv];exact d4 _ Xd
  have Sp:g8 B d8 s Z ⟨st.loc,(st.led++led)++gl⟩:=S.perm P;rw[en (d8:=d8) (loc:=st.loc) (g9:=st.loc) P] at X;refine dJ (XU (tx hit ((hs.room A hA).mono hk) (hN.app _) Sp (Q:=fun r s₁=>match r with
   |none=>False
   |some v=>aT (Xn d7 w) A (pM d7 w B N n f0 led o7 o6 Z0) (.forLoop e8 (.ref it) body [] d8) ((tX e8 (.ref it) body d8 v).wrap .pure (fun e=>(do noteFrame e d8;theTreesLotGoes e:Sem Unit).bind fun O => .raise e) id id) fs s₁)
   (E:=fun O O=>False) fun s3 Z3 v gl3 S3 V3 X3 H6=>?_) (fun r s₁ h1=>?_) fun O O h=>h.elim)
  ·dsimp only;unfold tX;rw[Ym,YK];have P3:((st.led++led)++gl3).Perm ((st.led++gl3)++led):=by
    simp only[Xv];exact d4 _ Xd
   have X':=X.trans X3;rw[en (d8:=d8) (loc:=st.loc) (g9:=st.loc) P3] at X';refine V7.rec (fun{loc4} h k=>?_) (step x xs st f0 gl3 hJ);refine dJ (h _ (hs.room A hA) led hN s3 Z3 v V3 (S3.perm P3) _ _ fun O O s4 Z4 y9 e S4 O X4=>?_);subst e;rw[Ym,YK];refine k _ fs _ _ _ _ hs rfl (fun f y R7 G5 k5 p=>?_) A hA led hN o7 o6 Z0 s4 Z4 S4 (X'.trans X4);clear k h S4 X4 X' S3 V3 X3 X Sp P P3 S hJ step;have U5:∀ {y1 l5},J xs ⟨y1,l5⟩ G5->jn d7 w B N n d8 (.forLoop e8 (.ref it) body [] d8) (.pure (.again (.forLoop e8 (.ref it) body [] d8))) fs G5 ⟨y1,l5++gl3⟩:=fun W9 A' f8 led' l3 A3 s' Z' z1 y0 u7 J2 =>
    mI rfl (ih ⟨_,_⟩ G5 gl3 H6 W9 A' f8 led' l3 A3 s' Z' z1 y0 u7 J2)
   have a_:∀ {y1 l5 f' x'},K f' ⟨y1,l5⟩ G5->B9 f' x'->jn d7 w B N n d8 (.forLoop e8 (.ref it) body [] d8) (.pure (.done x')) fs G5 ⟨y1,l5++gl3⟩:=fun{y1 l5 f' x'} M_ p' A' f8 led' l3 A3 s' Z' z1 y0 u7 J2=>by
    have P5:((l5++gl3)++led').Perm (gl3++(l5++led')):=by
     have:((l5++gl3)++led').Perm ((gl3++l5)++led'):=List.Perm.append_right _ Xd;rwa [Xv gl3] at this
    refine hK f' x' ⟨y1,l5⟩ G5 M_ p' _ A' f8 led' l3 A3 s' Z' z1 y0 ((u7.perm P5).drop) (k8.dropF (loc:=y1) (l:=gl3) ?_);exact(en (d8:=d8) (loc:=y1) (g9:=y1) P5)▸J2
   induction p with
   |next=>cases k5 with |next k=>exact U5 k
   |cont=>cases k5 with |cont k=>exact U5 k
   |brk=>cases k5 with |brk k=>exact a_ (f':=.next) k .next
   |ret=>cases k5 with |ret k=>exact a_ (f':=.ret .none) k .ret
  ·cases r with
   |none=>exact h1.elim
   |some v =>
    show aT _ A _ _ (Sem.wrap _ _ _ _ (Yg e8 (.ref it) v>>=_)) fs s₁;rw[Ym,YK];exact dJ (XU h1 (fun O s2 h2=>h2) fun O O h=>h.elim)
end
section
variable{N:aa}{n m:Nat}
inductive V8 (d7:Xh) (w:Xo) (B:f9) (N:aa) (k:Nat) (e8:Expr) (led:aa) (J:List AV->St->List AV->Prop) (f0:List AV):AV->St->Prop
 |mk {it:XC} {gl l:aa} {items:List AV} {loc:List (Str×AV)} (hI:g5 d7 w B N k e8 it items gl) (hJ:J items ⟨loc,l⟩ f0):V8 d7 w B N k e8 led J f0 (.ref it) ⟨loc,gl++(l++led)⟩
theorem Uc{J:List AV->St->List AV->Prop}{K:g6->St->List AV->Prop}(hk:k<=m)
  (p8:∀A,g7 A m->∀led,n7 N led->T d7 w A B d8 Val (Yw iter d8) ⟨st.loc,st.led++led⟩ fun v j9=>F1 d7 w A B d8 Val pyIter v j9 (V8 d7 w B N k e8 led J f0))
  (step:∀x xs e9 j6 gl,J (x::xs) e9 j6->V7 d7 w B N n m d8 e8 x body gl (I1 J K xs gl) e9 j6)
  (done:∀e9 j6,J [] e9 j6->K .next e9 j6) (hs:∀x,ZI iter d8 x=YV x) :
  TG d7 w B N n m d8 (exec (.For e8 iter body [] pos) d8) st f0 K:=fun c fs Kc H gd lv hsk hg hK A hA led hN o7 o6 Z0 s Z S X=>by
 rw[exec_For];refine gY ?_;show aT _ A _ c ((Yw iter d8>>=fun x=>ZI iter d8 x>>=fun x=>standAt iter.pos>>=fun O=>b9 [x] (pyIter x)>>=fun it=>runOwn (.forLoop e8 it body [] d8) d8).wrap Kc H gd lv) fs s;rw[Ym,YK];refine dJ (p8 _ (hsk.room A hA) led hN s Z S _ _ fun v x s₁ Z1 j9 k₁ S1 V1 X1=>?_);rw[hs x];refine gY ?_;show aT _ A _ c ((b9 [x] (pyIter x)>>=fun it=>runOwn (.forLoop e8 it body [] d8) d8).wrap Kc H gd lv) fs s₁;rw[Ym,YK];refine dJ (Xc (k₁ s₁ Z1 x V1 S1 _ _ fun u y s2 Z2 m5 k2 S2 V2 X2=>V8.rec (motive:=fun u m5 O=>g8 B d8 s2 Z2 m5->Val Z2 u y->k8 (aw d8 ⟨st.loc,st.led++led⟩) s Z s2 Z2 (aw d8 m5)->_) (fun{it gl l items t8} hit hJ S2 V2 X9=>?_) k2 S2 V2 (X1.trans X2)));have ey:y=.ref it:=V2.inv;subst ey;refine IQ fun p=>?_;have hgf:gd false=false:=hg;rw[hgf];have J8:=hsk.push (c':=.forLoop e8 (.ref it) body [] d8) (k:=(fun r=>((match r with |.ok f=>(.pure f:Sem Flow) |.error e => .raise e).onRaise fun(x:Value)=>do
    if (← field x 1)==Yp then unsupported "frame.own-activation:exception-without-traceback"
    setFlight x d8.frame).wrap Kc H gd lv)) (l:=lv []) (p:=p) rfl rfl
 have r_:=hsk.push (c':=.block [] d8) (k:=(fun r=>((match r with |.ok f=>(.pure f:Sem Flow) |.error e => .raise e).onRaise fun(x:Value)=>do
    if (← field x 1)==Yp then unsupported "frame.own-activation:exception-without-traceback"
    setFlight x d8.frame).wrap Kc H gd lv)) (l:=lv []) (p:=p) rfl rfl
 have P:(gl++(l++led)).Perm ((l++gl)++led):=by
  rw[← Xv];exact List.Perm.append_right _ Xd
 have X':=X.trans X9;rw[en (d8:=d8) (loc:=t8) (g9:=t8) P] at X';refine IM (K:=K) (J:=J) hk step done J8 r_ (fun f x e9 j6 k' p' c' A' f8 led' l3 A3 s' Z' z1 y0 u7 J2=>?_) items ⟨t8,l⟩ f0 gl hit hJ A hA led hN o7 o6 Z0 s2 Z2 (S2.perm P) X';refine IP (.ok x) ?_;exact hK f x e9 j6 k' p' A' f8 led' l3 A3 s' Z' z1 y0 u7 J2
theorem Sk.func:Sk (m+3) m (.func body d8) [] where
 room:=fun A hA=>⟨hA.h,by
  have:=hA.d;show A.depth+0+1+m<=_;omega,by
  have:=hA.u;show A.units+0+3+m<=_;omega⟩
 split:=rfl
 quiet:=rfl
theorem t6.fresh{l:aa}(hk:∀x v,loc.lookup x=some v->d8.kindOf x=some .local)(hf:d8.scope.kind=.function)
  (h:TG d7 w B N (m+3) m d8 (execs body d8) ⟨loc,l⟩ f0 fun f st j6=>j6=[]):t6 d7 w B N (m+3) f0 ((d8.locals,.ns loc)::l) (.fresh (.func body d8)):=by
 rw[t6.iff];intro A hA led hN s Z S;show aT _ A _ _ (.point [] fun O=>((execs body d8).onRaise (leaving d8))>>=_) [] s;refine IN ?_;have SF:g8 B d8 s Z ⟨loc,l++led⟩:=f1.toF (st:=⟨loc,l++led⟩) S hk hf;rw[ZN,Ym,YK];refine h _ [] _ _ _ _ Sk.func rfl (fun f x e9 j6 k p A' f8 led' l3 A3 s' Z' z1 y0 u7 J2=>?_) A hA led hN _ s Z s Z SF (by rw[dk];exact .refl);subst k;have fin:aT (Xn d7 w) A' (pM d7 w B N (m+3) [] led' A3 s' Z') (.func body d8) (.pure (.done (.ret .none))) [] z1:=by
  refine AK (.ok (.ret .none)) ⟨.inl rfl,y0,(u7.tof1).drop (l:=e9.led),?_⟩;refine J2.less (fun a h => .inr ?_) fun a h=>?_
  ·show a∈keys (e9.led++led');rw[keys,Xr];exact Xx _ h
  ·show a∈gkeys (e9.led++led');unfold gkeys;rw[ZC];exact Xx _ h
 induction p with
 |next=>exact fin
 |brk=>exact fin
 |cont=>exact fin
 |ret=>exact fin
theorem Us{f:XC}{fd:a8}{led:aa}{K:AV->aa->Prop}{c:XC}{oc:Obj}{vs:Array Value}{tq:Tok}
  (hG:m3 B) (ho:B f=some o) (hd:o.data=.func fd) (C6:fd.scope.isCoroutine=false) (M6:fd.scope.isGenerator=true) (hk:fd.scope.kind=.function) (y5:fd.body=.stmts body)
  (o5:∀x∈fd.scope.names,x.2 ≠ .cell)
  (hc:fd.code=.ref c) (I7:B c=some oc) (A5:oc.data=.fields vs) (hq:vs[1]?=some (.str fd.qualname tq)) (n9:A.depth<YU)
  (hb:Binds d7 w A.in1 B fd args kw binds) (u8:∀x∈binds.map (·.1),fd.scope.names.lookup x=some .local)
  (h:∀L a g,K (.ref a) ((a,.gen g (.fresh (.func body (cy fd.scope L fd.globals fd.closure fd.qualname f fd.code fd.builtins))))::(L,.ns binds.reverse)::led)) :
  TC d7 w A B (.ref f) args kw led K:=fun s Z fx xs ks S hf hx H5 R hR=>by
 cases hf
 refine codeAny_call_generator n9 (S.frozen _ _ (S.base _ _ ho)) hd C6 M6 y5 ⟨c,oc,vs,tq,hc,S.frozen _ _ (S.base _ _ I7),A5,hq⟩ ?_;refine hb s Z led xs ks S hx H5 _ _ fun bs s₁ Z1 S1 G1 X1=>?_;have hR:=hR.after X1;clear X1 S;revert s₁ Z1;intro s Z S G1 hR;refine wpAny_newFunctionEnv (around:=none) o5 (fun x hx=>u8 x.1 (G1.keys▸Xm hx)) (fun h1 C9 y3=>?_) hk;have keep:∀b o,s.heap.get? b=some o->h1.get? b=some o:=fun b o e=>y3.extBut b o (Ys (XT e)) (WX _ e);refine⟨hG.lim _ fun a o e=>keep a o (S.frozen a o (S.base a o e)),?_⟩;have hf:=fk s;have hf1:=fk {s with heap:=h1};have t0:h1.objs.size≠s.heap.objs.size:=jq C9 fun ob O O g O=>Nat.ne_of_gt (XT g);generalize I8:({cls:=.type "generator",data:=.fields #[.int s.gens.size 0,.str fd.name (s.toks+bs.length),.str fd.qualname (s.toks+bs.length+1)]}:Obj)=go;have D4:∀b o,s.heap.get? b=some o->(h1.push go).get? b=some o:=fun b o e=>WX go (keep b o e);have w_:(h1.push go).get? h1.objs.size=some go:=WW _ (by subst I8;rfl);have K5:s.gens[s.gens.size]?=none:=ZW (Xy _);have hfb:=yJ (s:=s) (s₁:={ s with heap:=h1}) keep hf1;have hgl:s.gens.size∉gkeys led:=fun q=>by
  refine ad (List.mem_filterMap.mp q) fun p hp e=>?_
  have:=S.own p hp;obtain⟨a,ob⟩:=p;cases ob with
  |gen g gs=>exact nomatch K5.symm.trans (show s.gens[s.gens.size]?=some gs from(Zi e:g=s.gens.size)▸this.2)
  |_=>exact nomatch e
 have K9:∀g (gs x:ZQ),s.gens[g]?=some gs->(s.gens.push x)[g]?=some gs:=fun g gs x e=>by
  rw[Array.getElem?_push,if_neg (ak (Array.getElem?_eq_some_iff.mp e) fun l8 O=>Ys l8)];exact e
 refine hR (.ref h1.objs.size) _ _ Z _ (h s.heap.objs.size h1.objs.size s.gens.size) (f1.cons (f1.cons (S.keep D4 (fun g gs e=>K9 g gs _ e) fun x hx=>(Array.mem_push.mp hx).elim (S.bare x) fun e=>e▸rfl) (S.lfree hf) (S.zfree hf)
   (z5.mono (.refl _) (fun o e=>WX go e) ⟨_,C9,fun y=>G1.reverse.lookup y⟩) S.gnodup) (fun q=>(WT.mp q).elim t0 (S.lfree hfb)) (S.zfree hfb)
   ⟨⟨go,_,_,w_,by subst I8;rfl,by subst I8;rfl,by subst I8;rfl⟩,(Array.getElem?_push ..).trans ((if_pos rfl).trans rfl)⟩ (Xj.mpr ⟨hgl,S.gnodup⟩)) (.ref _)
  ⟨.refl _,fun a o e O=>D4 a o e,fun a ha=>(WT.mp ha).elim (fun e => .inr (e▸hfb)) fun q=>(WT.mp q).elim (fun e => .inr (e▸hf)) .inl,fun O O e => .inl e,rfl,fun g gs e O=>K9 g gs _ e,
   fun g hg=>(WT.mp (show g∈s.gens.size::gkeys led from hg)).elim (fun e => .inr (e▸K5)) .inl⟩
theorem OE{fd:a8}{L f c:XC}(u8:((binds.map (·.1)).all fun x=>decide (fd.scope.names.lookup x=some .local))=true) :
  ∀x v,binds.reverse.lookup x=some v->(ba fd L f c).kindOf x=some .local:=fun x v e=>of_decide_eq_true (XF.mp u8 x (CE e))
def n8(d7:Xh)(w:Xo)(B:f9)(N:aa)(n:Nat)(f0:List AV)(led:aa)(v:AV)(led':aa):Prop :=
 ∃a g gs gl,v=.ref a/\led'=((a,.gen g gs)::gl)++led/\t6 d7 w B N n f0 gl gs
theorem n8.elim{N:aa}{led:aa}{P:AV->aa->Prop}(k:∀a g gs gl,t6 d7 w B N n f0 gl gs->P (.ref a) (((a,.gen g gs)::gl)++led))(v:AV)(led':aa)(h:n8 d7 w B N n f0 led v led'):P v led' :=
 cA h fun a g gs gl e el hs=>e▸el▸k a g gs gl hs
theorem Ur{K:Frag}{f c:XC}{fd:a8}{l0 led:aa}
  (hG:m3 (am K)) (ok:bH K f true fd body c) (n9:A.depth<YU) (hb:Binds d7 w A.in1 (am K) fd args kw binds)
  (u8:((binds.map (·.1)).all fun x=>decide (fd.scope.names.lookup x=some .local))=true)
  (h:∀L,TG d7 w (am K) N (m+3) m (ba fd L f c) (execs body (ba fd L f c)) ⟨binds.reverse,l0⟩ f0 fun O O j6=>j6=[]) :
  TC d7 w A (am K) (.ref f) args kw (l0++led) (n8 d7 w (am K) N (m+3) f0 led):=by
 refine Gb ok fun O1 y5 hc c_ hg d_ O7 O8 h4=>?_;clear ok;obtain⟨o,ho,hd⟩:=O1;obtain⟨oc,vs,tq,I7,A5,hq⟩:=O7;obtain⟨h1,h2,h3⟩:=O8;refine Us hG ho hd h1 h2 h3 y5 (fun x hx=>of_decide_eq_true (XF.mp h4 x hx)) hc I7 A5 hq n9 hb (fun x hx=>of_decide_eq_true (XF.mp u8 x hx)) fun L a g=>?_;exact(Eq.symm (c_))▸(Eq.symm (hg))▸(Eq.symm (d_))▸(Eq.symm (hc))▸gg a g _ ((L,.ns binds.reverse)::l0) rfl rfl (t6.fresh (d8:=ba fd L f c) (OE u8) h3 (h L))
end
noncomputable def f9.add(Z:f9)(a:XC)(o:Obj):f9:=fun b=>if b=a then some o else Z b
theorem f9.add_at(Z:f9)(a:XC)(o:Obj):Z.add a o a=some o:=if_pos rfl
theorem f9.le_add(h:Z a=none):f9.le Z (Z.add a o):=fun b ob e=>by
 unfold f9.add;by_cases q:b=a
 ·subst q;rw[h] at e;cases e
 ·rw[if_neg q];exact e
theorem f9.add_inv{b:XC}{ob:Obj}(e:Z.add a o b=some ob):Z b=some ob∨(b=a/\o=ob):=by
 unfold f9.add at e;by_cases q:b=a
 ·rw[if_pos q] at e;exact .inr ⟨q,Zi e⟩
 ·rw[if_neg q] at e;exact .inl e
theorem f1.stepN{s':WS}{gl gl' led:aa}(S:f1 B s Z (gl++led))(keep:∀b o,b∉keys gl->s.heap.get? b=some o->s'.heap.get? b=some o)(ha:s.heap.get? a=none)(h':s'.heap.get? a=some o)
  (own:f9.le Z (Z.add a o)->∀p∈gl',Holds (Z.add a o) s' p.1 p.2) (hk:keys gl'=keys gl) (hg:gkeys gl'=gkeys gl) (G7:s'.gens=s.gens) (t7:s'.os=s.os) :
  f9.le Z (Z.add a o)/\f1 B s' (Z.add a o) (gl'++led)/\k8 (ah (gl++led)) s Z s' (Z.add a o) (ah (gl'++led)) :=
 have le:=f9.le_add (o:=o) (S.zfree ha)
 ⟨le,S.step le keep (fun b ob e=>(f9.add_inv e).elim .inl fun q => .inr (q.1▸q.2▸⟨ha,h'⟩)) (own le) (fun O h => .inl (hk▸h)) (hk▸(List.nodup_append.mp (Xr▸S.nodup:(keys gl++keys led).Nodup)).1) (hg▸.refl _) G7 t7⟩
theorem f1.pushZ{led:aa}(S:f1 B s Z led)(J0:o.isFreed=false)(tk:Nat) :
  f1 B {s with heap:=s.heap.push o,toks:=tk} (Z.add s.heap.objs.size o) led/\k8 (ah led) s Z {s with heap:=s.heap.push o,toks:=tk} (Z.add s.heap.objs.size o) (ah led) :=
 f1.step (gl:=[]) (gl':=[]) S (f9.le_add S.zfresh) (fun O O O e=>WX o e) (fun a ob e=>(f9.add_inv e).elim .inl fun q => .inr (q.1▸q.2▸⟨fk s,WW _ J0⟩)) (fun O h=>absurd h YM) (fun O h=>absurd h YM) List.nodup_nil (.refl _) rfl rfl
theorem ur{x1:Nat}(h:T d7 w A B d8 Vals (spliced (Zy pos (XV elts d8))) st fun vs e9=>vs.length<=XK/\K (.tup vs) e9) :
  T d7 w A B d8 Val (Yw (.Tuple elts x1 pos) d8) st K:=fun s Z S Q E hQ=>by
 rw[arm_eval_Tuple];refine WL (XB (WL (h s Z S _ _ fun vs xs s' Z' e9 k S' V X=>?_)));refine wpAny_newTuple ?_ (by rw[V.length];exact k.1);have P:=S'.tof1.pushZ (o:={ cls:=.type "tuple",data:=.seq xs.toArray}) rfl s'.toks;exact hQ _ _ _ _ _ k.2 (S'.after P.1 P.2) (.tup (f9.add_at ..) (V.mono P.2.le)) (X.trans P.2.toF)
theorem gL(h:T d7 w A B d8 Vals (spliced (Zy pos (XV elts d8))) st fun vs e9=>vs.length<=XK/\∀a,a∉keys e9.led->K (.ref a) ⟨e9.loc,(a,.list vs)::e9.led⟩) :
  T d7 w A B d8 Val (Yw (.List elts pos) d8) st K:=fun s Z S Q E hQ=>by
 rw[arm_eval_List];refine WL (XB (WL (h s Z S _ _ fun vs xs s' Z' e9 k S' V X=>?_)));refine wpAny_newList ?_ (by rw[V.length];exact k.1);have P:=S'.tof1.push (o:={ cls:=.type "list",data:=.seq xs.toArray}) (ao:=.list vs) rfl s'.toks ⟨_,_,WW _ rfl,V⟩;exact hQ _ _ _ _ _ (k.2 _ S'.tof1.lfresh) (S'.after P.1 P.2) (.ref _) (X.trans P.2.toF)
inductive j7 (led:aa):AV->List AV->Prop
 |own {a:XC} {xs:List AV}:(a,.list xs)∈led->j7 led (.ref a) xs
 |frz {xs:List AV}:j7 led (.lst xs) xs
theorem j7.type{led:aa}(h:j7 led v xs):ds B v led "list" := by
 induction h with
 |own h=>exact bS h
 |frz=>exact vr
theorem j7.get{led:aa}(h:j7 led v xs){x:Value}(V:Val Z v x)(S:f1 B s Z led):∃a items n,x=.ref a/\s.heap.get? a=some {cls:=.type "list",data:=.seq items n}/\Vals Z xs items.toList:=by
 induction h with
 |own h =>
  cases V
  refine bt (S.own _ h) fun items n g v=>?_;exact zi _ items n rfl g v
 |frz =>
  refine bC (lQ V) fun O O O qv e h=>?_;subst qv;exact zi _ _ _ rfl (S.frozen _ _ e) (by simpa using h)
theorem fA{i:Int}{x:AV}(hl:j7 st.led v xs)(h0:0<=i)(h1:i<2^63)(hx:xs[i.toNat]?=some x)(h:K x st) :
  F2 d7 w A B d8 Val getItem v (.int i) st K:=fun s Z m6 x2 V1 V2 S Q E hQ=>by
 refine bC (hl.get V1 S.tof1) fun a items n O4 g vs=>?_;subst O4;cases V2
 refine ad (vs.get hx) fun u e hu=>?_;exact wpAny_getItem_list ⟨_,g,rfl,n,rfl⟩ h0 h1 (by simpa using e) (hQ x u s Z st h S hu .refl)
theorem Wa{i:Int}{x:AV}(hl:j7 st.led v xs)(h0:i<0)(h1 : -(xs.length:Int)<=i)(h2:xs.length<2^62)(hx:xs[(i+xs.length).toNat]?=some x)(h:K x st) :
  F2 d7 w A B d8 Val getItem v (.int i) st K:=fun s Z m6 x2 V1 V2 S Q E hQ=>by
 refine bC (hl.get V1 S.tof1) fun a items n O4 g vs=>?_;subst O4;cases V2
 have j3:items.size=xs.length:=vs.size;refine ad (vs.get hx) fun u e hu=>?_;exact wpAny_getItem_list_neg ⟨_,g,rfl,n,rfl⟩ h0 ⋯ ⋯ (by rw[j3];simpa using e) (hQ x u s Z st h S hu .refl)
theorem pL{K:Bool->St->Prop}(hl:j7 st.led v xs)(h1:xs.length<2^62)(h:K (!xs.isEmpty) st):F1 d7 w A B d8 aH truthy v st K:=fun s Z x V S Q E hQ=>by
 refine bC (hl.get V S.tof1) fun a items n O4 g vs=>?_;subst O4;have j3:items.size=xs.length:=vs.size;have he:items.isEmpty=xs.isEmpty:=by
  cases xs with
  |nil=>simp only[Xp] at j3;simp[Array.isEmpty,j3]
  |cons y ys=>simp only[WU] at j3;simp[Array.isEmpty,j3]
 exact wpAny_truthy_list ⟨_,g,rfl,n,rfl⟩ ⋯ (hQ _ _ _ Z st h (S.toks _) (by rw[he];rfl) (.toks _))
section
variable{N:aa}
inductive Upd (a:XC) (o o':i9):aa->aa->Prop
 |here {l:aa}:Upd a o o' ((a,o)::l) ((a,o')::l)
 |there {p:XC×i9} {l l':aa}:Upd a o o' l l'->Upd a o o' (p::l) (p::l')
theorem Upd.mem{o o':i9}{l l':aa}(u:Upd a o o' l l'):(a,o)∈l:=by
 induction u with
 |here=>exact WM ..
 |there _ ih=>exact WO _ ih
theorem Upd.keys{o o':i9}{l l':aa}(u:Upd a o o' l l'):keys l'=keys l:=by
 induction u with
 |here=>rfl
 | @there p l l' _ ih=>show p.1::Internal.keys l'=p.1::Internal.keys l;rw[ih]
theorem Upd.gkeys{o o':i9}{l l':aa}(u:Upd a o o' l l')(h:o.gnum=none)(h':o'.gnum=none):gkeys l'=gkeys l:=by
 induction u with
 |here=>unfold Internal.gkeys;rw[Yy,Yy,h,h']
 | @there p l l' _ ih =>
  have ih:List.filterMap (fun p:XC×i9=>p.2.gnum) l'=List.filterMap (fun p:XC×i9=>p.2.gnum) l:=ih;unfold Internal.gkeys;rw[Yy,Yy,ih]
theorem Upd.out{o o':i9}{l l':aa}(u:Upd a o o' l l')(nd:(Internal.keys l).Nodup):∀p∈l',p=(a,o')∨(p∈l/\p.1≠a):=by
 induction u with
 | @here l =>
  intro p hp;rcases WT.mp hp with rfl |hp
  ·exact .inl rfl
  ·exact .inr ⟨WO _ hp,fun e=>(Xj.mp nd).1 (by show a∈_;exact(e)▸Xm (f:=fun x:XC×i9=>x.1) hp)⟩
 | @there q l l' u ih =>
  intro p hp;rcases WT.mp hp with rfl |hp
  ·exact .inr ⟨WM ..,fun e=>(Xj.mp nd).1 (by show p.1∈_;exact(Eq.symm (e))▸Xm (f:=fun x:XC×i9=>x.1) u.mem)⟩
  ·rcases ih (Xj.mp nd).2 p hp with h |⟨h,h'⟩
   ·exact .inl h
   ·exact .inr ⟨WO _ h,h'⟩
theorem f1.upd{led led':aa}{o o':i9}(U:Upd a o o' led led')(S:f1 B s Z led){h':Heap}{tk:Nat}(hs:∀b ob,b≠a->s.heap.get? b=some ob->h'.get? b=some ob)(g1:o.gnum=none)(g2:o'.gnum=none)
  (hh:Holds Z {s with heap:=h',toks:=tk} a o'):f1 B {s with heap:=h',toks:=tk} Z led'/\k8 (ah led) s Z {s with heap:=h',toks:=tk} Z (ah led'):=by
 have I':ah led'=ah led:=by unfold ah;rw[U.keys,U.gkeys g1 g2]
 have hZ:Z a=none:=S.apart _ U.mem;refine⟨⟨S.base,fun b ob e=>hs b ob (fun q=>by rw[q,hZ] at e;cases e) (S.frozen b ob e),by rw[U.keys];exact S.nodup,fun p hp=>?_,fun p hp=>?_,by rw[U.gkeys g1 g2];exact S.gnodup,S.bare⟩,?_⟩
 ·rcases U.out S.nodup p hp with rfl |⟨h,_⟩
  ·exact hZ
  ·exact S.apart p h
 ·rcases U.out S.nodup p hp with rfl |⟨h,t0⟩
  ·exact hh
  ·exact(S.own p h).mono (.refl _) (fun ob e=>hs _ ob t0 e) fun O O O e=>e
 ·rw[I'];exact⟨.refl _,fun b ob e hb=>hs b ob (fun q=>hb (q▸Xm U.mem)) e,fun b hb => .inl hb,fun O O e => .inl e,rfl,fun O O e O=>e,fun g hg => .inl hg⟩
theorem uB{T' Tx:String}(S9:typeOf (.type T')=YV (.type "type"))(z4:ZR (.type Tx) (.type T')=YV true)(hv:ds B v st.led Tx)(h:K (.bool true) st) :
  FC d7 w A B d8 (.blt "isinstance") [v,.typ T'] [] st K:=FC.b fun s Z S Q E hQ=>Vals.un <| fun O h1=>Vals.un <| Val.eTyp <| Vals.un0 <| call_isinstance (isinstance_true (Tx:=Tx) S9 z4) ⟨(hv s Z _ h1 S.tof1).1,hQ _ _ s Z st h S (.bool true) .refl⟩
theorem gP(hl:j7 st.led v xs)(h1:xs.length<2^62)(h:K (.int xs.length) st):FC d7 w A B d8 (.blt "len") [v] [] st K:=FC.b fun s Z S Q E hQ=>Vals.un <| fun O hv=>Vals.un0 <| by
 refine bC (hl.get hv S.tof1) fun a items n O4 g vs=>?_;subst O4;have j3:items.size=xs.length:=vs.size;refine Calls.call_len_list ⟨_,g,rfl,n,rfl⟩ ⋯ (hQ _ _ _ Z st h (S.toks _) ?_ (.toks _));rw[j3];exact .int _ _
theorem zt{led':aa}(hsz:xs.length<=XK)(U:Upd a (.list xs) (.list (xs++[v])) st.led led')(h:K .none ⟨st.loc,led'⟩) :
  FC d7 w A B d8 (.blt "list.append") [.ref a,v] [] st K:=FC.b fun s Z S Q E hQ=>Vals.un <| Val.eRef <| Vals.un fun u W5=>Vals.un0 <| by
 refine bt (S.own _ U.mem) fun items n g vs=>?_;dsimp only at g;have j3:items.size=xs.length:=vs.size;refine call_meets F.slot_list_append (⟨_,g,rfl⟩) F.entry_list_append (F.args_list_append_2 _ _) (list_append a items n u ⋯) ⟨g,?_⟩;have B0:∃n',(s.heap.update a (XS fun x=>x.push u)).get? a=some {cls:=.type "list",data:=.seq (items.push u) n' }:=⟨_,XH (XS fun x=>x.push u) g rfl⟩;refine ak B0 ?_;clear B0;intro n' B0;have P:=S.tof1.upd U (h':=s.heap.update a (XS fun x=>x.push u)) (tk:=s.toks) (fun b ob hb e=>(XE ..).extBut b ob hb e) rfl rfl ⟨_,n',B0,by simpa using vs.append (.cons W5 .nil)⟩;exact hQ _ _ _ Z _ h (S.after P.1 P.2) .none P.2.toF
def FA(d7:Xh)(w:Xo)(A:Xg)(B:f9)(d8:Env)(ts:List (Value->Sem Unit))(vs:List AV)(st:St)(K:Unit->St->Prop):Prop :=
 ∀(s:WS) (Z:f9) (xs:List Value),Vals Z vs xs->g8 B d8 s Z st->∀(Q:Unit->WS->Prop) (E:Value->WS->Prop),
  HQ B d8 aJ st K s Z Q->Xq (Xn d7 w) A (assignInOrder ts xs) Q E s
theorem zu{K:Unit->St->Prop}(h:K () st):FA d7 w A B d8 [] [] st K:=fun s Z xs hx S Q E hQ=>by
 (have e_:=hx.inv;subst e_)
 exact WN (hQ () () s Z st h S trivial .refl)
theorem FJ{t:Value->Sem Unit}{ts:List (Value->Sem Unit)}{vs:List AV}{K:Unit->St->Prop}(h:F1 d7 w A B d8 aJ t v st fun O e9=>FA d7 w A B d8 ts vs e9 K):FA d7 w A B d8 (t::ts) (v::vs) st K:=fun s Z xs hx S Q E hQ=>by
 cases hx with
 |cons hv hx =>
  show Xq _ A (b9 _ (t _)>>=fun O=>assignInOrder ts _) Q E s;exact WL (Xc (h s Z _ hv S _ _ fun O O s' Z' e9 k S' O X=>k s' Z' _ (hx.mono X.le) S' Q E fun v x z1 y0 l7 k' u7 V' X'=>hQ v x z1 y0 l7 k' u7 V' (X.trans X')))
theorem bp{K:Unit->St->Prop}(h:F1 d7 w A B d8 aJ (b0 d8 x) v st K):F1 d7 w A B d8 aJ (YE (.Name x pos) d8) v st K:=fun s Z u V S Q E hQ =>
 wpAny_assign_Name (h s Z u V S Q E hQ)
theorem g8.ext1(S:g8 B d8 s Z st){h':Heap}(he:Heap.ExtBut s.heap.objs.size s.heap h'):g8 B d8 {s with heap:=h' } Z st/\k8 (aw d8 st) s Z {s with heap:=h' } Z (aw d8 st):=by
 have keep:∀b o,s.heap.get? b=some o->h'.get? b=some o:=fun b o e=>he b o (Ys (XT e)) e;exact⟨⟨⟨S.base,fun a o e=>keep a o (S.frozen a o e),S.nodup,S.apart,fun p hp=>(S.own p hp).mono (.refl _) (fun o e=>keep _ o e) (fun O O O e=>e),S.gnodup,S.bare⟩,S.locZ,S.locL,z5.mono (.refl _) (fun o e=>keep _ o e) S.loc,S.kinds,S.fn⟩,
  ⟨.refl _,fun a o e O=>keep a o e,fun a h => .inl h,fun O O e => .inl e,rfl,fun O O e O=>e,fun O h => .inl h⟩⟩
theorem Wz{x1:Nat}{vs:List AV}{K:Unit->St->Prop}(hh:A.handled=none)(hn:(YN elts d8).length=vs.length)(A4:(YN elts d8).findIdx? (·.1)=none)
  (h:FA d7 w A B d8 ((YN elts d8).map (·.2)) vs st K):F1 d7 w A B d8 aJ (YE (.Tuple elts x1 pos) d8) (.tup vs) st K:=fun s Z u V S Q E hQ=>by
 refine bC (lP V) fun a items n qv e hv=>?_;subst qv;refine PySem.wpAny_assign_Tuple hh (items:=items.toArray) ⟨_,S.frozen _ _ e,rfl,n,rfl⟩ (by rw[hn];simp[hv.length]) A4 fun h' he=>?_;refine av (S.ext1 he) fun S' X'=>?_;exact h _ Z _ (by simpa using hv) S' Q E fun v x z1 y0 l7 k' u7 V' J2=>hQ v x z1 y0 l7 k' u7 V' (X'.trans J2)
theorem Ol{I ax:XC}{v:Value}{Q:Unit->WS->Prop}(h:s.heap.IsTupleIter I ax i)(hQ:Q () s) :
  Xq (Xn d7 w) A (Yg e8 (.ref I) v) Q E s :=
 aU h fun o ho hc hd=>xX ho hc hd (.inr (.inl rfl)) hQ
theorem FU(h:∀it gl,g5 d7 w B N k e8 it xs gl->K (.ref it) ⟨st.loc,gl++st.led⟩):F1 d7 w A B d8 Val pyIter (.tup xs) st K:=fun s Z x V S Q E hQ=>by
 refine bC (lP V) fun a items n qv e hv=>?_;subst qv;have hl:s.heap.IsTuple a items.toArray:=⟨_,S.frozen _ _ e,rfl,n,rfl⟩;refine wpAny_pyIter_tuple hl ?_;have t0:a≠s.heap.objs.size:=Ys (XT (S.frozen _ _ e));have j3:items.toArray.size=xs.length:=by simp[hv.length]
 have P:=S.tof1.push (o:={ cls:=.type "tuple_iterator",data:=.fields #[.ref a,.int 0 0]}) (ao:=dy s.heap.objs.size [s.heap.objs.size,a] (fun i v=>items.toArray[i]?=some v) xs (fun i h=>h.IsTupleIter s.heap.objs.size a i/\h.IsTuple a items.toArray) 0) rfl s.toks
  ⟨_,WW _ rfl,fun b hb=>by
   simp only[WT,YM,or_false] at hb;rcases hb with rfl |rfl
   ·exact .inl rfl
   ·exact .inr ⟨_,e⟩,fun i y v h1 h2=>by
   refine ad (hv.get h1) fun u e1 e2=>?_;simp only[List.getElem?_toArray] at h2;rw[e1] at h2;cases h2
   exact e2,fun h e1 e2=>⟨⟨_,e1,rfl,rfl⟩,_,e2 _ _ e,rfl,n,rfl⟩⟩
 refine hQ _ _ _ Z _ (h s.heap.objs.size _ (g5.walks (d7:=d7) (w:=w) (B:=B) (e8:=e8) (xs:=xs) (fun A hA=>by exact(j3)▸Walks.tuple hA s.heap.objs.size a t0 items.toArray) (fun A i s v Q E m8 hq=>Ol m8.1 hq) (fun i h m8=>by refine ad m8.1 fun o ho O=>?_;exact⟨o,ho⟩) k xs.length 0 ⋯)) (S.after P.1 P.2) (.ref _) P.2.toF
end
section
variable{K:Frag}
theorem CF{es:Array DictEntry}{ep:Nat}(hd:o.data=.dict es ep)(hk:StrKeys es):lookIn name o=some (nsFind es name):=by
 unfold lookIn nsFind findBy;rw[hd];dsimp only;have e:es.find? (fun e=>e.key.isStr name)=es.toList.find? (fun e=>e.key.isStr name):=by rw[Array.find?_toList]
 rw[e];cases q:es.toList.find? (fun e=>e.key.isStr name) with
 |some e=>rfl
 |none =>
  dsimp only;rw[if_neg]
  ·rfl
  ·rw[Bool.not_eq_true,List.any_eq_false];intro e he;refine gi (hk e (by simpa using he)) fun n t hn=>?_;unfold DictEntry.refKey;exact(Eq.symm (hn))▸XL
def yh(m:List (Str×AV))(Z:f9)(o:Obj):Prop:=∃f:Str->Option Value,(∃es ep,o.data=.dict es ep/\StrKeys es/\UniqKeys es/\∀n,nsFind es n=f n)/\∀x,l6 Z (m.lookup x) (f x)
theorem OU{m:List (Str×AV)}(Z Z':f9)(o:Obj)(k:f9.le Z Z')(x:yh m Z o):yh m Z' o:=x.imp fun O h=>⟨h.1,fun y=>(h.2 y).mono k⟩
noncomputable abbrev aX(m:List (Str×AV)):i9:=.obj (yh m) OU
theorem Nk{m:List (Str×AV)}(h:m.lookup x≠none):x∈m.map (·.1):=by
 induction m with
 |nil=>exact absurd rfl h
 |cons p l ih =>
  rw[Xl] at h;cases q:(x==p.1) with
  |true=>rw[beq_iff_eq.mp q];simp
  |false=>rw[q] at h;exact WO _ (ih h)
structure G9 (K:Frag) (C:XC):Prop where
 ga:findIn K (.ref C) "__getattribute__" = some (some (.builtin "object.__getattribute__"))
 gt:findIn K (.ref C) "__getattr__" = some none
 sa:findIn K (.ref C) "__setattr__" = some (some (.builtin "object.__setattr__"))
 plain:plainOver K C=true
 cd:∃c,clsIn K C=some c/\c.hasDict=true
set_option backward.match.sparseCases false in
noncomputable def AV.handed:AV->Bool
 |.blt _=>false
 |.any=>false
 |_=>true
theorem Val.handed{x:Value}(h:Val Z v x)(e:v.handed=true):handedIn x=true:=by
 revert e;refine Val.casesOn (motive_1:=fun v x O=>v.handed=true->handedIn x=true) h ?_ ?_ ?_ ?_ ?_ ?_ ?_ ?_ ?_ ?_ ?_ ?_ ?_ ?_ ?_ <;> intros <;> first |rfl |exact(XL (by assumption)).elim
theorem yg{od:Obj}(fr:∀a o,Z a=some o->s.heap.get? a=some o)(e:Z a=some {cls:=.ref C,dict:=some d,data:=.plain})(hd:s.heap.get? d=some od) :
  InstAt s.heap a {cls:=.ref C,dict:=some d,data:=.plain} C (some od):=⟨fr _ _ e,rfl,rfl,hd⟩
theorem dG{m:List (Str×AV)}{E0:Bool}(ok:G9 K C)(hn:findIn K (.ref C) name=some none)(hm:(d,aX m)∈st.led)(hv:m.lookup name=some v)(hh:v.handed=true)
  (h:R v st):F1 d7 w A (am K) d8 Val (fun x=>getAttr x name E0) (.inst C d) st R:=fun s Z x V S Q E hQ=>by
 refine ad (yi V) fun O qv e=>?_;subst qv;refine ad (S.own _ hm) fun od H2 h_=>ad h_ fun f h_ hr=>pQ h_ fun es ep u9 K3 S8 hf=>?_;dsimp only at H2;have I:=yg S.frozen e H2;have Ι:=hr name;rw[hv] at Ι;refine ad ok.cd fun c hc R'=>?_;cases M7:f name with
 |none =>
  rw[M7] at Ι;cases Ι
  cases hh
 |some u =>
  rw[M7] at Ι;have V:Val Z v u:=by
   cases Ι with
   |some h=>exact h
   |any=>cases hh
  refine get_value (K:=K) (cP S.base S.frozen) I ok.ga (v:=u) ?_ (V.handed hh) (hQ v u _ Z st h (S.toks _) V (.toks _));unfold findObj;rw[hc,hn];dsimp only[Option.bind_some];unfold ownOf;rw[R',if_pos rfl];dsimp only;rw[CF u9 K3,hf,M7];rfl
theorem FS{m m':List (Str×AV)}{led':aa}{R:Unit->St->Prop}(ok:G9 K C)(ht:takerIn K C name=some none)(hm:cg m name v=m')(hsz:m'.length<=1000)(U:Upd d (aX m) (aX m') st.led led')
  (h:R () ⟨st.loc,led'⟩):F2 d7 w A (am K) d8 aJ (fun x y=>setAttr x name y) (.inst C d) v st R:=fun s Z x y V V' S Q E hQ=>by
 refine ad (yi V) fun a qv e=>?_;subst qv;subst hm;refine ad (S.own _ U.mem) fun od H2 h_=>ad h_ fun f h_ hr=>pQ h_ fun es ep u9 K3 S8 hf=>?_;dsimp only at H2;have C9:s.heap.Ns1 d f:=⟨od,es,ep,H2,u9,K3,S8,hf⟩;have X:=cP S.base S.frozen;have I:=yg S.frozen e H2;refine ad ok.cd fun c hc R'=>?_;refine set_plain (K:=K) X I ok.sa ?_;refine osa_open (s:={ s with toks:=s.toks+1}) X I ok.plain ht fun b=>?_;refine WL (WN (WL (WL (wpAny_loadPart I.at_ (WL (looks_clsIn X hc _ _ _ _ (fun O O e=>e) ?_))))));rw[R'];refine WN (a:=some d) (WL (WN (WL ?_)));refine wpAny_nsSet1 (s:={ s with toks:=s.toks+1}) C9 fun h' H4 y3=>?_;have hr':∀z,l6 Z ((cg m name v).lookup z) (if z=name then some y else f z):=fun z=>by
  rw[tn];by_cases q:z=name
  ·simp only[q,if_true];exact .some V'
  ·simp only[q,if_false];exact hr z
 have hw:Within (fun z=>if z=name then some y else f z) ((cg m name v).map (·.1)):=fun z hz=>Nk fun e=>by
  have:=hr' z;rw[e] at this;have Β:(if z=name then some y else f z)≠none:=hz;revert Β this;generalize (if z=name then some y else f z)=q;intro this Β;cases this
  exact Β rfl
 refine bC (H4.count hw) fun o' es' ù W6 U2 R5=>?_;have A6:o'.data.pastItsLine=none:=by
  rw[U2];refine pastItsLine_dict ?_;rw[WP] at R5;have h1000:(1000:Nat)<=XK:=by decide
  omega
 refine WL (wpAny_lookBehind (s:={ s with heap:=h',toks:=s.toks+1+1}) W6 A6 (WN ?_));refine pP H4 fun o2 A2 ep2 ho2 hd2 hk2 hu2 Ä=>?_;clear H4;have P:=S.tof1.upd U (h':=h') (tk:=s.toks+1+1) (fun b ob hb e=>y3.extBut b ob hb e) rfl rfl ⟨o2,ho2,_,⟨A2,ep2,hd2,hk2,hu2,Ä⟩,hr'⟩;exact hQ () () _ Z _ h (S.after P.1 P.2) trivial P.2.toF
end
section
variable{K:Frag}
theorem Un{value:Expr}{attr:Str}(B1:attributeBase value attr d8 (Yw value d8)=Yw value d8)
  (h:T d7 w A B d8 Val (Yw value d8) st fun v j9=>F1 d7 w A B d8 Val (fun x=>getAttr x attr true) v j9 R):T d7 w A B d8 Val (Yw (.Attribute value attr pos) d8) st R:=fun s Z S Q E hQ=>by
 rw[arm_eval_Attribute,B1];exact WL (h s Z S _ _ fun v x s₁ Z1 j9 k₁ S1 V1 X1=>WL (XB (WL (Xc (k₁ s₁ Z1 x V1 S1 _ _ fun u y s' Z' e9 k S' V X =>
  WL (wpAny_letTemporaryGo (WN (hQ u y s' Z' e9 k S' V (X1.trans X)))))))))
theorem dd{o:Expr}{attr:Str}{R:Unit->St->Prop}
  (h:T d7 w A B d8 Val (Yw o d8) st fun u j9=>F2 d7 w A B d8 aJ (fun x y=>setAttr x attr y) u v j9 R):F1 d7 w A B d8 aJ (YE (.Attribute o attr pos) d8) v st R:=fun s Z x V S Q E hQ=>by
 rw[arm_assign_Attribute];refine WL (Xc (h s Z S _ _ fun u y s₁ Z1 j9 k₁ S1 V1 X1=>WL (XB (WL (Xc (k₁ s₁ Z1 y x V1 (V.mono X1.le) S1 _ _ fun O O s' Z' e9 k S' O X=>?_))))));exact PySem.wpAny_release (hQ () () s' Z' e9 k S' trivial (X1.trans X))
inductive Y' (d7:Xh) (w:Xo) (A:Xg) (B:f9) (d8:Env) (pos:Pos) (name:Str) (C f:XC) (args:List Expr) (R:AV->St->Prop):AV->St->Prop
 |mk {d:XC} {m:List (Str×AV)} {st:St} (hm:(d,aX m)∈st.led) (hl:m.lookup name=none) (h:CA d7 w A B d8 pos (.ref f) [.inst C d] args st R):Y' d7 w A B d8 pos name C f args R (.inst C d) st
theorem gK{o:Expr}{C3:Pos}{args:List Expr}{f:XC}
  (B1:attributeBase o name d8 (Yw o d8)=Yw o d8)
  (M8:((Zy pos (XV args d8)).all (fun x => !x.1)&&(backToKw pos (keywordEach [] d8)).all (fun x=>x.1.isSome)
   && decide (args.length+([]:List Keyword).length+(if ([]:List Keyword).isEmpty then 0 else 1)<30))=true)
  (A6:(C3.endLine==pos.line)=true) (ok:G9 K C) (hf:findIn K (.ref C) name=some (some (.ref f))) (ht:typeIn K (.ref f)=some (.type "function"))
  (h:T d7 w A (am K) d8 Val (Yw o d8) st (Y' d7 w A (am K) d8 pos name C f args R)) :
  T d7 w A (am K) d8 Val (Yw (.Call (.Attribute o name C3) args [] pos) d8) st R:=fun s Z S Q E hQ=>by
 rw[arm_eval_Call,B1];refine WL (h s Z S _ _ fun v x s₁ Z1 j9 k₁ S1 V1 X1=>WL (XB ?_));revert S1 V1 X1;refine k₁.rec fun{d m j9} hm hl hc S1 V1 X1=>?_;have V2:=V1;refine ad (yi V1) fun a qv e=>?_;subst qv;refine ad (S1.own _ hm) fun od H2 h_=>ad h_ fun g h_ hr=>pQ h_ fun es ep u9 K3 S8 hg=>?_;dsimp only at H2;have I:=yg S1.frozen e H2;have Μ:=hr name;rw[hl] at Μ;have I9:g name=none:=by cases q:g name with |none=>rfl |some u=>rw[q] at Μ;cases Μ
 have T9:methodCallForm (args.length+([]:List Keyword).length) (Zy pos (XV args d8)) (backToKw pos (keywordEach [] d8))=true:=M8;have G':methodCallPos true o d8 C3 pos=YV pos:=by unfold methodCallPos;simp[A6]
 unfold methodCall;rw[T9];refine WL (Xc (method_fn (K:=K) (cP S1.base S1.frozen) I ok.ga ok.gt hf ht (by unfold shadowIn;dsimp only;rw[CF u9 K3,hg,I9];rfl) ?_));refine WL (Yd G' ?_);exact hc s₁ Z1 (.ref f) [.ref a] (.ref f) (.cons V2 .nil) S1 _ _ fun v y s' Z' e9 k S' V X=>hQ v y s' Z' e9 k S' V (X1.trans X)
theorem Uw{fI:XC}{led:aa}{R:AV->aa->Prop}(hA:g7 A (k+1))(W7:makesIn K C=true)(hi:findIn K (.ref C) "__init__" = some (some (.ref fI)))(hf:typeIn K (.ref fI)=some (.type "function"))
  (h:∀d A',g7 A' k->d∉keys led->TC d7 w A' (am K) (.ref fI) (.inst C d::args) kw ((d,aX [])::led) fun v led'=>v=.none/\R (.inst C d) led') :
  TC d7 w A (am K) (.ref C) args kw led R:=fun s Z fx xs ks S M7 hx H5 Q hQ=>by
 cases M7
 obtain⟨hp,g,dr,t,os⟩:=s;have X:=cP S.base S.frozen;refine make_core (init:=.ref fI) (makes_of X W7) (looks_findIn X hi) (fun self=>bind_fn X self hf) (.inl rfl) ?_;have P1:=S.push (o:=emptyDict) (ao:=aX []) rfl t ⟨_,WW _ rfl,fun O=>none,⟨#[],0,rfl,fun O h=>by simp at h,by unfold UniqKeys;simp,fun O=>rfl⟩,fun O => .none⟩;have P2:=P1.1.pushZ (o:=instObj C hp.objs.size) rfl t;have hsz:(hp.push emptyDict).objs.size=hp.objs.size+1:=ZV ..;have hV:Val (f9.add Z (hp.push emptyDict).objs.size (instObj C hp.objs.size)) (.inst C hp.objs.size) (.ref (hp.objs.size+1)):=by rw[hsz];exact .inst (f9.add_at ..)
 have X9:=P1.2.trans P2.2;refine h hp.objs.size (A.under (.builtin "type.__call__" ⟨.ref C::xs,ks⟩)) ⟨hA.h,?_,?_⟩ S.lfresh _ _ (.ref fI) _ ks P2.1 (.ref fI) (.cons hV (hx.mono X9.le)) (H5.mono X9.le) _ fun v x s' Z' led' k S' V X'=>?_
 ·have e:(Code.builtin "type.__call__" ⟨.ref C::xs,ks⟩).weight=1:=@_
  have:=hA.d;show A.depth+(Code.builtin "type.__call__" ⟨.ref C::xs,ks⟩).weight+k<=_;rw[e];omega
 ·have e:(Code.builtin "type.__call__" ⟨.ref C::xs,ks⟩).cUnits=1:=@_
  have:=hA.u;show A.units+(Code.builtin "type.__call__" ⟨.ref C::xs,ks⟩).cUnits+k<=_;rw[e];omega
 ·refine av k ?_;clear k;intro O1 k;subst O1
  (have e_:=V.inv;subst e_)
  exact⟨rfl,hQ _ _ s' Z' led' k S' (hV.mono X'.le) (X9.trans X')⟩
end
section
variable{K:Type}[DecidableEq K]
inductive KV (Z:f9):List (K×AV)->List (K×Value)->Prop
 |nil:KV Z [] []
 |cons {k:K} {v:AV} {x:Value} {l:List (K×AV)} {r:List (K×Value)}:Val Z v x->KV Z l r->KV Z ((k,v)::l) ((k,x)::r)
omit [DecidableEq K] in
theorem KV.mono{Z':f9}(k:f9.le Z Z'){l:List (K×AV)}{r:List (K×Value)}(h:KV Z l r):KV Z' l r:=by
 induction h with
 |nil=>exact .nil
 |cons v _ ih=>exact .cons (v.mono k) ih
omit [DecidableEq K] in
theorem KV.length{l:List (K×AV)}{r:List (K×Value)}(h:KV Z l r):r.length=l.length:=by
 induction h with
 |nil=>rfl
 |cons v _ ih=>rw[WU,WU,ih]
noncomputable def aI(m:List (K×AV))(k:K):Option AV:=(m.find? fun kv=>kv.1=k).map (·.2)
noncomputable def ei(m:List (K×AV))(k:K)(v:AV):List (K×AV) :=
 if m.any (fun kv=>kv.1=k) then m.map (fun kv=>if kv.1=k then (kv.1,v) else kv) else m++[(k,v)]
theorem KV.find{l:List (K×AV)}{r:List (K×Value)}(h:KV Z l r)(k:K):(aI l k=none/\valueAt r k=none)∨∃v x,aI l k=some v/\valueAt r k=some x/\Val Z v x:=by
 induction h with
 |nil=>exact .inl ⟨rfl,rfl⟩
 | @cons k' v x l r hv _ ih =>
  unfold aI valueAt at *;rw[Za,Za];by_cases e:k'=k
  ·simp only[e,decide_true];exact .inr ⟨v,x,rfl,rfl,hv⟩
  ·simp only[e,decide_false];exact ih
theorem KV.any{l:List (K×AV)}{r:List (K×Value)}(h:KV Z l r)(k:K):(r.any fun kv=>kv.1=k)=(l.any fun kv=>kv.1=k):=by
 induction h with
 |nil=>rfl
 |cons v _ ih=>rw[List.any_cons,List.any_cons,ih]
theorem KV.stored{l:List (K×AV)}{r:List (K×Value)}(h:KV Z l r){k:K}{x:Value}(hv:Val Z v x):KV Z (ei l k v) (PySem.stored r k x):=by
 unfold ei PySem.stored;rw[h.any k];generalize (l.any fun kv=>kv.1=k)=b;cases b with
 |true =>
  rw[if_pos rfl,if_pos rfl];induction h with
  |nil=>exact .nil
  | @cons k' v' x' l r R9 _ ih =>
   rw[WY,WY];dsimp only;by_cases e:k'=k
   ·rw[if_pos e,if_pos e];exact .cons hv ih
   ·rw[if_neg e,if_neg e];exact .cons R9 ih
 |false =>
  rw[if_neg XL,if_neg XL];induction h with
  |nil=>exact .cons hv .nil
  |cons R9 _ ih=>exact .cons R9 ih
theorem HM(l:List (K×AV))(k:K)(v:AV):(ei l k v).length<=l.length+1:=by
 unfold ei;split
 ·rw[WP];omega
 ·rw[WV];exact Xy _
def fX(knd:d5 d7 w K)(m:List (K×AV))(Z:f9)(o:Obj):Prop:=∃es ep kvs,o.ExactDict/\o.data=.dict es ep/\KeysOf knd es/\Pairs knd es.toList kvs/\(kvs.map (·.1)).Nodup/\KV Z m kvs
theorem pj{knd:d5 d7 w K}{m:List (K×AV)}(Z Z':f9)(o:Obj)(k:f9.le Z Z')(x:fX knd m Z o):fX knd m Z' o :=
 x.imp fun O h=>h.imp fun O h=>h.imp fun O h=>⟨h.1,h.2.1,h.2.2.1,h.2.2.2.1,h.2.2.2.2.1,h.2.2.2.2.2.mono k⟩
noncomputable abbrev au(knd:d5 d7 w K)(m:List (K×AV)):i9:=.obj (fX knd m) pj
theorem lX{knd:d5 d7 w K}{m:List (K×AV)}{led:aa}(S:f1 B s Z led)(h:(d,au knd m)∈led):∃kvs,s.heap.DictOf knd d kvs/\KV Z m kvs:=by
 refine ad (S.own _ h) fun o ho h_=>ef h_ fun es ep kvs a b c e f g=>?_;exact bb kvs ⟨o,es,ep,ho,a,b,c,e,f⟩ g
theorem lW{knd:d5 d7 w K}{m:List (K×AV)}{kvs:List (K×Value)}(h:s.heap.DictOf knd d kvs)(g:KV Z m kvs):Holds Z s d (au knd m):=by
 refine ef h fun o es ep ho a b c e f=>?_;clear h;exact⟨o,ho,es,ep,kvs,a,b,c,e,f,g⟩
theorem CR(i:Int):∀Z x,Val Z (.int i) x->(ZM d7 w).is i x=true:=fun Z x V=>by
 cases V
 show (decide _)=true;simp
theorem tw(i:Str):∀Z x,Val Z (.str i) x->(XA d7 w).is i x=true:=fun Z x V=>by
 cases V
 simp[XA,Value.isStrOf]
theorem Vx{knd:d5 d7 w K}{m:List (K×AV)}{dflt:AV}{k:K}(y7:(d==Ze)=false)(hk:∀Z x,Val Z v x->knd.is k x=true)(hm:(d,au knd m)∈st.led)
  (h:R ((aI m k).getD dflt) st):FC d7 w A B d8 (.blt "dict.get") [.ref d,v,dflt] [] st R:=FC.b fun s Z S Q E hQ=>Vals.un <| Val.eRef <| Vals.un <| fun xk h2=>Vals.un <| fun xd h3=>Vals.un0 <| by
 refine ad (lX S.tof1 hm) fun kvs hD K8=>?_;refine call_meetsIn F.slot_dict_get hD.typeIs F.entry_dict_get (F.args_dict_get_3 _ _ _) (meets_dict_get_default knd d (hk Z xk h2) y7 xd) ⟨_,hD.mapOf,?_⟩;refine hQ _ _ _ Z st h (S.toks _) ?_ (.toks _);rcases K8.find k with ⟨e1,e2⟩ |⟨u,y,e1,e2,e3⟩
 ·exact(Eq.symm (e1))▸(Eq.symm (e2))▸h3
 ·exact(Eq.symm (e1))▸(Eq.symm (e2))▸e3
end
section
variable{K:Type}[DecidableEq K]
def F3(d7:Xh)(w:Xo)(A:Xg)(B:f9)(d8:Env)(f:Value->Value->Value->Sem Unit)(v1 v2 v3:AV)(st:St)(R:Unit->St->Prop):Prop :=
 ∀(s:WS) (Z:f9) (m6 x2 x3:Value),Val Z v1 m6->Val Z v2 x2->Val Z v3 x3->g8 B d8 s Z st->∀(Q:Unit->WS->Prop) (E:Value->WS->Prop),
  HQ B d8 aJ st R s Z Q->Xq (Xn d7 w) A (f m6 x2 x3) Q E s
theorem zy{o i:Expr}{R:Unit->St->Prop}
  (h:T d7 w A B d8 Val (Yw o d8) st fun u j9=>T d7 w A B d8 Val (Yw i d8) j9 fun j m5=>F3 d7 w A B d8 setItem u j v m5 R):F1 d7 w A B d8 aJ (YE (.Subscript o i pos) d8) v st R:=fun s Z x V S Q E hQ=>by
 rw[arm_assign_Subscript];refine WL (Xc (h s Z S _ _ fun u y s₁ Z1 j9 k₁ S1 V1 X1=>WL (Xc (k₁ s₁ Z1 S1 _ _ fun j z s2 Z2 m5 k2 S2 V2 X2=>WL (XB (WL (Xc
  (k2 s2 Z2 y z x (V1.mono X2.le) V2 (V.mono (X1.le.trans X2.le)) S2 _ _ fun O O s' Z' e9 k S' O X=>?_))))))))
 exact PySem.wpAny_release (hQ () () s' Z' e9 k S' trivial ((X1.trans X2).trans X))
theorem VN{knd:d5 d7 w K}{m m':List (K×AV)}{u:AV}{k:K}{led':aa}{R:Unit->St->Prop}(hk:∀Z x,Val Z v x->knd.is k x=true)(hsz:m.length<=XK)(hm:ei m k u=m')
  (U:Upd d (au knd m) (au knd m') st.led led') (h:R () ⟨st.loc,led'⟩):F3 d7 w A B d8 setItem (.ref d) v u st R:=fun s Z m6 x2 x3 V1 V2 V3 S Q E hQ=>by
 (have e_:=V1.inv;subst e_)
 subst hm;refine ad (lX S.tof1 U.mem) fun kvs hD K8=>?_;refine wpAny_setItem_pairs (hk Z x2 V2) hD (fun h' Î C5=>?_) (by rw[K8.length];exact hsz);have P:=S.tof1.upd U (h':=h') (tk:=s.toks+1) (fun b ob hb e=>C5.extBut b ob hb e) rfl rfl (lW Î (K8.stored V3));exact hQ () () _ Z _ h (S.after P.1 P.2) trivial P.2.toF
theorem FN{knd:d5 d7 w K}{m:List (K×AV)}{u:AV}{k:K}(hk:∀Z x,Val Z v x->knd.is k x=true)(hm:(d,au knd m)∈st.led)(hu:aI m k=some u)
  (h:R u st):F2 d7 w A B d8 Val getItem (.ref d) v st R:=F2.of fun s Z S Q E hQ=>Val.eRef <| fun x2 V2=>by
 refine ad (lX S.tof1 hm) fun kvs hD K8=>?_;rcases K8.find k with ⟨e1,e2⟩ |⟨u',y,e1,e2,e3⟩
 ·rw[hu] at e1;cases e1
 ·rw[hu] at e1;cases e1
  exact wpAny_getItem_of (hk Z x2 V2) hD.mapOf e2 (hQ _ _ _ Z st h (S.toks _) e3 (.toks _))
theorem Gy{knd:d5 d7 w K}{kvs:List (K×Value)}{k:K}{key dflt:Value}(A8:knd.is k key=true)(hm:s.heap.DictOf knd d kvs)
  (H1:∀v,valueAt kvs k=some v->Q v {s with toks:=s.toks+1})
  (y4:valueAt kvs k=none->∀h',h'.DictOf knd d (kvs++[(k,dflt)])->Xz d s.heap h'->Q dflt {s with heap:=h',toks:=s.toks+1})
  (hsz:kvs.length<=XK):Xq (Xn d7 w) A (dictSetDefault d key dflt) Q E s:=by
 have hmap:=hm.mapOf;refine ef hm fun o es ep ho hc hd hk hp hn=>?_;clear hm;have hes:es.size<=XK:=by
  have e1:=hp.length;have e2:es.toList.length=es.size:=by simp
  omega
 have P_:(es.findIdx? fun e=>knd.is k e.key)=kvs.findIdx? fun kv=>decide (kv.1=k):=by
  rw[← hp.findIdx k];obtain⟨l⟩:=es;simp
 have hf:findBy knd.is es k=valueAt kvs k:=by
  rw[← hp.find k];unfold findBy;obtain⟨l⟩:=es;simp
 unfold dictSetDefault;try with_reducible refine Xc ?_
 refine WL (knd.pyHash A8 ?_);refine WL (wpAny_dictFind_of (s:={ s with toks:=s.toks+1}) A8 ho hd hk ?_);cases hi:es.findIdx? fun e=>knd.is k e.key with
 |some i =>
  have ï:valueAt kvs k=(es[i]?).map (·.val):=by rw[← hf,findBy_of_findIdx?,hi]
  refine WL (wpAny_dictEntries (s:={ s with toks:=s.toks+1}) ho hd ?_);cases he:es[i]? with
  |none =>
   exfalso
   have:=Array.findIdx?_eq_some_iff_findIdx_eq.mp hi;have l8:i<es.size:=this.1;rw[YI l8] at he;exact nomatch he
  |some e =>
   rw[he] at ï;exact WL (YA (WN (H1 e.val ï)))
 |none =>
  have ï:valueAt kvs k=none:=by rw[← hf,findBy_of_findIdx?,hi]
  have hnot:k∉kvs.map (·.1):=not_mem_of_findIdx_none (P_▸hi);refine WL (YA (WL (wpAny_updateDictKeys (hz:=hes) (s:={ s with toks:=s.toks+1}) ho hd (WN (y4 ï _ ⟨_,_,ep+1,XH _ ho (Obj.isFreed_of_dict (Obj.data_mapDictKeys hd _)),
   hc.mapDictKeys _,Obj.data_mapDictKeys hd _,hk.push A8 _,?_,?_⟩ (XE ..))))))
  ·have:=hp.append A8 (knd.hash k) dflt;obtain⟨l⟩:=es;simpa using this
  ·rw[Xr,List.nodup_append];refine⟨hn,by simp,?_⟩;intro a ha b hb;rw[WY,ZL,Xi] at hb;subst hb;exact fun e=>hnot (e▸ha)
end
section
variable{K:Type}[DecidableEq K]
theorem Np(knd:d5 d7 w K){k:K}{key:Value}(A8:knd.is k key=true)(hd:(d==Ze)=false)(dflt:Value) :
  MeetsIn d7 w (Builtin.«dict.setdefault» ⟨[.ref d,key,dflt],[]⟩) (fun O R s=>∃kvs,s.heap.DictOf knd d kvs/\kvs.length<=XK /\
   (∀v,valueAt kvs k=some v->R (.ok (.ret v)) {s with toks:=s.toks+1}) /\
   (valueAt kvs k=none->∀h',h'.DictOf knd d (kvs++[(k,dflt)])->Xz d s.heap h'->R (.ok (.ret dflt)) {s with heap:=h',toks:=s.toks+1})) :=
 .of_wp fun A R s h_=>gR h_ fun kvs hm hz h1 h2=>by
  unfold Builtin.«dict.setdefault»;refine WL ?_;unfold Builtin.Dict.keyAndDefault;refine WL (wpAny_notOrdered_dict hm.typeIs ?_);show Xq _ _ (YV (d,key,some dflt)) _ _ s;refine WN ?_;show Xq _ _ (if (d==Ze)=true then _ else (dictSetDefault d key dflt>>=_)) _ _ s;refine aY (by rw[hd];exact XL) ?_;exact WL (Gy A8 hm (fun v hv=>WN ⟨v,rfl,h1 v hv⟩) (fun hn h' hm' C5=>WN ⟨dflt,rfl,h2 hn h' hm' C5⟩) hz)
omit [DecidableEq K] in
theorem KV.snoc{l:List (K×AV)}{r:List (K×Value)}(h:KV Z l r){k:K}{x:Value}(hv:Val Z v x):KV Z (l++[(k,v)]) (r++[(k,x)]):=by
 induction h with
 |nil=>exact .cons hv .nil
 |cons R9 _ ih=>exact .cons R9 ih
theorem Vj{knd:d5 d7 w K}{m:List (K×AV)}{u:AV}{k:K}{led':aa}(y7:(d==Ze)=false)(hk:∀Z x,Val Z v x->knd.is k x=true)(hsz:m.length<=XK)
  (U:Upd d (au knd m) (au knd (m++[(k,u)])) st.led led') (h1:∀x,aI m k=some x->R x st) (h2:aI m k=none->R u ⟨st.loc,led'⟩) :
  FC d7 w A B d8 (.blt "dict.setdefault") [.ref d,v,u] [] st R:=FC.b fun s Z S Q E hQ=>Vals.un <| Val.eRef <| Vals.un <| fun xk g2=>Vals.un <| fun xd g3=>Vals.un0 <| by
 refine ad (lX S.tof1 U.mem) fun kvs hD K8=>?_;refine call_meetsIn F.slot_dict_setdefault hD.typeIs F.entry_dict_setdefault (F.args_dict_setdefault_3 _ _ _) (Np knd (hk Z xk g2) y7 xd) ⟨kvs,hD,by rw[K8.length];exact hsz,fun y hy=>?_,fun hn h' Î C5=>?_⟩
 ·rcases K8.find k with ⟨e1,e2⟩ |⟨u',y',e1,e2,e3⟩
  ·rw[hy] at e2;cases e2
  ·rw[hy] at e2;cases e2
   exact hQ _ _ _ Z st (h1 _ e1) (S.toks _) e3 (.toks _)
 ·rcases K8.find k with ⟨e1,e2⟩ |⟨u',y',e1,e2,e3⟩
  ·have P:=S.tof1.upd U (h':=h') (tk:=s.toks+1) (fun b ob hb e=>C5.extBut b ob hb e) rfl rfl (lW Î (K8.snoc g3));exact hQ _ _ _ Z _ (h2 e1) (S.after P.1 P.2) g3 P.2.toF
  ·rw[hn] at e2;cases e2
end
section
variable{N:aa}
noncomputable def tO:Nat->List AV->List AV
 |_,[]=>[]
 |i,x::xs => .tup [.int i,x]::tO (i+1) xs
def yB(it:XC)(i:Nat)(_:f9)(o:Obj):Prop:=∃Y7,o={ cls:=.type "enumerate",dict:=none,data:=.fields #[.none,.bool false,.ref it,Yu i,.none,Y7],slots:=#[]}
def jf(xs:List AV)(i:Nat)(Z:f9)(o:Obj):Prop:=∃l items n,o.cls=.type "list_iterator" /\ o.data=.fields #[.ref l,.int i 0]/\Z l=some {cls:=.type "list",data:=.seq (items:List Value).toArray n}/\Vals Z xs items
theorem RD(Z Z':f9)(o:Obj)(k:f9.le Z Z')(x:yB it i Z o):yB it i Z' o:=x
theorem pg(Z Z':f9)(o:Obj)(k:f9.le Z Z')(x:jf xs i Z o):jf xs i Z' o:=x.imp fun O h=>h.imp fun O h=>h.imp fun O h=>⟨h.1,h.2.1,k _ _ h.2.2.1,h.2.2.2.mono k⟩
noncomputable abbrev eR(e it:XC)(xs:List AV)(i:Nat):aa:=[(e,.obj (yB it i) RD),(it,.obj (jf xs i) pg)]
theorem g5.enum{x1:Nat}{C':Pos}{e:XC}(k:Nat):∀(d i:Nat),i+d=xs.length->g5 d7 w B N k (.Tuple elts x1 C') e (tO i (xs.drop i)) (eR e it xs i):=by
 intro d;induction d with
 |zero =>
  intro i hi;have hi:i=xs.length:=(Nat.add_zero i).symm.trans hi;subst hi;rw[List.drop_length];intro A hA led hN s Z S Q E hQ;refine ad (S.own _ (WM ..)) fun oe J_ h_=>ak h_ fun Y7 e_=>?_;subst e_;refine ad (S.own _ (WO _ (WM ..))) fun oi G6 h_=>jp h_ fun l items n hc hd hz hv=>?_;refine wpAny_pyNext_enum_end hA.h J_ ⟨oi,G6,hc,hd⟩ ⟨_,S.frozen _ _ hz,rfl,n,rfl⟩ ((List.getElem?_toArray ..).trans (YQ (Nat.le_of_eq hv.length))) fun h' hx=>?_;have P:=f1.stepE (gl:=eR e it xs xs.length) (s':={ s with heap:=h' }) S (fun b o hb q=>hx b o (fun y=>hb (y▸WO _ (WM ..))) q) rfl rfl;exact hQ _ Z P.1 P.2
 |succ d ih =>
  intro i hi;have l8:i<xs.length:=hi▸Nat.lt_add_of_pos_right (Nat.succ_pos d);rw[YH l8];intro A hA led hN s Z S Q E hQ;refine ad (S.own _ (WM ..)) fun oe J_ h_=>ak h_ fun Y7 e_=>?_;subst e_;refine ad (S.own _ (WO _ (WM ..))) fun oi G6 h_=>jp h_ fun l items n hc hd hz hv=>?_;have hei:e≠it:=fun q=>(Xj.mp S.nodup).1 (q▸WM ..);refine ad (hv.get (Xs l8)) fun u hu hV=>wpAny_pyNext_enum_item J_ ⟨oi,G6,hc,hd⟩ ⟨_,S.frozen _ _ hz,rfl,n,rfl⟩ (x:=u) ((List.getElem?_toArray ..).trans hu) hei fun h' ho C1 hT hsz hk=>?_;refine wpAny_letOwnedTupleGo_enum ho fun h'' he'' F'=>?_;refine aU C1 fun m_ J' R5 U2=>?_;have hTe:s.heap.objs.size≠e:=Nat.ne_of_gt (XT J_);refine cB (f1.stepN (gl:=eR e it xs i) (gl':=eR e it xs (i+1)) (s':={ s with heap:=h'',toks:=s.toks+1}) S (fun b o hb q=>(F'.2 b fun y=>hb (y▸WM ..)).trans (hk b o (fun y=>hb (y▸WM ..)) (fun y=>hb (y▸WO _ (WM ..))) q))
   (fk s) ((F'.2 _ hTe).trans hT) (fun le p hp=>(WT.mp hp).elim (fun y=>y▸⟨_,he'',_,rfl⟩) fun y=>Xi.mp y▸⟨m_,(F'.2 it hei.symm).trans J',l,items,n,R5,U2,le _ _ hz,hv.mono le⟩) rfl rfl rfl rfl) fun le P1 P2=>?_
  exact hQ _ _ _ (eR e it xs (i+1)) P1 (.tup (items:=[.int i s.toks,u]) (f9.add_at ..) (.cons (.int _ _) (.cons (hV.mono le) .nil))) P2 (ih (i+1) ((Nat.succ_add_eq_add_succ i d).trans hi))
end
section
variable{N:aa}
theorem Vo{a b:Int}(h:R (.rng a b) st):FC d7 w A B d8 (.typ "range") [.int a,.int b] [] st R:=FC.t fun s Z S Q E hQ=>Vals.un <| Val.eInt fun t1=>Vals.un <| Val.eInt fun t2=>Vals.un0 <| by
 refine call_range_2 ?_;have P:=S.tof1.pushZ (o:={ cls:=.type "range",data:=.fields #[.int a t1,.int b t2,.int 1 s.toks]}) rfl (s.toks+1);exact hQ _ _ _ _ _ h (S.after P.1 P.2) (.rng (f9.add_at ..)) P.2.toF
theorem Vp{b:Int}(h:R (.rng 0 b) st):FC d7 w A B d8 (.typ "range") [.int b] [] st R:=FC.t fun s Z S Q E hQ=>Vals.un <| Val.eInt fun t1=>Vals.un0 <| by
 refine call_range_1 ?_;have P:=S.tof1.pushZ (o:={ cls:=.type "range",data:=.fields #[.int 0 s.toks,.int b t1,.int 1 (s.toks+1)]}) rfl (s.toks+1+1);exact hQ _ _ _ _ _ h (S.after P.1 P.2) (.rng (f9.add_at ..)) P.2.toF
noncomputable def cD(a b:Int):List AV:=(List.range (b-a).toNat).map fun(i:Nat) => .int (a+(i:Int))
theorem CL{I:XC}{x l c:Int}{v:Value}{Q:Unit->WS->Prop}(ho:IsRangeIter s.heap I x l c)(hQ:Q () s) :
  Xq (Xn d7 w) A (Yg e8 (.ref I) v) Q E s :=
 xX ho rfl rfl (.inr (.inr rfl)) hQ
theorem Wr{a b:Int}(ha : -(2^62)<=a)(ha':a<2^62)(hb : -(2^62)<=b)(ο:b<2^62)
  (h:∀it gl,g5 d7 w B N k e8 it (cD a b) gl->R (.ref it) ⟨st.loc,gl++st.led⟩):F1 d7 w A B d8 Val pyIter (.rng a b) st R:=fun s Z x V S Q E hQ=>by
 refine FY (Dk V) fun r t u v qv e=>?_;subst qv;refine wpAny_pyIter_range (S.frozen _ _ e) (small_one ha ha' hb ο) ?_;have j3:(cD a b).length=(b-a).toNat:=by unfold cD;rw[WP,List.length_range]
 have hsz:Builtin.Range.rangeSize a b 1=((b-a).toNat:Int):=by
  rw[rangeSize_one];exact if h:a<b then (if_pos h).trans (Int.toNat_of_nonneg (Int.sub_nonneg_of_le (Int.le_of_lt h))).symm else (if_neg h).trans (congrArg Int.ofNat (Int.toNat_of_nonpos (Int.sub_nonpos_of_le (Int.not_lt.mp h)))).symm
 rw[hsz];have P:=S.tof1.push (o:={ cls:=.type "range_iterator",data:=.fields #[Yu a,Yu ((b-a).toNat:Int),Yu 1]})
  (ao:=dy s.heap.objs.size [s.heap.objs.size] (fun i v=>∃t,v=.int (a+i * 1) t) (cD a b) (fun i h=>IsRangeIter h s.heap.objs.size (a+(i:Nat) * 1) (((b-a).toNat:Int)-(i:Nat)) 1) 0) rfl s.toks
  ⟨_,WW _ rfl,fun c hc => .inl (by simpa using hc),fun i y v h1 h2=>by
   refine ak h2 fun t O2=>?_;clear h2;subst O2;unfold cD at h1;rw[XM] at h1;refine ad (Yt.mp h1) fun j hj O3=>?_;subst O3;have L5:j=i:=by
    refine ak (ZF.mp hj) fun h1 h2=>?_;rw[← h2,List.getElem_range]
   rw[L5,Int.mul_one];exact .int _ _,fun h e1 e2=>by
   show h.get? s.heap.objs.size=_;rw[e1];simp⟩
 refine hQ _ _ _ Z _ (h s.heap.objs.size _ (g5.walks (d7:=d7) (w:=w) (B:=B) (e8:=e8) (xs:=cD a b) (fun A hA=>by exact(Eq.symm (j3))▸Walks.range hA s.heap.objs.size a 1 (b-a).toNat) (fun A i s v Q E m8 hq=>CL m8 hq) (fun i h m8=>⟨_,m8⟩) k (cD a b).length 0 ⋯)) (S.after P.1 P.2) (.ref _) P.2.toF
end
theorem f1.freeze{led:aa}(S:f1 B s Z ((a,.list xs)::led)):∃Z',f1 B s Z' led/\Val Z' (.lst xs) (.ref a)/\f9.le Z Z'/\k8 (ah ((a,.list xs)::led)) s Z s Z' (ah led):=by
 refine bt (S.own _ (WM ..)) fun items n g v=>?_;dsimp only at g;have hZ:Z a=none:=S.apart _ (WM ..);have le:=f9.le_add (o:={ cls:=.type "list",data:=.seq items n}) hZ;have S1:=S.drop1;have J1:a∉keys led:=(Xj.mp S.nodup).1;refine⟨Z.add a {cls:=.type "list",data:=.seq items n},⟨S.base.trans le,fun b o e=>?_,S1.nodup,fun p hp=>?_,fun p hp=>(S1.own p hp).mono le (fun O e=>e) (fun O O O e=>e),S1.gnodup,S1.bare⟩,?_,le,
  ⟨le,fun O O e O=>e,fun b hb => .inl (WO _ hb),fun b o e=>?_,rfl,fun O O e O=>e,fun O h => .inl h⟩⟩
 ·unfold f9.add at e;by_cases q:b=a
  ·rw[if_pos q] at e;cases e;exact(Eq.symm (q))▸g
  ·rw[if_neg q] at e;exact S.frozen b o e
 ·have hn:p.1≠a:=fun q=>J1 (q▸Xm hp);unfold f9.add;exact(Eq.symm (if_neg hn))▸S1.apart p hp
 ·obtain⟨l⟩:=items;exact .lst (f9.add_at ..) (v.mono le)
 ·unfold f9.add at e;by_cases q:b=a
  ·exact .inr (.inl (q▸WM ..))
  ·rw[if_neg q] at e;exact .inl e
inductive p5 (a:XC) (xs:List AV):List (Str×AV)->List (Str×AV)->Prop
 |nil:p5 a xs [] []
 |cast {x:Str} {l l':List (Str×AV)}:p5 a xs l l'->p5 a xs ((x,.ref a)::l) ((x,.lst xs)::l')
 |keep {x:Str} {v:AV} {l l':List (Str×AV)}:p5 a xs l l'->p5 a xs ((x,v)::l) ((x,v)::l')
theorem p5.look{l':List (Str×AV)}(h:p5 a xs l l')(y:Str):l'.lookup y=l.lookup y∨(l.lookup y=some (.ref a)/\l'.lookup y=some (.lst xs)):=by
 induction h with
 |nil=>exact .inl rfl
 |keep _ ih =>
  rw[Xl,Xl];split
  ·exact .inl rfl
  ·exact ih
 |cast _ ih =>
  rw[Xl,Xl];split
  ·exact .inr ⟨rfl,rfl⟩
  ·exact ih
theorem g8.freeze{led:aa}(S:g8 B d8 s Z ⟨loc,(a,.list xs)::led⟩)(hr:p5 a xs loc g9) :
  ∃Z',g8 B d8 s Z' ⟨g9,led⟩/\Val Z' (.lst xs) (.ref a)/\k8 (aw d8 ⟨loc,(a,.list xs)::led⟩) s Z s Z' (aw d8 ⟨g9,led⟩):=by
 refine gR S.tof1.freeze fun Z' S' V le X=>?_;have SF:=S.after S' X;refine ed Z' ⟨S',SF.locZ,SF.locL,?_,fun x v e=>?_,S.fn⟩ V (X.toF (st:=⟨loc,(a,.list xs)::led⟩))
 ·refine ad SF.loc fun f hn hv=>?_;refine bb f hn (fun y=>?_);rcases hr.look y with h |⟨h1,h2⟩
  ·show l6 Z' (g9.lookup y) (f y);exact(Eq.symm (h))▸hv y
  ·show l6 Z' (g9.lookup y) (f y);have hy:=hv y;dsimp only at hy;rw[h1] at hy;rw[h2];revert hy;generalize f y=q;intro hy;cases hy with
   |some hy=>cases hy;exact .some V
 ·rcases hr.look x with h |⟨h1,h2⟩
  ·exact S.kinds x v (by exact(h)▸e)
  ·exact S.kinds x _ h1
theorem T.freeze{rel:f9->α->β->Prop}{t:Sem β}{led:aa}{K:α->St->Prop}(hr:p5 a xs loc g9)(h:T d7 w A B d8 rel t ⟨g9,led⟩ K) :
  T d7 w A B d8 rel t ⟨loc,(a,.list xs)::led⟩ K:=fun s Z S Q E hQ=>by
 refine aU (S.freeze hr) fun Z' S' V X=>?_;exact h s Z' S' Q E fun v x s' y0 e9 k u7 V' X'=>hQ v x s' y0 e9 k u7 V' (X.trans X')
section
variable{N:aa}
theorem VD(h:∀e it,R (.ref e) ⟨st.loc,eR e it xs 0++st.led⟩):FC d7 w A B d8 (.typ "enumerate") [.lst xs] [] st R:=FC.t fun s Z S Q E hQ=>Vals.un <| fun O h1=>Vals.un0 <| by
 refine bC (lQ h1) fun a items n qv e hv=>?_;subst qv;refine call_enumerate_1 (S.frozen _ _ e) fun h' he hit hsz hk=>?_;refine aU hit fun oi G6 hc hd=>?_;clear hit;have L:=S.tof1;have fr1:∀b o,s.heap.get? b=some o->b≠s.heap.objs.size/\b≠s.heap.objs.size+1:=fun b o q=>by
  have:=XT q;exact⟨Ys this,Ys (Nat.lt_succ_of_lt this)⟩
 have hnl:∀b∈keys st.led,b≠s.heap.objs.size/\b≠s.heap.objs.size+1:=fun b hb=>by
  refine ad (Xu.mp hb) fun p hp O3=>?_;subst O3;refine ak ((L.own p hp).live) fun ob g=>?_;exact fr1 _ _ g
 have hz:∀b o,Z b=some o->b≠s.heap.objs.size/\b≠s.heap.objs.size+1:=fun b o q=>fr1 b o (L.frozen _ _ q);have O0:∀b,(b=s.heap.objs.size∨b=s.heap.objs.size+1)->Z b=none:=fun b hb=>by
  cases q:Z b with
  |none=>rfl
  |some o=>refine av (hz b o q) fun q1 q2=>?_;rcases hb with hb |hb <;> contradiction
 have U8:∀b,(b=s.heap.objs.size∨b=s.heap.objs.size+1)->s.heap.get? b=none:=fun b hb=>by
  cases q:s.heap.get? b with
  |none=>rfl
  |some o=>refine av (fr1 b o q) fun q1 q2=>?_;rcases hb with hb |hb <;> contradiction
 have SL:f1 B {s with heap:=h' } Z (eR (s.heap.objs.size+1) s.heap.objs.size xs 0++st.led):=by
  refine⟨L.base,fun b o q=>hk b o (L.frozen b o q),?_,fun p hp=>?_,fun p hp=>?_,L.gnodup,L.bare⟩
  ·refine Xj.mpr ⟨fun q=>?_,Xj.mpr ⟨fun q=>(hnl _ q).1 rfl,L.nodup⟩⟩;rcases WT.mp q with q |q
   ·exact absurd q (Nat.ne_of_gt (Zv _))
   ·exact(hnl _ q).2 rfl
  ·rcases WT.mp hp with rfl |hp
   ·exact O0 _ (.inr rfl)
   ·rcases WT.mp hp with rfl |hp
    ·exact O0 _ (.inl rfl)
    ·exact L.apart p hp
  ·rcases WT.mp hp with rfl |hp
   ·exact⟨_,he,_,rfl⟩
   ·rcases WT.mp hp with rfl |hp
    ·exact⟨oi,G6,a,items,n,hc,hd,e,hv⟩
    ·exact Holds.mono (s:=s) (.refl _) (fun o q=>hk _ o q) (fun O O O q=>q) (L.own p hp)
 have X:k8 (ah st.led) s Z {s with heap:=h' } Z (ah (eR (s.heap.objs.size+1) s.heap.objs.size xs 0++st.led)):=by
  refine⟨.refl _,fun b o q O=>hk b o q,fun b hb=>?_,fun O O q => .inl q,rfl,fun O O q O=>q,fun O h => .inl h⟩;rcases WT.mp hb with hb |hb
  ·exact .inr (U8 b (.inr hb))
  ·rcases WT.mp hb with hb |hb
   ·exact .inr (U8 b (.inl hb))
   ·exact .inl hb
 exact hQ _ _ _ Z _ (h (s.heap.objs.size+1) s.heap.objs.size) (S.after SL X) (.ref _) X.toF
theorem Wt{x1:Nat}{C':Pos}{e:XC}{led:aa}
  (h:g5 d7 w B N k (.Tuple elts x1 C') e (tO 0 xs) (eR e it xs 0)->R (.ref e) ⟨loc,eR e it xs 0++led⟩):F1 d7 w A B d8 Val pyIter (.ref e) ⟨loc,eR e it xs 0++led⟩ R:=F1.of fun s Z S Q E hQ=>Val.eRef <| by
 refine ad (S.own _ (WM ..)) fun oe J_ h_=>ak h_ fun Y7 e_=>?_;subst e_;dsimp only at J_;exact wpAny_pyIter_enum J_ (hQ _ _ s Z _ (h (g5.enum k xs.length 0 ⋯)) S (.ref _) .refl)
end
set_option backward.match.sparseCases false in
noncomputable def AV.isNone:AV->Option Bool
 |.none=>some true
 |.any=>Option.none
 |.blt _=>Option.none
 |_=>some false
theorem Val.isNone{x:Value}{b:Bool}(h:Val Z v x)(e:v.isNone=some b):(x==Yp)=b/\plainIs x .none=true :=
 Val.casesOn (motive_1:=fun v x O=>v.isNone=some b->(x==Yp)=b/\plainIs x .none=true) h (fun e=>⟨Zi e,rfl⟩) (fun O e=>⟨Zi e,rfl⟩) (fun O O e=>⟨Zi e,rfl⟩) (fun O O e=>⟨Zi e,rfl⟩) (fun O O e=>⟨Zi e,rfl⟩)
  (fun O e=>⟨Zi e,rfl⟩) (fun O e=>nomatch e) (fun O e=>⟨Zi e,rfl⟩) (fun O O e=>⟨Zi e,rfl⟩) (fun O O e=>⟨Zi e,rfl⟩) (fun O O e=>⟨Zi e,rfl⟩) (fun O O e=>⟨Zi e,rfl⟩) (fun O e=>⟨Zi e,rfl⟩)
  (fun O e=>⟨Zi e,rfl⟩) (fun O e=>nomatch e) e
theorem Wd{b:Bool}(hb:v.isNone=some b)(h:R (.bool b) st):F2 d7 w A B d8 Val (Zx .Is) v .none st R:=F2.of fun s Z S Q E hQ=>fun m6 V1=>Val.eNone <| by
 refine av (V1.isNone hb) fun h1 h2=>?_;exact wpAny_is_plain h2 (by rw[h1];exact hQ _ _ s Z st h S (.bool b) .refl)
theorem Wc{b:Bool}(hb:v.isNone=some b)(h:R (.bool (!b)) st):F2 d7 w A B d8 Val (Zx .IsNot) v .none st R:=F2.of fun s Z S Q E hQ=>fun m6 V1=>Val.eNone <| by
 refine av (V1.isNone hb) fun h1 h2=>?_;exact wpAny_isNot_plain h2 (by rw[h1];exact hQ _ _ s Z st h S (.bool (!b)) .refl)
theorem Wm{R:Bool->St->Prop}(h:R false st):F1 d7 w A B d8 aH truthy .none st R:=F1.of fun s Z S Q E hQ=>Val.eNone <| (fun O O O=>hQ false false s Z st h S rfl .refl:Xq (Xn d7 w) A (truthy Yp) Q E s)
theorem zz{t t':Value->Sem Unit}{ts:List (Value->Sem Unit)}{R:Unit->St->Prop}(h:F1 d7 w A B d8 aJ t v st fun O e9=>F1 d7 w A B d8 aJ (fun x=>assignAll x (t'::ts)) v e9 R) :
  F1 d7 w A B d8 aJ (fun x=>assignAll x (t::t'::ts)) v st R:=fun s Z x V S Q E hQ =>
 WL (Xc (h s Z x V S _ _ fun O O s₁ Z1 j9 k₁ S1 O X1=>k₁ s₁ Z1 x (V.mono X1.le) S1 _ _ fun v y s' Z' e9 k S' V' X=>hQ v y s' Z' e9 k S' V' (X1.trans X)))
theorem yV{t9:List Expr}{value:Expr}{R:g6->St->Prop}(hs:swapsWithSole t9 value pos.line d8=YV false)(hw:swappedStores t9 value d8=YV none)
  (h:T d7 w A B d8 Val (Yw value d8) st fun v j9=>F1 d7 w A B d8 aJ (fun x=>assignAll x ((YN t9 d8).map (·.2))) v j9 fun O m5=>R .next m5) :
  T d7 w A B d8 j5 (exec (.Assign t9 value pos) d8) st R:=fun s Z S Q E hQ=>by
 rw[arm_exec_Assign,hs];refine WL (XB (WL (WN ?_)));refine aY XL ?_;refine WL (h s Z S _ _ fun v x s₁ Z1 j9 k₁ S1 V1 X1=>?_);rw[hw];refine WL (WN ?_);exact WL (k₁ s₁ Z1 x V1 S1 _ _ fun O O s' Z' e9 k S' O X=>WN (hQ _ _ s' Z' e9 k S' .next (X1.trans X)))
theorem cX{t value:Expr}{R:g6->St->Prop}(hs:swapsWithSole [t] value pos.line d8=YV false)(hw:swappedStores [t] value d8=YV none)(he:YN [t] d8=[(false,YE t d8)])
  (h:T d7 w A B d8 Val (Yw value d8) st fun v j9=>F1 d7 w A B d8 aJ (YE t d8) v j9 fun O m5=>R .next m5):T d7 w A B d8 j5 (exec (.Assign [t] value pos) d8) st R :=
 yV hs hw (by exact(Eq.symm (he))▸h)
theorem fu{t u value:Expr}{R:g6->St->Prop}(hs:swapsWithSole [t,u] value pos.line d8=YV false)(hw:swappedStores [t,u] value d8=YV none)(he:YN [t,u] d8=[(false,YE t d8),(false,YE u d8)])
  (h:T d7 w A B d8 Val (Yw value d8) st fun v j9=>F1 d7 w A B d8 aJ (YE t d8) v j9 fun O m5=>F1 d7 w A B d8 aJ (YE u d8) v m5 fun O u6=>R .next u6):T d7 w A B d8 j5 (exec (.Assign [t,u] value pos) d8) st R :=
 yV hs hw (by exact(Eq.symm (he))▸h.mono fun v e9 k=>zz k)
theorem Vals.reverse(h:Vals Z xs vs):Vals Z xs.reverse vs.reverse :=
 h.ind (P:=fun xs vs=>Vals Z xs.reverse vs.reverse) .nil fun h O t=>by rw[Xw,Xw];exact t.append (.cons h .nil)
theorem EW{t9:List Expr}{value:Expr}{names:List Str}{R:g6->St->Prop}(hh:A.handled=none)(hs:swapsWithSole t9 value pos.line d8=YV false)(hw:swappedStores t9 value d8=YV (some names))
  (h:T d7 w A B d8 Val (Yw value d8) st fun v j9=>∃vs,v=.tup vs/\vs.length=names.length/\FA d7 w A B d8 (names.reverse.map fun n=>bindName d8 n) vs.reverse j9 fun O m5=>R .next m5) :
  T d7 w A B d8 j5 (exec (.Assign t9 value pos) d8) st R:=fun s Z S Q E hQ=>by
 rw[arm_exec_Assign,hs];refine WL (XB (WL (WN ?_)));refine aY XL ?_;refine WL (h s Z S _ _ fun v x s₁ Z1 j9 k₁ S1 V1 X1=>?_);rw[hw];refine WL (WN ?_);refine aU k₁ fun vs O2 hl k=>?_;clear k₁;subst O2;refine bC (lP V1) fun a items n qv e hv=>?_;subst qv;show Xq _ A (rule _>>=_) Q E s₁;refine WL (YA ?_);have j3:names.length=items.toArray.size:=by rw[← hl,← hv.length];simp
 rw[j3];refine WL (wpAny_unpackItems_tuple hh (items:=items.toArray) ⟨_,S1.frozen _ _ e,rfl,n,rfl⟩ fun h' he=>?_);refine av (S1.ext1 he) fun S' X'=>?_;refine WL (k _ Z1 _ (by simpa using hv.reverse) S' _ _ fun O O s' Z' e9 k u7 O X=>WN (hQ _ _ s' Z' e9 k u7 .next ((X1.trans X').trans X)))
theorem Wy{R:Unit->St->Prop}(h:F1 d7 w A B d8 aJ (b0 d8 x) v st R):F1 d7 w A B d8 aJ (bindName d8 x) v st R:=fun s Z u V S Q E hQ=>wpAny_bindName (h s Z u V S Q E hQ)
theorem g8.drop1{p:XC×i9}{led:aa}(S:g8 B d8 s Z ⟨loc,p::led⟩):g8 B d8 s Z ⟨loc,led⟩ :=
 ⟨S.tof1.drop1,S.locZ,fun h=>S.locL (WO _ h),S.loc,S.kinds,S.fn⟩
theorem DA{p:XC×i9}{led:aa}{g:Nat}(h:g∈gkeys led):g∈gkeys (p::led):=by
 unfold gkeys at *;rw[Yy];split
 ·exact h
 ·exact WO _ h
theorem k8.more{o1 o2 o:L7}{s':WS}{Z':f9}(X:k8 o1 s Z s' Z' o)(h1:∀a,o1.at_ a->o2.at_ a)(h2:∀g,o1.gn g->o2.gn g):k8 o2 s Z s' Z' o :=
 ⟨X.le,fun a ob e h=>X.kept a ob e fun q=>h (h1 a q),fun a h=>(X.grow a h).imp (h1 a) id,fun a ob e=>(X.zgrow a ob e).imp id (Or.imp (h1 a) id),X.os,fun g gs e h=>X.gkept g gs e fun q=>h (h2 g q),fun g h=>(X.ggrow g h).imp (h2 g) id⟩
theorem T.drop{rel:f9->α->β->Prop}{t:Sem β}{p:XC×i9}{led:aa}{K:α->St->Prop}(h:T d7 w A B d8 rel t ⟨loc,led⟩ K):T d7 w A B d8 rel t ⟨loc,p::led⟩ K :=
 fun s Z S Q E hQ=>h s Z S.drop1 Q E fun v x s' Z' e9 k S' V X=>hQ v x s' Z' e9 k S' V (X.more (fun a ha=>ha.imp id (WO _)) fun g hg=>DA hg)
def vN(_:f9)(o:Obj):Prop:=∃led:Bool,o={ cls:=.type "set",dict:=none,data:=.set #[] 0 (.fresh 0 0 led)}
theorem IJ(Z Z':f9)(o:Obj)(k:f9.le Z Z')(x:vN Z o):vN Z' o:=x
noncomputable abbrev bV:i9:=.obj vN IJ
theorem Vm(h:∀a,a∉keys st.led->R (.ref a) ⟨st.loc,(a,bV)::st.led⟩):FC d7 w A B d8 (.typ "set") [] [] st R:=FC.t fun s Z S Q E hQ =>  Vals.un0 <| by
 refine call_set_0 fun lb=>?_;have P:=S.tof1.push (o:={ cls:=.type "set",dict:=none,data:=.set #[] 0 (.fresh 0 0 lb)}) (ao:=bV) rfl s.toks ⟨_,WW _ rfl,lb,rfl⟩;exact hQ _ _ _ _ _ (h _ S.tof1.lfresh) (S.after P.1 P.2) (.ref _) P.2.toF
theorem Vr{led':aa}(hsz:xs.length<XK)(U:Upd a (.list (xs++[v])) (.list xs) st.led led')(h:K v ⟨st.loc,led'⟩) :
  FC d7 w A B d8 (.blt "list.pop") [.ref a] [] st K:=FC.b fun s Z S Q E hQ=>Vals.un <| Val.eRef <| Vals.un0 <| by
 refine bt (S.own _ U.mem) fun items n g vs=>?_;dsimp only at g;have j3:items.size=xs.length+1:=vs.size.trans WV;refine ad (vs.get (i:=xs.length) (x:=v) (by simp)) fun y hy hV=>?_;have hy':items[items.size-1]?=some y:=by rw[j3];simpa using hy
 refine call_meets F.slot_list_pop (⟨_,g,rfl⟩) F.entry_list_pop (F.args_list_pop_1 _) (PySem.MeetsSeq.list_pop_last a items n y hy' ⋯) ⟨g,?_⟩;have B0:∃n',(s.heap.update a (XS fun x=>x.eraseIdxIfInBounds (items.size-1))).get? a=some {cls:=.type "list",data:=.seq (items.eraseIdxIfInBounds (items.size-1)) n' }:=⟨_,XH (XS fun x=>x.eraseIdxIfInBounds (items.size-1)) g rfl⟩;refine ak B0 ?_;clear B0;intro n' B0;have N_:(items.eraseIdxIfInBounds (items.size-1)).toList=items.toList.take xs.length:=by
  have h1:items.size-1<items.size:=by rw[j3];exact Zv _
  rw[Array.eraseIdxIfInBounds,dif_pos h1,Array.toList_eraseIdx,List.eraseIdx_eq_take_drop_succ];have h2:items.size-1=xs.length:=by rw[j3];rfl
  rw[h2,YG (by simp[j3]),Yi]
 have R8:Vals Z xs (items.eraseIdxIfInBounds (items.size-1)).toList:=by
  rw[N_]
  have:=vs.take xs.length;simpa using this
 have P:=S.tof1.upd U (h':=s.heap.update a (XS fun x=>x.eraseIdxIfInBounds (items.size-1))) (tk:=s.toks) (fun b ob hb e=>(XE ..).extBut b ob hb e) rfl rfl ⟨_,n',B0,R8⟩;exact hQ _ _ _ Z _ h (S.after P.1 P.2) hV P.2.toF
theorem f1.push0{led:aa}(S:f1 B s Z led)(tk:Nat) :
  f1 B {s with heap:=s.heap.push o,toks:=tk} Z led/\k8 (ah led) s Z {s with heap:=s.heap.push o,toks:=tk} Z (ah led):=by
 have keep:∀b ob,s.heap.get? b=some ob->(s.heap.push o).get? b=some ob:=fun b ob e=>WX o e;exact⟨⟨S.base,fun a ob e=>keep a ob (S.frozen a ob e),S.nodup,S.apart,fun p hp=>(S.own p hp).mono (.refl _) (fun ob e=>keep _ ob e) fun O O O e=>e,S.gnodup,S.bare⟩,
  ⟨.refl _,fun a ob e O=>keep a ob e,fun a ha => .inl ha,fun O O e => .inl e,rfl,fun O O e O=>e,fun g hg => .inl hg⟩⟩
theorem yZ{value lo hi:Expr}{p:Pos}(ht:∀o r,letTemporaryGo value o r=YV ())
  (h:T d7 w A B d8 Val (Yw value d8) st fun v j9=>T d7 w A B d8 Val (Yw lo d8) j9 fun l m5=>T d7 w A B d8 Val (Yw hi d8) m5 fun u u6 =>
   ∃xs:List AV,∃i j:Nat,j7 u6.led v xs/\l=.int i/\u=.int j/\i<=j/\j<=xs.length/\xs.length<=XK/\R (.lst ((xs.drop i).take (j-i))) u6) :
  T d7 w A B d8 Val (Yw (.Subscript value (.Slice (some lo) (some hi) none p) pos) d8) st R:=fun s Z S Q E hQ=>by
 refine wpAny_Subscript_list_slice (h s Z S _ _ fun v x s₁ Z1 j9 k₁ S1 V1 X1=>k₁ s₁ Z1 S1 _ _ fun l y s2 Z2 m5 k2 S2 V2 X2=>k2 s2 Z2 S2 _ _ fun u z s3 Z3 u6 k3 S3 V3 X3=>?_) ht;refine FZ k3 fun xs i j hl O5 O6 A9 hj hsz k=>?_;clear k3;subst O5;subst O6;refine bC (hl.get (V1.mono (X2.le.trans X3.le)) S3.tof1) fun a items n O4 g vs=>?_;subst O4;have j3:items.size=xs.length:=vs.size;refine ak V2.inv fun t e=>?_;subst e;refine ak V3.inv fun l_ e=>?_;subst e;refine Fr a items (some i) (some j) rfl ⟨_,g,rfl,n,rfl⟩ ⋯ (.int _ _) (.int _ _) ?_;rw[slicePick_run items i j ⋯ A9];have P1:=S3.tof1.push0 (o:={ cls:=.type "slice",data:=.fields #[.int i t,.int j l_,.none]}) s3.toks;have P2:=P1.1.pushZ (o:={ cls:=.type "list",data:=.seq ((items.toList.drop i).take (j-i)).toArray}) rfl s3.toks;have X:=P1.2.trans P2.2;have hs:(s3.heap.push {cls:=.type "slice",data:=.fields #[.int i t,.int j l_,.none]}).objs.size=s3.heap.objs.size+1:=ZV ..;refine hQ _ _ _ _ _ k (S3.after P2.1 X) ?_ (((X1.trans X2).trans X3).trans X.toF);rw[← hs];exact .lst (f9.add_at ..) (((vs.drop i).take (j-i)).mono X.le)
theorem g8.keepAll(S:g8 B d8 s Z st){h':Heap}{tk:Nat}(keep:∀b o,s.heap.get? b=some o->h'.get? b=some o):g8 B d8 {s with heap:=h',toks:=tk} Z st/\k8 (aw d8 st) s Z {s with heap:=h',toks:=tk} Z (aw d8 st) :=
 ⟨⟨⟨S.base,fun a o e=>keep a o (S.frozen a o e),S.nodup,S.apart,fun p hp=>(S.own p hp).mono (.refl _) (fun o e=>keep _ o e) (fun O O O e=>e),S.gnodup,S.bare⟩,S.locZ,S.locL,z5.mono (.refl _) (fun o e=>keep _ o e) S.loc,S.kinds,S.fn⟩,
  ⟨.refl _,fun a o e O=>keep a o e,fun a h => .inl h,fun O O e => .inl e,rfl,fun O O e O=>e,fun O h => .inl h⟩⟩
theorem uz{a b:Int}(hh:A.handled=none)(h:R (.int (max a b)) st):FC d7 w A B d8 (.blt "max") [.int a,.int b] [] st R:=FC.b fun s Z S Q E hQ=>Vals.un <| Val.eInt fun O=>Vals.un <| Val.eInt fun O=>Vals.un0 <| by
 refine max_two_ints hh fun h' tk w7=>?_;have P:=S.keepAll (h':=h') (tk:=tk) w7;refine hQ _ _ _ Z st h P.1 ?_ P.2;split
 ·rw[show max a b=b from by omega];exact .int _ _
 ·rw[show max a b=a from by omega];exact .int _ _
theorem uy{a b:Int}(hh:A.handled=none)(h:R (.int (min a b)) st):FC d7 w A B d8 (.blt "min") [.int a,.int b] [] st R:=FC.b fun s Z S Q E hQ=>Vals.un <| Val.eInt fun O=>Vals.un <| Val.eInt fun O=>Vals.un0 <| by
 refine min_two_ints hh fun h' tk w7=>?_;have P:=S.keepAll (h':=h') (tk:=tk) w7;refine hQ _ _ _ Z st h P.1 ?_ P.2;split
 ·rw[show min a b=b from by omega];exact .int _ _
 ·rw[show min a b=a from by omega];exact .int _ _
def zP(J:Nat->St->Prop)(K:g6->St->Prop)(n:Nat)(f:g6)(m5:St):Prop :=
 match f with
 |.next |.cont=>∃m,m<n/\J m m5
 |.brk=>K .next m5
 |.ret v=>K (.ret v) m5
theorem TM{m9:Expr}{J:Nat->St->Prop}{K:g6->St->Prop}
  (turn:∀n st,J n st->T d7 w A B d8 aH (isTrue m9 d8 (Yw m9 d8)) st fun b j9=>if b then T d7 w A B d8 j5 (execs body d8) j9 (zP J K n)
   else K .next j9)   (h:J n st):T d7 w A B d8 j5 (exec (.While m9 body [] pos) d8) st K:=fun s Z S Q E hQ=>by
 refine wpAny_While ?_;refine codeAny_whileLoop (fun n s'=>∃Z' e9,J n e9/\g8 B d8 s' Z' e9/\k8 (aw d8 st) s Z s' Z' (aw d8 e9)) ?_ n ⟨Z,st,h,S,.refl⟩;intro n s' Y3;refine br Y3 fun Z' e9 hJ S' X'=>?_;clear Y3;refine turn n e9 hJ s' Z' S' _ _ fun b c s₁ Z1 j9 k₁ S1 V1 X1=>?_;unfold aH at V1;subst V1;cases c with
 |true =>
  rw[if_pos rfl] at k₁ ⊢;refine k₁ s₁ Z1 S1 _ _ fun f y s2 Z2 m5 k2 S2 V2 X2=>?_;have X:=(X'.trans X1).trans X2;induction V2 with
  |next=>refine ad k2 fun m hm hJ=>?_;clear k2;exact⟨m,hm,Z2,m5,hJ,S2,X⟩
  |cont=>refine ad k2 fun m hm hJ=>?_;clear k2;exact⟨m,hm,Z2,m5,hJ,S2,X⟩
  |brk=>exact hQ _ _ s2 Z2 m5 k2 S2 .next X
  |ret hv=>exact hQ _ _ s2 Z2 m5 k2 S2 (.ret hv) X
 |false =>
  rw[if_neg XL] at k₁ ⊢;exact wpAny_execs_nil (hQ _ _ s₁ Z1 j9 k₁ S1 .next (X'.trans X1))
noncomputable def fg(l:List (Str×AV)):List (Str×AV)->List (Str×AV) :=
 List.rec (motive:=fun O=>List (Str×AV)->List (Str×AV)) (fun O=>[]) (fun p O ih m=>(p.1,bif (m.headD p).2.isAny then .any else p.2)::ih m.tail) l
theorem DS(x:Str)(l m:List (Str×AV)):(fg l m).lookup x=l.lookup x∨(fg l m).lookup x=some .any/\∃v,l.lookup x=some v:=by
 induction l generalizing m with
 |nil=>exact .inl rfl
 |cons p l ih =>
  show List.lookup x ((p.1,bif (m.headD p).2.isAny then .any else p.2)::fg l m.tail)=_∨_/\_;show List.lookup x ((p.1,bif (m.headD p).2.isAny then .any else p.2)::fg l m.tail)=List.lookup x ((p.1,p.2)::l)∨List.lookup x ((p.1,bif (m.headD p).2.isAny then .any else p.2)::fg l m.tail)=_/\∃v,List.lookup x ((p.1,p.2)::l)=some v;rw[Xl,Xl];cases x==p.1 with
  |false=>exact ih _
  |true=>cases(m.headD p).2.isAny with
   |false=>exact .inl rfl
   |true=>exact .inr ⟨rfl,_,rfl⟩
theorem DR(l:List (Str×AV)):fg l l=l:=by
 induction l with
 |nil=>rfl
 |cons p l ih =>
  show (p.1,bif p.2.isAny then .any else p.2)::fg l l=p::l;rw[ih];obtain⟨x,v⟩:=p;cases v <;> rfl
def n0(st e9:St):Prop:=(⟨fg st.loc e9.loc,st.led⟩:St)=e9
theorem n0.self(st:St):n0 st st:=congrArg (fun l=>(⟨l,st.led⟩:St)) (DR st.loc)
theorem n0.lc{e9:St}(h:n0 st e9):fg st.loc e9.loc=e9.loc:=(congrArg St.loc (show (⟨fg st.loc e9.loc,st.led⟩:St)=e9 from h) :)
theorem n0.ld{e9:St}(h:n0 st e9):st.led=e9.led:=(congrArg St.led (show (⟨fg st.loc e9.loc,st.led⟩:St)=e9 from h) :)
theorem n0.app{e9:St}(h:n0 st e9)(l:aa):n0 ⟨st.loc,st.led++l⟩ ⟨e9.loc,e9.led++l⟩:=congr (congrArg St.mk h.lc) (congrArg (· ++ l) h.ld)
theorem g8.fit{e9:St}(S:g8 B d8 s Z st)(h:n0 st e9):g8 B d8 s Z e9:=by
 obtain⟨loc,led⟩:=st;obtain⟨g9,led'⟩:=e9;cases(show led=led' from h.ld)
 have e:fg loc g9=g9:=h.lc;refine⟨S.tof1,S.locZ,S.locL,ad S.loc fun f hn hr=>bb f hn fun y=>?_,fun y v q=>?_,S.fn⟩
 ·show l6 Z (List.lookup y g9) (f y);rw[← e];exact(DS y loc g9).elim (fun q=>q▸hr y) fun q=>q.1▸.any
 ·exact(DS y loc g9).elim (fun h=>S.kinds y v (h.symm.trans ((congrArg (List.lookup y) e).trans q))) fun h=>h.2.elim fun u hu=>S.kinds y u hu
theorem n0.own{e9:St}(h:n0 st e9):aw d8 e9=aw d8 st:=by unfold aw;rw[show e9.led=st.led from h.ld.symm]
theorem T.fit{rel:f9->α->β->Prop}{t:Sem β}{e9:St}{K:α->St->Prop}(h:n0 st e9)(k:T d7 w A B d8 rel t e9 K):T d7 w A B d8 rel t st K :=
 fun s Z S Q E hQ=>k s Z (S.fit h) Q E fun v x s' Z' l7 k S' V X=>hQ v x s' Z' l7 k S' V (h.own▸X)
theorem F1.fit{rel:f9->α->β->Prop}{f:Value->Sem β}{led:aa}{K:α->St->Prop}(h:fg loc g9=g9)(k:F1 d7 w A B d8 rel f v ⟨g9,led⟩ K):F1 d7 w A B d8 rel f v ⟨loc,led⟩ K :=
 have h:n0 ⟨loc,led⟩ ⟨g9,led⟩:=congrArg (fun l=>(⟨l,led⟩:St)) h
 fun s Z x V S Q E hQ=>k s Z x V (S.fit h) Q E fun v x s' Z' l7 k S' V X=>hQ v x s' Z' l7 k S' V (h.own▸X)
theorem T.fitPost{rel:f9->α->β->Prop}{t:Sem β}{K K':α->St->Prop}(k:T d7 w A B d8 rel t st K)(h:∀v e9,K v e9->∃l7,n0 e9 l7/\K' v l7):T d7 w A B d8 rel t st K' :=
 fun s Z S Q E hQ=>k s Z S Q E fun v x s' Z' e9 k S' V X=>(h v e9 k).elim fun l7 q=>hQ v x s' Z' l7 q.2 (S'.fit q.1) V (q.1.own▸X)
def Nx(Y:(St->Prop)->Prop)(f:g6)(st:St):Prop:=f=.next/\∃e9,n0 st e9/\∀P,Y P->P e9
theorem Nx.mk{Y:(St->Prop)->Prop}{led:aa}{e9:St}(h:∀P,Y P->P e9)(e:(⟨fg loc e9.loc,led⟩:St)=e9):Nx Y .next ⟨loc,led⟩:=⟨rfl,e9,e,h⟩
theorem Nx.ld{Y:(St->Prop)->Prop}{e9:St}(h:∀P,Y P->P e9)(e:fg loc e9.loc=e9.loc):Nx Y .next ⟨loc,e9.led⟩:=⟨rfl,e9,congrArg (fun l=>(⟨l,e9.led⟩:St)) e,h⟩
theorem Nx.mkE{Y:(St->Prop)->Prop}{led:aa}{e9:St}(h:∀P,Y P->P e9)(el:led=e9.led)(e:fg loc e9.loc=e9.loc):Nx Y .next ⟨loc,led⟩:=el▸.ld h e
theorem T.join{t:Sem Flow}{K:g6->St->Prop}(Y:(St->Prop)->Prop)(h:T d7 w A B d8 j5 t st (Nx Y))(k:Y (K .next)):T d7 w A B d8 j5 t st K :=
 h.fitPost fun f e9 q=>q.1▸q.2.elim fun l7 q=>⟨l7,q.1,q.2 _ k⟩
def Lo(f:α->AV)(Y:List α->(St->Prop)->Prop)(l:List AV)(st:St):Prop:=∃gs e9,l=gs.map f/\n0 st e9/\∀P,Y gs P->P e9
theorem Lo.mk{f:α->AV}{Y:List α->(St->Prop)->Prop}{gs:List α}{led:aa}{e9:St}(h:∀P,Y gs P->P e9)(e:(⟨fg loc e9.loc,led⟩:St)=e9):Lo f Y (gs.map f) ⟨loc,led⟩:=⟨gs,e9,rfl,e,h⟩
theorem Lo.ld{f:α->AV}{Y:List α->(St->Prop)->Prop}{gs:List α}{e9:St}(h:∀P,Y gs P->P e9)(e:fg loc e9.loc=e9.loc):Lo f Y (gs.map f) ⟨loc,e9.led⟩:=⟨gs,e9,rfl,congrArg (fun l=>(⟨l,e9.led⟩:St)) e,h⟩
theorem Lo.lk{f:α->AV}{Y:List α->(St->Prop)->Prop}{gs:List α}{led:aa}(h:∀P,Y gs P->P ⟨g9,led⟩)(e:fg loc g9=g9):Lo f Y (gs.map f) ⟨loc,led⟩:=.ld (e9:=⟨g9,led⟩) h e
theorem uo{N:aa}(f:α->AV)(Y:List α->(St->Prop)->Prop){K:g6->St->Prop}{Tn:aa->α->List α->St->Prop}
  (ht:∀gl a as e9,Tn gl a as e9->F1 d7 w A B d8 aJ (YE e8 d8) (f a) ⟨e9.loc,e9.led++gl⟩ fun O u6=>T d7 w A B d8 j5 (execs body d8) u6 (G2 (Lo f Y) K (as.map f) gl)) (hA:g7 A k)
  (p8:T d7 w A B d8 Val (Yw iter d8) st fun v j9=>F1 d7 w A B d8 Val pyIter v j9 (π d7 w B N k e8 (Lo f Y)))
  (step:∀gl a as,Y (a::as) (Tn gl a as)) (hN:∀gs e9,(∀P,Y gs P->P e9)->n7 N e9.led) (done:Y [] (K .next)) (hs:∀x,ZI iter d8 x=YV x) :
  T d7 w A B d8 j5 (exec (.For e8 iter body [] pos) d8) st K :=
 T.fitPost (K:=fun f st=>∃l7,n0 st l7/\K f l7) (TS hA p8 (fun x xs st gl q s Z v V S Q E hQ=>q.elim fun gs q=>q.elim fun e9 q=>by
   cases gs with
   |nil=>cases q.1
   |cons a as =>
    cases q.1
    have q2:=n0.app q.2.1 gl;exact ht _ _ _ _ (q.2.2 _ (step gl a as)) s Z v V (S.fit q2) Q E fun v x s' Z' l7 k S' V X=>hQ v x s' Z' l7 (k.mono fun f y9 k=>k.rec .next .cont (fun k => .brk ⟨_,n0.self _,k⟩) fun k => .ret ⟨_,n0.self _,k⟩) S' V (q2.own▸X))
  (fun xs st q=>q.elim fun gs q=>q.elim fun e9 q=>(show e9.led=st.led from q.2.1.ld.symm)▸hN gs e9 q.2.2) (fun st q=>q.elim fun gs q=>q.elim fun e9 q=>by
   cases gs with
   |nil=>exact⟨e9,q.2.1,q.2.2 _ done⟩
   |cons a as=>cases q.1) hs) fun v e9 q=>q
theorem yU(f:α->AV)(Y:List α->(St->Prop)->Prop){K:g6->St->Prop}(hA:g7 A k)
  (p8:T d7 w A B d8 Val (Yw iter d8) st fun v j9=>F1 d7 w A B d8 Val pyIter v j9 (π d7 w B [] k e8 (Lo f Y)))
  (step:∀gl a as,Y (a::as) fun e9=>F1 d7 w A B d8 aJ (YE e8 d8) (f a) ⟨e9.loc,e9.led++gl⟩ fun O u6=>T d7 w A B d8 j5 (execs body d8) u6 (G2 (Lo f Y) K (as.map f) gl))
  (done:Y [] (K .next)) (hs:∀x,ZI iter d8 x=YV x) :
  T d7 w A B d8 j5 (exec (.For e8 iter body [] pos) d8) st K:=uo f Y (fun O O O O h=>h) hA p8 step (fun O O O => .nil) done hs
def Lw(Y:Nat->(St->Prop)->Prop)(n:Nat)(st:St):Prop:=∃e9,n0 st e9/\∀P,Y n P->P e9
theorem Lw.mk{Y:Nat->(St->Prop)->Prop}{led:aa}{e9:St}(h:∀P,Y n P->P e9)(e:(⟨fg loc e9.loc,led⟩:St)=e9):Lw Y n ⟨loc,led⟩:=⟨e9,e,h⟩
theorem me{m9:Expr}(Y:Nat->(St->Prop)->Prop){K:g6->St->Prop}
  (turn:∀n,Y n fun st=>T d7 w A B d8 aH (isTrue m9 d8 (Yw m9 d8)) st fun b j9=>if b then T d7 w A B d8 j5 (execs body d8) j9 (zP (Lw Y) K n) else K .next j9)
    (h:Lw Y n st):T d7 w A B d8 j5 (exec (.While m9 body [] pos) d8) st K :=
 TM (J:=Lw Y) (fun n st q=>q.elim fun e9 q=>T.fit q.1 (q.2 _ (turn n))) h
section
variable{N:aa}{n m:Nat}{K:g6->St->List AV->Prop}
theorem TG.eq{t:Sem Flow}{j6:List AV}(e:f0=j6)(k:TG d7 w B N n m d8 t st j6 K):TG d7 w B N n m d8 t st f0 K:=e▸k
theorem TG.fit{t:Sem Flow}{e9:St}(h:n0 st e9)(k:TG d7 w B N n m d8 t e9 f0 K):TG d7 w B N n m d8 t st f0 K :=
 fun c fs Kc H gd lv hs hg hK A hA led' hN o7 o6 Z0 s Z S X =>
  have q:=h.app led';k c fs Kc H gd lv hs hg hK A hA led' hN o7 o6 Z0 s Z (S.fit q) (q.own▸X)
def F4(Y:(St->List AV->Prop)->Prop)(f:g6)(st:St)(f0:List AV):Prop:=f=.next/\∃e9,n0 st e9/\∀P,Y P->P e9 f0
theorem F4.mk{Y:(St->List AV->Prop)->Prop}{led:aa}{e9:St}(h:∀P,Y P->P e9 f0)(e:(⟨fg loc e9.loc,led⟩:St)=e9):F4 Y .next ⟨loc,led⟩ f0:=⟨rfl,e9,e,h⟩
theorem ez{x:Stmt}{rest:List Stmt}(Y:(St->List AV->Prop)->Prop)(h:TG d7 w B N n m d8 (exec x d8) st f0 (F4 Y))(k:Y fun st f0=>TG d7 w B N n m d8 (execs rest d8) st f0 K):TG d7 w B N n m d8 (execs (x::rest) d8) st f0 K:=cm <|
 fun c fs Kc H gd lv hs hg hK=>h c fs Kc H gd lv hs hg fun f x e9 j6 q=>hK f x e9 j6 (q.1▸q.2.elim fun l7 q=>TG.fit q.1 (q.2 _ k))
def ú(f:α->AV)(Y:List α->(St->List AV->Prop)->Prop)(l:List AV)(st:St)(f0:List AV):Prop:=∃gs e9,l=gs.map f/\n0 st e9/\∀P,Y gs P->P e9 f0
theorem ú.mk{f:α->AV}{Y:List α->(St->List AV->Prop)->Prop}{gs:List α}{led:aa}{e9:St}(h:∀P,Y gs P->P e9 f0)(e:(⟨fg loc e9.loc,led⟩:St)=e9):ú f Y (gs.map f) ⟨loc,led⟩ f0:=⟨gs,e9,rfl,e,h⟩
theorem gJ(f:α->AV){rest:List Stmt}(Y:List α->(St->List AV->Prop)->Prop)(hk:k<=m)
  (p8:∀A,g7 A m->∀led,n7 N led->T d7 w A B d8 Val (Yw iter d8) ⟨st.loc,st.led++led⟩ fun v j9=>F1 d7 w A B d8 Val pyIter v j9 (V8 d7 w B N k e8 led (ú f Y) f0))
  (step:∀gl a as,Y (a::as) (V7 d7 w B N n m d8 e8 (f a) body gl (I1 (ú f Y) (AI d7 w B N n m d8 rest K) (as.map f) gl)))
  (done:Y [] fun st f0=>TG d7 w B N n m d8 (execs rest d8) st f0 K) (hs:∀x,ZI iter d8 x=YV x) :
  TG d7 w B N n m d8 (execs (.For e8 iter body [] pos::rest) d8) st f0 K :=
 cm (Uc hk p8 (fun x xs st f0 gl q=>q.elim fun gs q=>q.elim fun e9 q=>by
   cases gs with
   |nil=>cases q.1
   |cons a as =>
    cases q.1
    have ⟨h,k⟩:=q.2.2 _ (step gl a as);refine .mk (fun A hA led hN=>show F1 d7 w A B d8 aJ (YE e8 d8) (f a) ⟨st.loc,(st.led++gl)++led⟩ _ from(show e9.led=st.led from q.2.1.ld.symm)▸F1.fit q.2.1.lc (h A hA led hN)) ((show e9.led=st.led from q.2.1.ld.symm)▸k))
  (fun st f0 q=>q.elim fun gs q=>q.elim fun e9 q=>by
   cases gs with
   |nil=>exact TG.fit q.2.1 (q.2.2 _ done)
   |cons a as=>cases q.1) hs)
end
def R0{γ:Type}(l:List AV):(List Value->γ)->(List Value->γ)->Prop :=
 List.rec (motive:=fun O=>(List Value->γ)->(List Value->γ)->Prop) (fun f g=>f []=g []) (fun O O ih f g=>∀v,ih (fun l=>f (v::l)) fun l=>g (v::l)) l
theorem R0.out{γ:Type}{l:List AV}(h:Vals Z l vs):∀(f g:List Value->γ),R0 l f g->f vs=g vs :=
 h.ind (P:=fun l vs=>∀f g:List Value->γ,R0 l f g->f vs=g vs) (fun f g k=>k) fun O O ih f g k=>ih _ _ (k _)
section
variable{K:Frag}{f c:XC}{fd:a8}(loc:List (Str×AV)){l0 led N:aa}{m:Nat}{R:AV->aa->Prop}
noncomputable abbrev ue(args:List AV):List Str:=((loc.take args.length).map Prod.fst).reverse
variable(hG:m3 (am K))(n9:A.depth<YU)
 (hb:R0 args (fun vs=>XW K ⟨d7,w.params⟩ (bindArgs fd ⟨vs,[]⟩)) fun vs=>some ((ue loc args).zip vs))
 (hx:(loc.all fun p=>decide (fd.scope.names.lookup p.1=some .local))=true) (hl:((ue loc args).zip args).reverse++(loc.drop args.length).map (fun p=>(p.1,AV.any))=loc)
include hb in
theorem Binds.zip:Binds d7 w A (am K) fd args [] ((ue loc args).zip args):=Binds.pk fun Z xs h=>⟨_,R0.out h _ _ hb,j4.zip _ h⟩
include hx hl in
theorem CH:((((ue loc args).zip args).map (·.1)).all fun x=>decide (fd.scope.names.lookup x=some .local))=true:=by
 rw[XF] at hx ⊢;intro x h;refine(Xu.mp h).elim fun p q=>?_;exact q.2▸hx p (hl▸Yc _ (List.mem_reverse.mpr q.1))
include hx in
theorem CG:(((loc.drop args.length).map Prod.fst).all fun x=>decide (fd.scope.names.lookup x=some .local))=true:=by
 rw[XF] at hx ⊢;intro x h;refine(Xu.mp h).elim fun p q=>?_;exact q.2▸hx p (List.mem_of_mem_drop q.1)
include hG n9 hb hx hl
theorem Fg(ok:bH K f true fd body c)(h:∀L,TG d7 w (am K) N (m+3) m (ba fd L f c) (execs body (ba fd L f c)) ⟨loc,l0⟩ f0 fun O O j6=>j6=[]):TC d7 w A (am K) (.ref f) args [] (l0++led) (n8 d7 w (am K) N (m+3) f0 led) :=
 Ur hG ok n9 (Binds.zip loc hb) (CH loc hx hl) fun L=>TG.spares _ (CG loc (args:=args) hx) (by rw[YF];exact(show _=loc from hl).symm▸h L)
theorem zc(ok:bH K f true fd body c)(h:∀L,TG d7 w (am K) N (m+3) m (ba fd L f c) (execs body (ba fd L f c)) ⟨loc,[]⟩ f0 fun O O j6=>j6=[]):TC d7 w A (am K) (.ref f) args [] led (n8 d7 w (am K) N (m+3) f0 led) :=
 Fg (l0:=[]) loc hG n9 hb hx hl ok h
theorem dD(ok:bH K f false fd body c)(h:∀L,L∉keys led->T d7 w (A.deeper (ba fd L f c)) (am K) (ba fd L f c) j5 (execs body (ba fd L f c)) ⟨loc,led⟩ (hM R)):TC d7 w A (am K) (.ref f) args [] led R :=
 zd hG ok n9 (Binds.zip loc hb) (CH loc hx hl) fun L hL=>T.spares _ (CG loc (args:=args) hx) (by rw[YF];exact(show _=loc from hl).symm▸h L hL)
end
theorem Ml:(kfb_private% "ownerAndName") "dict.get" = ("dict", "get"):=by first |decide +kernel |kernel_rfl
theorem Mk:(kfb_private% "ownerAndName") "set.__contains__" = ("set", "__contains__"):=by first |decide +kernel |kernel_rfl
theorem Ht:(Manifest.toldItsClass.contains "dict.get")=false:=by decide +kernel
theorem Hs:(Manifest.toldItsClass.contains "set.__contains__")=false:=by decide +kernel
theorem Hn:typeOf (.builtin "set.__contains__")=YV (.type "method_descriptor"):=by show builtinType _=_;rw[builtinType_eq_fast];kernel_rfl
theorem Jc{M:Model}{id T' nm:String}{P:PySem.Fin->WS->Prop}(ho:(kfb_private% "ownerAndName") id=(T',nm))(ht:Manifest.toldItsClass.contains id=false)
  (hT:s.TypeIs (.ref a) T') (z4:ZR (.type T') (.type T')=YV true) (h:P (.done (.ret (.ref s.heap.objs.size))) {s with heap:=s.heap.push {cls:=.type "builtin_function_or_method",data:=.fields #[.builtin id,.ref a]} }) :
  Xq M A (Builtin.«method_descriptor.__get__» ⟨[.builtin id,.ref a,.type T'],[]⟩) P E s:=by
 unfold Builtin.«method_descriptor.__get__»;refine WL (Yd (a:=(.builtin id,some (.ref a),some (.type T'))) (by first |rfl |kernel_rfl) ?_);dsimp only;rw[ht];simp only[XI,if_false];show Xq M A ((kfb_private% "checkInstance") (.builtin id) (.ref a)>>=fun O=>newFields "builtin_function_or_method" [.builtin id,.ref a]>>=fun v=>ret v) P E s;refine WL ?_;show Xq M A (((kfb_private% "nameAndClass") (.builtin id))>>=fun p=>_) _ E s;have hn:(kfb_private% "nameAndClass") (.builtin id)=YV (WR nm,ZS T'):=by
  show (match (kfb_private% "ownerAndName") id with |(owner,name)=>(YV (WR name,ZS owner):Sem (Str×Value)))=_;rw[ho]
 rw[hn];refine WL (WN ?_);dsimp only;refine WL (YJ (T:=T') (b:=true) hT z4 ?_);simp only[Bool.not_true,XI,if_false];refine WN ?_;exact WL (XZ (WN h))
theorem NZ:Yx (.type "method_descriptor") "__get__" = YV (some (.builtin "method_descriptor.__get__")):=by rw[Ye,XD];kernel_rfl
theorem NY:Yx (.type "method_descriptor") "__set__" = YV none:=by rw[Ye,XD];kernel_rfl
theorem Oa:Yx (.type "method_descriptor") "__delete__" = YV none:=by rw[Ye,XD];kernel_rfl
theorem Ie:Slot "method_descriptor" "__get__" "method_descriptor.__get__" :=
 .of (owner := "method_descriptor") (n := "__get__") (by rw[Ye,XD];kernel_rfl) (by decide +kernel) (by decide +kernel) (by decide +kernel)
  (by first |exact .inl (by decide +kernel) |exact .inr (by decide +kernel)) (by rw[Yb];kernel_rfl)
theorem Rp:entryFor table "method_descriptor.__get__" = some Builtin.«method_descriptor.__get__» := Zo @_
theorem Ta(a b c:Value):c6 "method_descriptor.__get__" ⟨[a,b,c],[]⟩:=by unfold c6;kernel_rfl
theorem Jb{id T':String}{u:Tok}{P:PySem.Fin->WS->Prop}
  (ho:s.heap.get? a=some o) (hc:o.cls=.type T') (K6:o.dict=none) (u9:∀c,o.data ≠ .cls c)
  (W8:Yx (.type T') name=YV (some (.builtin id))) (S9:typeOf (.builtin id)=YV (.type "method_descriptor"))
  (hnm:(["__module__", "__name__", "__qualname__", "__doc__", "__annotations__"]:List Str).contains name=false)
  (h:Xq (Xn d7 w) A (call (.builtin "method_descriptor.__get__") [.builtin id,.ref a,.type T']) (fun v s'=>P (.done (.ret v)) s') E s) :
  Xq (Xn d7 w) A (Builtin.«object.__getattribute__» ⟨[.ref a,.str name u],[]⟩) P E s:=by
 have hT:s.TypeIs (.ref a) T':=⟨_,ho,hc⟩;obtain⟨hp,g,d,tk,os⟩:=s;have f3:=NZ;have f4:=NY;have f5:=Oa;unfold Builtin.«object.__getattribute__»;repeat (any_goals (first |assumption |wp_step))
 split
 ·rename_i q
  exact absurd q (u9 c)
 unfold instanceDict;refine WL (wpAny_loadPart ho ?_);rw[hc,K6];refine WL (WN ?_);refine WN ?_;refine WN ?_;refine WL ?_;unfold Builtin.ObjectAttr.copiedAttributeGuard;dsimp only;rw[hnm];refine WN ?_;refine WL (YA (WN ?_));exact WL (Xc (XU h (fun v s' h'=>WN h') fun O O h'=>h'))
theorem Rs:entryFor table "dict.__getattribute__" = some Builtin.«object.__getattribute__» := entryFor_alias (id' := "object.__getattribute__") @_ rfl (by decide +kernel) @_
theorem Rn:entryFor table "set.__getattribute__" = some Builtin.«object.__getattribute__» := entryFor_alias (id' := "object.__getattribute__") @_ rfl (by decide +kernel) @_
theorem zM{id T' nm Ó:String}{E0:Bool}
  (ho:s.heap.get? a=some o) (hc:o.cls=.type T') (K6:o.dict=none) (u9:∀c,o.data ≠ .cls c)
  (w_:Slot T' "__getattribute__" Ó) (G7:entryFor table Ó=some Builtin.«object.__getattribute__») (hgar:∀a b,c6 Ó ⟨[a,b],[]⟩)
  (W8:Yx (.type T') name=YV (some (.builtin id))) (S9:typeOf (.builtin id)=YV (.type "method_descriptor"))
  (hnm:(["__module__", "__name__", "__qualname__", "__doc__", "__annotations__"]:List Str).contains name=false)
  (I':(kfb_private% "ownerAndName") id=(T',nm)) (ht:Manifest.toldItsClass.contains id=false) (z4:ZR (.type T') (.type T')=YV true)
  (h:Q (.ref s.heap.objs.size) {s with heap:=s.heap.push {cls:=.type "builtin_function_or_method",data:=.fields #[.builtin id,.ref a]},toks:=s.toks+1}) :
  Xq (Xn d7 w) A (getAttr (.ref a) name E0) Q E s:=by
 have hT:∀t',({s with toks:=t' }:WS).TypeIs (.ref a) T':=fun t'=>⟨o,ho,hc⟩;unfold getAttr getAttrBy;refine WL (wpAny_mkText (Xc (WL (wpAny_typeOf (hT _) (WL (Yd w_.lookup ?_))))));show Xq _ _ (getAttrByItsOwn (.ref a) (.str name s.toks) (.type T') (.builtin Ó) true E0) _ _ _;unfold getAttrByItsOwn hookBefore callGetattribute;refine WL (Yd (show (if onTheHeap (.type T') then Yx (.type T') "__getattr__" else YV none)=YV none from rfl) ?_);refine WL (Zp (Xc ?_));rw[show (E0&&onTheHeap (.builtin Ó))=false from Bool.and_false _];unfold boundAndCalled;dsimp only[XI,if_false];refine WL (Yd (w_.bind _) ?_);refine XU (Q:=fun v s'=>v=.ref s.heap.objs.size/\s'={ s with heap:=s.heap.push {cls:=.type "builtin_function_or_method",data:=.fields #[.builtin id,.ref a]},toks:=s.toks+1}) (E:=fun O O=>False)
  (XO w_ (hT _) G7 ?_ (hgar _ _)) (fun v s' hv=>?_) fun O O z=>z.elim
 ·refine Jb (s:={ s with toks:=s.toks+1}) ho hc K6 u9 W8 S9 hnm ?_;refine XO Ie S9 Rp ?_ (Ta _ _ _);refine Jc I' ht (hT _) z4 ?_;exact⟨_,rfl,_,rfl,rfl,rfl⟩
 ·refine av hv fun O1 O2=>?_;clear hv;subst O1;subst O2;exact WN h
theorem zN{x:XC}{id T':String}{sig:_}{rest:List Value}{F:Builtin}{S:Spec}
  (hx:s.heap.get? x=some {cls:=.type "builtin_function_or_method",data:=.fields #[.builtin id,.ref a]})
  (ho:s.heap.get? a=some o) (hc:o.cls=.type T') (u9:∀c,o.data ≠ .cls c)
  (hsig:Manifest.signature? id=some sig) (r0:builtinKind id=some .method) (hmod:ZR (.type T') (.type "module")=YV false) (hva:Manifest.varargsMethods.contains id=false)
  (T_:Bind.checkArgs id {sig with full:=s!"{Bind.lastOf T'}.{Bind.lastOf id}" } ⟨.ref a::rest,[]⟩=YV ())
  (slot:Slot T' name id) (entry:entryFor table id=some F) (g:MeetsIn d7 w (F ⟨.ref a::rest,[]⟩) S) (h:S A (wants Q E) s) :
  Xq (Xn d7 w) A (call (.ref x) rest) Q E s:=by
 have hT:s.TypeIs (.ref a) T':=⟨_,ho,hc⟩;refine Zu (codeAny_of_tree ?_);show Xq _ A.in1 (callAny (.ref x) ⟨rest,[]⟩) _ _ s;dsimp only[callAny];refine WL (wpAny_load hx ?_);dsimp only[show (ZS "builtin_function_or_method" == ZS "method" || ZS "builtin_function_or_method" == ZS "builtin_function_or_method" || ZS "builtin_function_or_method" == ZS "method-wrapper")=true by decide,if_true];refine KFB.if_so (by decide) ?_;refine WL ?_;unfold checkBoundCall;rw[hsig];dsimp only;rw[r0];dsimp only;refine Yj (by decide) ?_;refine WL (YJ (T:=T') (b:=false) hT hmod ?_);refine Yj (by rw[hva];rfl) ?_;refine WL ?_;unfold isType;refine WL (wpAny_loadPart ho ?_);have hn:(match o.data with |.cls _=>true |_=>false)=false:=by
  cases q:o.data with
  |cls c=>exact absurd q (u9 c)
  |_=>rfl
 refine WN ?_;refine Yj hn ?_;refine WL (wpAny_typeOf hT ?_);refine Yd T_ ?_;refine WL (WN (WN ?_));refine⟨plainId_quiet slot.plain _,ZJ entry ?_⟩;rw[ZH slot.plain];exact g A (wants Q E) s h
theorem Ww{knd:d5 d7 w Int}{m:List (Int×AV)}{E0:Bool}(hm:(d,au knd m)∈st.led)
  (h:R (.bm "dict.get" (.ref d)) st):F1 d7 w A B d8 Val (fun x=>getAttr x Jy E0) (.ref d) st R:=F1.of fun s Z S Q E hQ=>Val.eRef <| by
 refine ad (S.own _ hm) fun o ho h_=>ef h_ fun es ep kvs hex hd O O O O=>?_;dsimp only at ho;refine zM (T' := "dict") (id := "dict.get") ho hex.1 hex.2.1 (fun c e=>by rw[hd] at e;cases e) F.slot_dict_getattribute Rs F.args_dict_getattribute_2 F.slot_dict_get.lookup F.type_dict_get (by decide +kernel) Ml Ht (by rw[Yb];kernel_rfl) ?_;have P:=S.tof1.pushZ (o:={ cls:=.type "builtin_function_or_method",data:=.fields #[.builtin "dict.get",.ref d]}) rfl (s.toks+1);exact hQ _ _ _ _ _ h (S.after P.1 P.2) (.bm (f9.add_at ..) (.ref d)) P.2.toF
theorem VJ{knd:d5 d7 w Int}{m:List (Int×AV)}{dflt:AV}{k:Int}(y7:(d==Ze)=false)(hk:∀Z x,Val Z v x->knd.is k x=true)(hm:(d,au knd m)∈st.led)
  (h:R ((aI m k).getD dflt) st):FC d7 w A B d8 (.bm "dict.get" (.ref d)) [v,dflt] [] st R:=fun s Z fx xs ks hf hx H5 S Q E hQ=>by
 cases H5
 refine br (yj hf) fun u1 u2 qv e hs=>?_;subst qv
 (have e_:=hs.inv;subst e_)
 refine Vals.un2 (P:=fun xs=>Xq (Xn d7 w) A (call (.ref u1) xs []) Q E s) (fun xk h2 xd h3=>?_) xs hx;refine ad (lX S.tof1 hm) fun kvs hD K8=>?_;refine jp (id hD) fun o es ep ho hex hd O=>?_;refine zN (T' := "dict") (id := "dict.get") (S.frozen _ _ e) ho hex.1 (fun c e=>by rw[hd] at e;cases e) (sig:=(Manifest.signature? "dict.get").getD ⟨.positional, "", "",.self,[]⟩) @_ @_ (by rw[Yb];kernel_rfl) (by decide +kernel) @_ F.slot_dict_get F.entry_dict_get (meets_dict_get_default knd d (hk Z xk h2) y7 xd) ⟨_,hD.mapOf,?_⟩;refine hQ _ _ _ Z st h (S.toks _) ?_ (.toks _);rcases K8.find k with ⟨e1,e2⟩ |⟨u,y,e1,e2,e3⟩
 ·exact(Eq.symm (e1))▸(Eq.symm (e2))▸h3
 ·exact(Eq.symm (e1))▸(Eq.symm (e2))▸e3
theorem Wx{E0:Bool}(hm:(a,bV)∈st.led)
  (h:R (.bm "set.__contains__" (.ref a)) st):F1 d7 w A B d8 Val (fun x=>getAttr x JE E0) (.ref a) st R:=F1.of fun s Z S Q E hQ=>Val.eRef <| by
 obtain⟨o,ho,lb,rfl⟩:=S.own _ hm;dsimp only at ho;refine zM (T' := "set") (id := "set.__contains__") ho rfl rfl (fun c e=>by cases e) F.slot_set_getattribute Rn F.args_set_getattribute_2 F.slot_set_contains.lookup Hn (by decide +kernel) Mk Hs (by rw[Yb];kernel_rfl) ?_;have P:=S.tof1.pushZ (o:={ cls:=.type "builtin_function_or_method",data:=.fields #[.builtin "set.__contains__",.ref a]}) rfl (s.toks+1);exact hQ _ _ _ _ _ h (S.after P.1 P.2) (.bm (f9.add_at ..) (.ref a)) P.2.toF
theorem Nq{t:Tok}:MeetsIn d7 w (Builtin.«frozenset.__contains__» ⟨[.ref a,.str x t],[]⟩) (fun O R s=>s.heap.SetOf (XA d7 w) a (fun O=>false) 0/\R (.ok (.ret (.bool false))) {s with toks:=s.toks+1}) :=
 .of_wp fun A R s ⟨hS,h⟩=>by
  unfold Builtin.«frozenset.__contains__» Builtin.Frozenset.oneOther;simp only[List.isEmpty_nil,bind_assoc];unfold Builtin.Frozenset.addrOf Builtin.Frozenset.withSetAsKey setContains;refine WL (WN ?_);try dsimp only
  refine WL (WN ?_);try dsimp only
  have A8:(XA d7 w).is x (.str x t)=true:=by simp[XA,Value.isStrOf]
  refine WL (wpAny_tryCatch ?_);refine Xc ?_;refine WL ((XA d7 w).pyHash A8 ?_);refine WL (wpAny_setFind_of (s:={ s with toks:=s.toks+1}) A8 rfl hS fun r hr=>?_);refine WN ?_;show Xq _ _ (ret (Value.bool r.isSome)) _ _ _;exact(Eq.symm (hr))▸WN ⟨_,rfl,h⟩
theorem uE(hm:(a,bV)∈st.led)
  (h:R (.bool false) st):FC d7 w A B d8 (.bm "set.__contains__" (.ref a)) [.str x] [] st R:=fun s Z fx xs ks hf hx H5 S Q E hQ=>by
 cases H5
 refine br (yj hf) fun O O qv e hs=>?_;subst qv
 (have e_:=hs.inv;subst e_)
 cases hx with
 |cons h2 hx =>
  (have e_:=hx.inv;subst e_)
  (refine ak h2.inv fun t_ e_=>?_;subst e_)
  obtain⟨o,ho,lb,rfl⟩:=S.own _ hm;dsimp only at ho;refine zN (T' := "set") (id := "set.__contains__") (S.frozen _ _ e) ho rfl (fun c e=>by cases e) (sig:=(Manifest.signature? "set.__contains__").getD ⟨.positional, "", "",.self,[]⟩) @_ @_ (by rw[Yb];kernel_rfl) (by decide +kernel) @_ F.slot_set_contains entry_set_contains Nq ⟨?_,?_⟩
  ·exact UX _ (#[]) 0 _ ho ⟨rfl,rfl,rfl⟩ rfl (fun e he=>by simp at he) (fun k=>by simp) (by decide) (by rfl) rfl
  ·exact hQ _ _ _ Z st h (S.toks _) (.bool false) (.toks _)
theorem TT{e:Expr}{K:g6->St->Prop}(hi:interactive d8=false)(hs:swapsWith e none pos.line d8=YV false)
  (h:T d7 w A B d8 Val (Yw e d8) st fun O e9=>K .next e9):T d7 w A B d8 j5 (exec (.Expr e pos) d8) st K:=fun s Z S Q E hQ =>
 wpAny_Expr_any (h s Z S _ _ fun v x s' Z' e9 k S' V X=>hQ _ _ s' Z' e9 k S' .next X) hi hs
theorem TW{K:g6->St->Prop}(h:K .brk st):T d7 w A B d8 j5 (exec (.Break pos) d8) st K:=fun s Z S Q E hQ=>wpAny_Break (hQ _ _ s Z st h S .brk .refl)
theorem EV{K:g6->St->Prop}(h:K .cont st):T d7 w A B d8 j5 (exec (.Continue pos) d8) st K:=fun s Z S Q E hQ=>wpAny_Continue (hQ _ _ s Z st h S .cont .refl)
theorem FO{a b:Int}(hb:b≠0)(hs:b.natAbs<1073741824)(h:K (.int (a.fdiv b)) st):F2 d7 w A B d8 Val (binaryOp .FloorDiv) (.int a) (.int b) st K:=F2.of fun s Z S Q E hQ=>Val.eInt fun O=>Val.eInt fun O=>PyProof.Rows.floordiv_int hb (hQ _ _ _ Z st h (S.toks _) (.int _ _) (.toks _)) (.inl (PyProof.noPylong_small hs))
theorem Upd.app{o o':i9}:∀ {l l':aa},Upd a o o' (l++(a,o)::l') (l++(a,o')::l')
 | [],_ => .here
 |_::l,_ => .there (Upd.app (l:=l))
theorem Upd.append{o o':i9}{l l' r:aa}(u:Upd a o o' l l'):Upd a o o' (l++r) (l'++r):=by
 induction u with
 |here=>exact .here
 |there _ ih=>exact .there ih
theorem QN{K:Type}[DecidableEq K](m:List (K×AV))(k:K)(v:AV)(x:K):aI (ei m k v) x=if x=k then some v else aI m x:=by
 unfold ei;cases hb:(m.any fun kv=>decide (kv.1=k)) with
 |true =>
  rw[if_pos rfl];induction m with
  |nil=>simp at hb
  |cons p r ih =>
   unfold aI at *;rw[WY,Za,Za];by_cases e:p.1=k
   ·simp only[e,if_true];by_cases q:x=k
    ·subst q;simp
    ·have q' : ¬ (k=x):=fun h=>q h.symm;simp only[q,q',decide_false,if_false];cases hr:(r.any fun kv=>decide (kv.1=k)) with
     |true =>
      have:=ih hr;simp only[q,if_false] at this;exact this
     |false =>
      rw[Zf (g:=id)]
      ·simp
      ·intro y hy
       have:=List.any_eq_false.mp hr y hy;simp only[decide_eq_true_eq] at this;rw[if_neg this];rfl
   ·simp only[e,if_false];by_cases q:p.1=x
    ·have : ¬ (x=k):=fun h=>e (q.trans h);simp[q,this]
    ·simp only[q,decide_false];exact ih (by simpa[e] using hb)
 |false =>
  rw[if_neg XL];unfold aI;rw[List.find?_append];by_cases q:x=k
  ·subst q
   have:List.find? (fun kv:K×AV=>decide (kv.1=x)) m=none:=List.find?_eq_none.mpr fun y hy=>by
    have:=List.any_eq_false.mp hb y hy;exact this
   rw[this];simp
  ·have q' : ¬ (k=x):=fun h=>q h.symm;cases hf:List.find? (fun kv:K×AV=>decide (kv.1=x)) m <;> simp[q,q']
theorem KV.out{K:Type}{k:K}{m:List (K×AV)}{P:List (K×Value)->Prop}(c:∀x r,Val Z v x->KV Z m r->P ((k,x)::r))(kvs:List (K×Value))(h:KV Z ((k,v)::m) kvs):P kvs:=by
 cases h with
 |cons h1 h2=>exact c _ _ h1 h2
theorem KV.recast{K:Type}{Z':f9}(le:f9.le Z Z')(hv:Val Z' (.lst xs) (.ref a)){k:K}{m1 m2:List (K×AV)}:∀ {kvs:List (K×Value)},KV Z (m1++(k,.ref a)::m2) kvs->KV Z' (m1++(k,.lst xs)::m2) kvs:=by
 induction m1 with
 |nil=>exact KV.out (fun x r h1 h2=>h1.inv▸.cons hv (h2.mono le)) _
 |cons p m1 ih=>exact KV.out (k:=p.1) (v:=p.2) (fun x r h1 h2 => .cons (h1.mono le) (ih h2)) _
theorem f1.freeze1{K:Type}[DecidableEq K]{knd:d5 d7 w K}{dj:XC}{k:K}{d1 d2:List (K×AV)}{L:aa}(S:f1 B s Z ((dj,au knd (d1++(k,.ref a)::d2))::(a,.list xs)::L)) :
  ∃Z',f1 B s Z' ((dj,au knd (d1++(k,.lst xs)::d2))::L)/\f9.le Z Z'/\k8 (ah ((dj,au knd (d1++(k,.ref a)::d2))::(a,.list xs)::L)) s Z s Z' (ah ((dj,au knd (d1++(k,.lst xs)::d2))::L)):=by
 have S1:=S.perm (YW ..);refine gR S1.freeze fun Z1 S2 hv le X=>ed Z1 ⟨S2.base,S2.frozen,S2.nodup,fun p hp=>?_,fun p hp=>?_,S2.gnodup,S2.bare⟩ le (dM (YW (dj,au knd (d1++(k,.ref a)::d2)) (a,.list xs) L)▸X)
 ·exact(WT.mp hp).elim (fun e=>e▸S2.apart (dj,au knd (d1++(k,.ref a)::d2)) (WM ..)) fun h=>S2.apart p (WO _ h)
 ·refine(WT.mp hp).elim (fun e=>e▸?_) fun h=>S2.own p (WO _ h);exact(S.own _ (WM ..)).imp fun o h=>⟨h.1,h.2.imp fun O h=>h.imp fun O h=>h.imp fun O h=>⟨h.1,h.2.1,h.2.2.1,h.2.2.2.1,h.2.2.2.2.1,h.2.2.2.2.2.recast le hv⟩⟩
theorem f1.freezes{K:Type}[DecidableEq K]{knd:d5 d7 w K}{dj:XC}{led:aa}(J5:List (K×XC×List AV)):∀(done:List (K×AV)) (Z:f9),
  f1 B s Z ((dj,au knd (done++J5.map fun e=>(e.1,.ref e.2.1)))::((J5.map fun e=>(e.2.1,i9.list e.2.2))++led)) ->
  ∃Z',f1 B s Z' ((dj,au knd (done++J5.map fun e=>(e.1,.lst e.2.2)))::led)/\f9.le Z Z' /\
   k8 (ah ((dj,au knd (done++J5.map fun e=>(e.1,.ref e.2.1)))::((J5.map fun e=>(e.2.1,i9.list e.2.2))++led))) s Z s Z' (ah ((dj,au knd (done++J5.map fun e=>(e.1,.lst e.2.2)))::led)):=by
 induction J5 with
 |nil=>exact fun done Z S=>⟨Z,S,.refl _,.refl⟩
 |cons e J5 ih =>
  intro done Z S;refine aU (f1.freeze1 (d1:=done) (k:=e.1) (a:=e.2.1) (xs:=e.2.2) S) fun Z1 S1 le X=>?_;refine aU (ih (done++[(e.1,.lst e.2.2)]) Z1 (by rw[Xv];exact S1)) fun Z' S' le' X'=>?_;rw[Xv] at S';exact ed Z' S' (le.trans le') (X.trans X')
theorem T.freezes{K:Type}[DecidableEq K]{knd:d5 d7 w K}{rel:f9->α->β->Prop}{t:Sem β}{dj:XC}{led:aa}{R:α->St->Prop}(es:List (K×XC×List AV))
  (h:T d7 w A B d8 rel t ⟨loc,(dj,au knd (es.map fun e=>(e.1,.lst e.2.2)))::led⟩ R) :
  T d7 w A B d8 rel t ⟨loc,(dj,au knd (es.map fun e=>(e.1,.ref e.2.1)))::((es.map fun e=>(e.2.1,i9.list e.2.2))++led)⟩ R:=fun s Z S Q E hQ=>by
 refine aU (f1.freezes es [] Z S.tof1) fun Z' S' le X=>?_;exact h s Z' (S.after S' X) Q E fun v x s' y0 e9 k u7 V' X'=>hQ v x s' y0 e9 k u7 V' ((X.toF (st:=⟨loc,_⟩)).trans X')
noncomputable def ce(b:List Str)(k:Str):List Nat:=(List.range b.length).filter fun j=>b[j]?==some k
noncomputable def jU(b:List Str)(k:Str):Bool:=decide (200<=b.length)&&decide (b.length / 100+1<(ce b k).length)
noncomputable def bd(b:List Str)(k:Str):List Nat:=if jU b k then [] else ce b k
noncomputable def dp:List (Str×List Nat)->Str->Nat->List (Str×List Nat)
 | [],k,i=>[(k,[i])]
 |(x,js)::r,k,i=>if x=k then (x,js++[i])::r else (x,js)::dp r k i
theorem ug{k:Str}{js:List Nat}{r:List (Str×List Nat)}:dp ((x,js)::r) k i=if x=k then (x,js++[i])::r else (x,js)::dp r k i:=rfl
noncomputable def dZ:List (Str×List Nat)->Nat->List Str->List (Str×List Nat)
 |t,_,[]=>t
 |t,i,x::xs=>dZ (dp t x i) (i+1) xs
noncomputable def fe(t:List (Str×List Nat))(k:Str):Option (List Nat):=(t.find? fun e=>e.1=k).map (·.2)
theorem Ob(k:Str)(i:Nat)(x:Str):∀t,fe (dp t k i) x=if x=k then some ((fe t k).getD []++[i]) else fe t x:=by
 intro t_;induction t_ with
 |nil =>
  show fe [(k,[i])] x=_;unfold fe;by_cases e:x=k
  ·subst e;simp
  ·have : ¬ k=x:=fun h=>e h.symm;simp[e,this]
 |cons e_ r ih =>
  obtain⟨y,js⟩:=e_;rw[ug];by_cases q:y=k
  ·rw[if_pos q];subst q;unfold fe;by_cases e:x=y
   ·subst e;simp
   ·have : ¬ y=x:=fun h=>e h.symm;simp[e,this]
  ·rw[if_neg q];unfold fe at *;by_cases e:y=x
   ·have : ¬ x=k:=fun h=>q (e.trans h);simp[e,this]
   ·rw[List.find?_cons_of_neg (by simpa using e),ih];by_cases z:x=k
    ·rw[if_pos z,if_pos z,List.find?_cons_of_neg (by simpa using q)]
    ·rw[if_neg z,if_neg z,List.find?_cons_of_neg (by simpa using e)]
theorem Ph(b:List Str)(x k:Str):ce (b++[x]) k=if x=k then ce b k++[b.length] else ce b k:=by
 unfold ce;rw[WV,Zj,List.range_succ,List.filter_append];have h1:(List.range b.length).filter (fun j=>(b++[x])[j]?==some k)=(List.range b.length).filter (fun j=>b[j]?==some k):=List.filter_congr fun j hj=>by
  rw[List.getElem?_append_left (List.mem_range.mp hj)]
 rw[h1];by_cases e:x=k
 ·subst e;simp
 ·simp[e]
theorem Pi(k:Str):ce [] k=[]:=rfl
def t5(t:List (Str×List Nat))(b:List Str):Prop:=∀k,fe t k=if ce b k=[] then none else some (ce b k)
theorem t5.nil:t5 [] []:=fun k=>by rw[Pi];rfl
theorem t5.add{t:List (Str×List Nat)}{b:List Str}(h:t5 t b)(x:Str):t5 (dp t x b.length) (b++[x]):=fun k=>by
 rw[Ob,Ph];by_cases e:k=x
 ·subst e;rw[if_pos rfl,if_pos rfl,h k,if_neg (List.append_ne_nil_of_right_ne_nil _ (List.cons_ne_nil _ _))];by_cases q:ce b k=[]
  ·rw[if_pos q,q];rfl
  ·rw[if_neg q];rfl
 ·have : ¬ x=k:=fun q=>e q.symm;rw[if_neg e,if_neg this];exact h k
theorem t5.chain:∀(xs:List Str) {t:List (Str×List Nat)} {b:List Str},t5 t b->t5 (dZ t b.length xs) (b++xs)
 | [],t,b,h=>by rw[Yi];exact h
 |x::xs,t,b,h=>by
  have:=t5.chain xs (h.add x);rw[WV,Xv] at this;exact this
theorem ER(k:Str)(i:Nat):∀t,(dp t k i).length<=t.length+1
 | []=>Xy _
 |(y,js)::r=>by
  rw[ug];split
  ·simp
  ·have:=ER k i r;simp only[WU];omega
theorem EA:∀(xs:List Str) (t:List (Str×List Nat)) (i:Nat),(dZ t i xs).length<=t.length+xs.length
 | [],_,_=>Xy _
 |x::xs,t,i=>by
  have h1:=EA xs (dp t x i) (i+1);have h2:=ER x i t;rw[WU];show (dZ (dp t x i) (i+1) xs).length<=_;omega
noncomputable abbrev ab:=Nat×Nat×Nat
noncomputable def dc(D:Int->Nat)(i:Nat)(s:(Int->Nat)×ab)(j:Nat):(Int->Nat)×ab :=
 (fun x=>if x=(j:Int) then D ((j:Int)-1)+1 else s.1 x,if s.2.2.2<D ((j:Int)-1)+1 then (i-D ((j:Int)-1),j-D ((j:Int)-1),D ((j:Int)-1)+1) else s.2)
noncomputable def within(f2 f6:Nat)(js:List Nat):List Nat:=js.filter fun j=>decide (f2<=j)&&decide (j<f6)
noncomputable def eZ(js:List Nat)(f2 f6 i:Nat)(s:(Int->Nat)×ab):(Int->Nat)×ab:=(within f2 f6 js).foldl (dc s.1 i) (fun O=>0,s.2)
noncomputable def ej(idx:Nat->List Nat)(f2 f6:Nat)(is:List Nat)(s:(Int->Nat)×ab):(Int->Nat)×ab:=is.foldl (fun s i=>eZ (idx i) f2 f6 i s) s
noncomputable def bB(e:Nat->Nat->Bool)(alo f2:Nat):Nat->Nat->Nat->ab
 |i+1,j+1,k=>if decide (alo<i+1)&&(decide (f2<j+1)&&e i j) then bB e alo f2 i j (k+1) else (i+1,j+1,k)
 |i,j,k=>(i,j,k)
noncomputable def cj(e:Nat->Nat->Bool)(g4 f6 i j:Nat):Nat->Nat->Nat
 |0,k=>k
 |f+1,k=>if decide (i+k<g4)&&(decide (j+k<f6)&&e (i+k) (j+k)) then cj e g4 f6 i j f (k+1) else k
noncomputable def bQ(e:Nat->Nat->Bool)(idx:Nat->List Nat)(alo g4 f2 f6:Nat):ab :=
 let s:=(ej idx f2 f6 (Yk alo (g4-alo)) (fun O=>0,(alo,f2,0))).2
 let u:=bB e alo f2 s.1 s.2.1 s.2.2
 (u.1,u.2.1,cj e g4 f6 u.1 u.2.1 (g4-(u.1+u.2.2)) u.2.2)
theorem Io:Slot "dict" JP "dict.setdefault" := by
 rw[show (JP:Str)=WR "setdefault" from by decide +kernel];exact F.slot_dict_setdefault
theorem Ir:Slot "dict" Jy "dict.get" := by
 rw[show (Jy:Str)=WR "get" from by decide +kernel];exact F.slot_dict_get
theorem Iq:Slot "dict" JF "dict.items" := by
 rw[show (JF:Str)=WR "items" from by decide +kernel];exact F.slot_dict_items
theorem mE:Slot "list" JN "list.append" := by
 rw[show (JN:Str)=WR "append" from by decide +kernel];exact F.slot_list_append
theorem Ip:Slot "list" JW "list.pop" := by
 rw[show (JW:Str)=WR "pop" from by decide +kernel];exact F.slot_list_pop
theorem Im:Slot "list" LN "list.sort" := by
 rw[show (LN:Str)=WR "sort" from by decide +kernel];exact F.slot_list_sort
theorem It:Slot "list" Kk "list.extend" := by
 rw[show (Kk:Str)=WR "extend" from by decide +kernel];exact F.slot_list_extend
theorem Upd.skip{o o':i9}{l l':aa}(u:Upd a o o' l l'):∀ {r:aa},Upd a o o' (r++l) (r++l')
 | []=>u
 |_::r => .there (Upd.skip u (r:=r))
theorem qe{K:Type}[DecidableEq K]{knd:d5 d7 w K}{m:List (K×AV)}{led:aa}(hm:(d,au knd m)∈led):ds B (.ref d) led "dict" := fun s Z u V S=>by
 (have e_:=V.inv;subst e_)
 refine ad (S.own _ hm) fun o ho h_=>ef h_ fun es ep kvs hex O O O O O=>?_;exact⟨⟨_,ho,hex.1⟩,fun b e=>by cases e;exact bb _ ho hex.2.1⟩
noncomputable abbrev bq:=List (Str×XC×List AV)
noncomputable def cH(js:List Nat):List AV:=js.map fun(j:Nat)=>AV.int (j:Int)
noncomputable def dY(t:List (Str×List Nat)):List (Str×List AV):=t.map fun e=>(e.1,cH e.2)
noncomputable def cx(es:bq):List (Str×List AV):=es.map fun e=>(e.1,e.2.2)
noncomputable def eb:List (Str×List AV)->Str->AV->List (Str×List AV)
 | [],k,i=>[(k,[i])]
 |(x,js)::r,k,i=>if x=k then (x,js++[i])::r else (x,js)::eb r k i
theorem uh{k:Str}{js:List AV}{i:AV}{r:List (Str×List AV)}:eb ((x,js)::r) k i=if x=k then (x,js++[i])::r else (x,js)::eb r k i:=rfl
theorem Ed(k:Str)(i:Nat):∀t,dY (dp t k i)=eb (dY t) k (.int i)
 | []=>rfl
 |(x,js)::r=>by
  rw[ug];show dY (if x=k then _ else _)=eb ((x,cH js)::dY r) k (.int i);rw[uh];by_cases e:x=k
  ·rw[if_pos e,if_pos e];simp[dY,cH]
  ·rw[if_neg e,if_neg e,← Ed k i r];rfl
theorem ET{k:Str}{js:List AV}:∀ {r6 A2:bq},(∀e∈r6,e.1≠k)->eb (cx (r6++(k,a,js)::A2)) k v=cx (r6++(k,a,js++[v])::A2)
 | [],A2,_=>by
  show eb ((k,js)::cx A2) k v=_;rw[uh];rw[if_pos rfl];rfl
 |e::r6,A2,h=>by
  show eb ((e.1,e.2.2)::cx (r6++(k,a,js)::A2)) k v=_;rw[uh];rw[if_neg (h e (WM ..)),ET fun e' h'=>h e' (WO _ h')];rfl
theorem ES{k:Str}:∀ {es:bq},(∀e∈es,e.1≠k)->eb (cx es) k v=cx (es++[(k,a,[v])])
 | [],_=>rfl
 |e::es,h=>by
  show eb ((e.1,e.2.2)::cx es) k v=_;rw[uh];rw[if_neg (h e (WM ..)),ES fun e' h'=>h e' (WO _ h')];rfl
noncomputable def cO(es:bq):List (Str×AV):=es.map fun e=>(e.1,.ref e.2.1)
noncomputable def eu(es:bq):aa:=es.map fun e=>(e.2.1,i9.list e.2.2)
theorem QO{k:Str}:∀ {es:bq},aI (cO es) k=some v->∃r6 a js A2,es=r6++(k,a,js)::A2/\v=.ref a/\∀e∈r6,e.1≠k:=by
 intro t_;induction t_ with
 |nil =>
  intro h;cases h
 |cons e_ es ih =>
  obtain⟨x,a,js⟩:=e_;intro h;unfold aI cO at h;rw[WY,Za] at h;by_cases e:x=k
  ·simp only[e,decide_true,c7,YC] at h;exact gg [] a js es (by rw[e];rfl) h.symm (fun O h=>by cases h)
  ·simp only[e,decide_false] at h;refine cA (ih (show aI (cO es) k=some v from h)) fun r6 a' js' A2 O5 O6 h'=>?_;subst O5;subst O6;exact⟨(x,a,js)::r6,a',js',A2,rfl,rfl,fun e' he=>by
    rcases WT.mp he with rfl |he
    ·exact e
    ·exact h' e' he⟩
theorem QP{k:Str}{es:bq}(h:aI (cO es) k=none):∀e∈es,e.1≠k:=fun e he q=>by
 unfold aI cO at h;rw[Option.map_eq_none_iff,List.find?_eq_none] at h;exact h (e.1,.ref e.2.1) (Xm he) (by simpa using q)
theorem EQ(k:Str)(i:Nat):∀ {t:List (Str×List Nat)},(∀e∈t,e.2.length<=n)->∀e∈dp t k i,e.2.length<=n+1
 | [],_,e,he=>by
  rw[Xi.mp he];exact Nat.succ_le_succ (Xk _)
 |(x,js)::r,h,e,he=>by
  rw[ug] at he;split at he
  ·rcases WT.mp he with rfl |he
   ·have:=h (x,js) (WM ..);simp only[WV,Zj] at this ⊢;omega
   ·exact Nat.le_succ_of_le (h e (WO _ he))
  ·rcases WT.mp he with rfl |he
   ·exact Nat.le_succ_of_le (h (x,js) (WM ..))
   ·exact EQ k i (fun e' h'=>h e' (WO _ h')) e he
theorem Ez:∀(xs:List Str) (t:List (Str×List Nat)) (i n:Nat),(∀e∈t,e.2.length<=n)->∀e∈dZ t i xs,e.2.length<=n+xs.length
 | [],_,_,_,h,e,he=>h e he
 |x::xs,t,i,n,h,e,he=>by
  have:=Ez xs (dp t x i) (i+1) (n+1) (EQ x i h) e he;rw[WU];omega
theorem Ey(y:Str):∀(xs:List Str) (t:List (Str×List Nat)) (i:Nat),dZ t i (xs++[y])=dp (dZ t i xs) y (i+xs.length)
 | [],_,_=>rfl
 |x::xs,t,i=>(Ey y xs (dp t x i) (i+1)).trans (congrArg (dp _ y) (by rw[WU,Nat.add_assoc,Nat.add_comm 1]))
noncomputable def bf(es:bq):List (Str×AV):=es.map fun e=>(e.1,.lst e.2.2)
theorem DP{es:bq}{t:List (Str×List Nat)}(h:cx es=dY t)(k:Str):aI (bf es) k=(fe t k).map fun js => .lst (cH js):=by
 have e:bf es=(dY t).map fun e=>(e.1,AV.lst e.2):=by rw[← h];simp[bf,cx]
 rw[e];clear h e;induction t with
 |nil=>rfl
 |cons p r ih =>
  obtain⟨x,js⟩:=p;unfold aI fe dY at *;rw[WY,WY,Za,Za];by_cases q:x=k
  ·simp[q]
  ·simp only[q,decide_false];exact ih
theorem QS{es:bq}{b:List Str}(h:cx es=dY (dZ [] 0 b))(hb:b.length<200)(k:Str):(aI (bf es) k).getD (.lst [])=.lst (cH (bd b k)):=by
 have hT:t5 (dZ [] 0 b) b:=by simpa using t5.chain b t5.nil
 have hp:jU b k=false:=by unfold jU;simp[Nat.not_le.mpr hb]
 rw[DP h,hT k];unfold bd;rw[hp];by_cases q:ce b k=[]
 ·rw[if_pos q,q];rfl
 ·rw[if_neg q];rfl
def FT(d7:Xh)(w:Xo)(A:Xg)(B:f9)(d8:Env)(elts:List Expr)(vs:List AV)(st:St)(K:Unit->St->Prop):Prop:=FA d7 w A B d8 (elts.map fun e=>YE e d8) vs st K
theorem Vd{K:Unit->St->Prop}(h:K () st):FT d7 w A B d8 [] [] st K:=zu h
theorem Ve{t:Expr}{ts:List Expr}{vs:List AV}{K:Unit->St->Prop}(h:F1 d7 w A B d8 aJ (YE t d8) v st fun O e9=>FT d7 w A B d8 ts vs e9 K):FT d7 w A B d8 (t::ts) (v::vs) st K:=FJ h
theorem dv{x1:Nat}{vs:List AV}{K:Unit->St->Prop}(hh:A.handled=none)(he:(YN elts d8).map (·.2)=elts.map fun e=>YE e d8)(hn:elts.length=vs.length)(A4:(YN elts d8).findIdx? (·.1)=none)
  (h:FT d7 w A B d8 elts vs st K):F1 d7 w A B d8 aJ (YE (.Tuple elts x1 pos) d8) (.tup vs) st K :=
 Wz hh (by rw[← hn,← WP (f:=(·.2)) (as:=YN elts d8),he,WP]) A4 (by exact(Eq.symm (he))▸h)
section
variable{led led':aa}
theorem za{K:Type}[DecidableEq K]{knd:d5 d7 w K}(h:∀d,d∉keys led->B d=none->R (.ref d) ⟨loc,(d,au knd [])::led⟩):T d7 w A B d8 Val (Yw (.Dict [] [] pos) d8) ⟨loc,led⟩ R:=fun s Z S Q E hQ=>by
 have P:=S.tof1.push (o:={ cls:=.type "dict",data:=.dict #[]}) (ao:=au knd []) rfl s.toks (lW (Heap.DictOf.new s.heap) .nil);have hB:B s.heap.objs.size=none:=by
  cases e:B s.heap.objs.size with
  |none=>rfl
  |some o=>have:=S.base _ _ e;rw[S.tof1.zfresh] at this;cases this
 have hq:=hQ _ _ _ _ _ (h _ S.tof1.lfresh hB) (S.after P.1 P.2) (.ref _) P.2.toF;rw[eval_Dict_empty];exact WL (XB (WL (wpAny_alloc (WN hq))))
theorem ec(hs:spliced (Zy pos (XV [] d8))=spliced [])(h:∀a,a∉keys led->R (.ref a) ⟨loc,(a,.list [])::led⟩):T d7 w A B d8 Val (Yw (.List [] pos) d8) ⟨loc,led⟩ R :=
 gL (pC ⟨by decide,h⟩)
theorem fz(U:Upd a (.list xs) (.list (xs++[v])) led led')(hsz:xs.length<=XK)(h:K .none ⟨loc,led'⟩) :
  FC d7 w A B d8 (.blt "list.append") [.ref a,v] [] ⟨loc,led⟩ K:=zt hsz U h
theorem Vl(h:∀a,a∉keys led->R (.ref a) ⟨loc,(a,bV)::led⟩):FC d7 w A B d8 (.typ "set") [] [] ⟨loc,led⟩ R:=Vm h
theorem Vi{K:Type}[DecidableEq K]{knd:d5 d7 w K}{m:List (K×AV)}{u:AV}{k:K}(U:Upd d (au knd m) (au knd (m++[(k,u)])) led led')(y7:(d==Ze)=false)(hk:∀Z x,Val Z v x->knd.is k x=true)(hsz:m.length<=XK)
  (h1:∀x,aI m k=some x->R x ⟨loc,led⟩) (h2:aI m k=none->R u ⟨loc,led'⟩) :
  FC d7 w A B d8 (.blt "dict.setdefault") [.ref d,v,u] [] ⟨loc,led⟩ R:=Vj y7 hk hsz U h1 h2
end
theorem ee{K:Frag}{m m':List (Str×AV)}{led led':aa}{R:Unit->St->Prop}(ok:G9 K C)(ht:takerIn K C name=some none)
  (U:Upd d (aX m) (aX m') led led') (hm:cg m name v=m') (hsz:m'.length<=1000) (h:R () ⟨loc,led'⟩):F2 d7 w A (am K) d8 aJ (fun x y=>setAttr x name y) (.inst C d) v ⟨loc,led⟩ R:=FS ok ht hm hsz U h
section
variable{led led':aa}
def E8(l l':aa):Prop:=∃r,l.Perm (r++l')
theorem E8.refl(l:aa):E8 l l:=⟨[],.refl _⟩
theorem E8.drop{p:XC×i9}{l:aa}:E8 (p::l) l:=⟨[p],.refl _⟩
theorem E8.perm{l l':aa}(h:l.Perm l'):E8 l l':=⟨[],h⟩
theorem g8.weak{l l':aa}(S:g8 B d8 s Z ⟨loc,l⟩)(h:E8 l l'):g8 B d8 s Z ⟨loc,l'⟩:=by
 obtain⟨r,p⟩:=h;exact(S.perm p).drop
theorem k8.weakF{o:L7}{s':WS}{Z':f9}{l l':aa}(X:k8 o s Z s' Z' (aw d8 ⟨loc,l⟩))(h:E8 l l'):k8 o s Z s' Z' (aw d8 ⟨loc,l'⟩):=by
 obtain⟨r,p⟩:=h;rw[en (d8:=d8) (loc:=loc) (g9:=loc) p] at X;exact k8.dropF X
theorem FC.weak{f:AV}{K0:AV->St->Prop}(h:FC d7 w A B d8 f args kw st K0)(hw:∀v g9 l,K0 v ⟨g9,l⟩->∃l',E8 l l'/\K v ⟨g9,l'⟩):FC d7 w A B d8 f args kw st K :=
 fun s Z fx xs ks hf hx hk S Q E hQ=>h s Z fx xs ks hf hx hk S Q E fun v x s' Z' e9 k S' V X=>by
  obtain⟨l',hl,k'⟩:=hw v e9.loc e9.led k;exact hQ v x s' Z' _ k' (g8.weak (loc:=e9.loc) (l:=e9.led) S' hl) V (k8.weakF (loc:=e9.loc) (l:=e9.led) X hl)
theorem T.weakPost{rel:f9->α->β->Prop}{t:Sem β}{K K0:α->St->Prop}(h:T d7 w A B d8 rel t st K0)(hw:∀v g9 l,K0 v ⟨g9,l⟩->∃l',E8 l l'/\K v ⟨g9,l'⟩):T d7 w A B d8 rel t st K :=
 fun s Z S Q E hQ=>h s Z S Q E fun v x s' Z' e9 k S' V X=>by
  obtain⟨l',hl,k'⟩:=hw v e9.loc e9.led k;exact hQ v x s' Z' _ k' (g8.weak (loc:=e9.loc) (l:=e9.led) S' hl) V (k8.weakF (loc:=e9.loc) (l:=e9.led) X hl)
theorem Vh{dj:XC}{es:bq}{rest:aa}(y7:(dj==Ze)=false)(hsz:es.length<=XK)
  (h:∀r6 a' js A2,(∀v,eb (cx es) y v=cx (r6++(y,a',js++[v])::A2))->R (.ref a') ⟨loc,(dj,au (XA d7 w) (cO (r6++(y,a',js)::A2)))::(eu r6++(a',.list js)::(eu A2++rest))⟩) :
  FC d7 w A B d8 (.blt "dict.setdefault") [.ref dj,.str y,.ref a] [] ⟨loc,(a,.list [])::(dj,au (XA d7 w) (cO es))::(eu es++rest)⟩ R:=by
 refine(Vi (knd:=XA d7 w) (k:=y) (m:=cO es) (led':=(a,.list [])::(dj,au (XA d7 w) (cO es++[(y,.ref a)]))::(eu es++rest)) (R:=fun v e9=>∃l',E8 e9.led l'/\R v ⟨e9.loc,l'⟩) (.there .here) y7 (tw y) (by unfold cO;rw[WP];exact hsz) (fun v hv=>?_) fun hv=>?_).weak fun v g9 l k=>k
 ·obtain⟨r6,a',js,A2,rfl,rfl,t0⟩:=QO hv;refine⟨_,.drop,?_⟩
  have:=h r6 a' js A2 fun v=>ET t0;simpa[eu] using this
 ·have t0:=QP hv;refine⟨(dj,au (XA d7 w) (cO (es++[(y,a,[])])))::(eu es++(a,.list [])::(eu []++rest)),.perm ?_,h es a [] [] fun v=>ES t0⟩;have e:cO (es++[(y,a,[])])=cO es++[(y,.ref a)]:=by simp[cO]
  rw[e];refine(YW ..).trans (.cons _ ?_);show List.Perm ((a,i9.list [])::(eu es++rest)) (eu es++(a,i9.list [])::rest);exact YL.symm
end
theorem f1.weak{l l':aa}(S:f1 B s Z l)(h:E8 l l'):f1 B s Z l':=by
 obtain⟨r,p⟩:=h;exact(S.perm p).drop
theorem k8.weakL{o:L7}{s':WS}{Z':f9}{l l':aa}(X:k8 o s Z s' Z' (ah l))(h:E8 l l'):k8 o s Z s' Z' (ah l'):=by
 obtain⟨r,p⟩:=h;rw[dM p] at X;refine X.less (fun a h=>?_) fun a h=>?_
 ·show a∈keys (r++l');rw[keys,Xr];exact Xx _ h
 ·show a∈gkeys (r++l');unfold gkeys;rw[ZC];exact Xx _ h
theorem TC.weak{f:AV}{led:aa}{K:AV->aa->Prop}(h:TC d7 w A B f args kw led fun v l=>∃l',E8 l l'/\K v l'):TC d7 w A B f args kw led K :=
 fun s Z fx xs ks S hf hx hk R hR=>h s Z fx xs ks S hf hx hk R fun v x s' Z' led' k S' V X=>by
  obtain⟨l',hl,k'⟩:=k;exact hR v x s' Z' l' k' (S'.weak hl) V (X.weakL hl)
theorem TC.mono{f:AV}{led:aa}{K K':AV->aa->Prop}(h:TC d7 w A B f args kw led K)(hk:∀v l,K v l->K' v l):TC d7 w A B f args kw led K' :=
 fun s Z fx xs ks S hf hx H5 R hR=>h s Z fx xs ks S hf hx H5 R fun v x s' Z' led' k S' V X=>hR v x s' Z' led' (hk _ _ k) S' V X
theorem fy{f:AV}{led:aa}{K0:AV->aa->Prop}(h:TC d7 w A B f args kw led K0)(hk:∀v led',K0 v led'->K v ⟨loc,led'⟩):FC d7 w A B d8 f args kw ⟨loc,led⟩ K :=
 zl (h.mono hk)
theorem OF{K:Frag}{f:XC}{k:Keeper}(e:XW K ⟨d7,w.params⟩ (keeperOf (.ref f))=some k):dE d7 w (am K) (.ref f):=fun A s Z fx V le fr Q E hQ=>by
 (have e_:=V.inv;subst e_)
 exact ZO (M:=Xn d7 w) (cP le fr) e A Q E s (fun b o e=>e) (hQ k)
theorem bK{K:Frag}{f:XC}(e:(XW K ⟨d7,w.params⟩ (keeperOf (.ref f))).isSome=true):dE d7 w (am K) (.ref f):=by
 obtain⟨k,e⟩:=Option.isSome_iff_exists.mp e;exact OF e
theorem VM{K:Type}[DecidableEq K]{knd:d5 d7 w K}{m:List (K×AV)}{u:AV}{k:K}{led led':aa}{R:Unit->St->Prop}(U:Upd d (au knd m) (au knd (ei m k u)) led led')
  (hk:∀Z x,Val Z v x->knd.is k x=true) (hsz:m.length<=XK) (h:R () ⟨loc,led'⟩):F3 d7 w A B d8 setItem (.ref d) v u ⟨loc,led⟩ R:=VN hk hsz rfl U h
theorem TC.perm{f:AV}{l l':aa}{K:AV->aa->Prop}(p:l.Perm l')(h:TC d7 w A B f args kw l' K):TC d7 w A B f args kw l K :=
 fun s Z fx xs ks S hf hx hk R hR=>h s Z fx xs ks (S.perm p) hf hx hk R fun v x s' Z' led' k S' V X=>hR v x s' Z' led' k S' V (by exact(Eq.symm (dM p))▸X)
theorem Vn{f:AV}{led o8:aa}{K0:AV->Prop}(p:led.Perm o8)(h:TC d7 w A B f args kw o8 fun v l=>K0 v/\l=o8)(hk:∀v,K0 v->K v ⟨loc,led⟩):FC d7 w A B d8 f args kw ⟨loc,led⟩ K :=
 FC.weak (K0:=fun v e9=>K0 v/\e9=⟨loc,o8⟩) (zl ((TC.perm p h).mono fun v l h'=>⟨h'.1,by rw[h'.2]⟩)) fun v g9 l h'=>by
  obtain⟨h1,h2⟩:=h';cases h2
  exact⟨led,.perm p.symm,hk v h1⟩
theorem TY{t u r value:Expr}{R:g6->St->Prop}(hs:swapsWithSole [t,u,r] value pos.line d8=YV false)(hw:swappedStores [t,u,r] value d8=YV none)(he:YN [t,u,r] d8=[(false,YE t d8),(false,YE u d8),(false,YE r d8)])
  (h:T d7 w A B d8 Val (Yw value d8) st fun v j9=>F1 d7 w A B d8 aJ (YE t d8) v j9 fun O m5=>F1 d7 w A B d8 aJ (YE u d8) v m5 fun O u6=>F1 d7 w A B d8 aJ (YE r d8) v u6 fun O y9=>R .next y9):T d7 w A B d8 j5 (exec (.Assign [t,u,r] value pos) d8) st R :=
 yV hs hw (by
  exact(Eq.symm (he))▸h.mono fun v e9 k=>zz (fun s Z x V S Q E hQ=>k s Z x V S Q E fun v' x' s' Z' e9 k'=>hQ v' x' s' Z' e9 (zz k')))
section
variable{K:Frag}
theorem cr{t:Sem α}{a:α}{Q:α->WS->Prop}(X:K.In s.heap)(e:XW K ⟨d7,w.params⟩ t=some a)(h:Q a s):Xq (Xn d7 w) A t Q E s :=
 ZO (M:=Xn d7 w) X e A Q E s (fun b o e=>e) h
structure W0 (d7:Xh) (w:Xo) (K:Frag) (C:XC):Prop where
 isT:XW K ⟨d7,w.params⟩ (isType (.ref C))=some true
 sub:XW K ⟨d7,w.params⟩ (ZR (.ref C) (.type "tuple"))=some true
 here:XW K ⟨d7,w.params⟩ (Bind.madeHere "tuple.__new__" (.ref C))=some ()
 ini:XW K ⟨d7,w.params⟩ (Yx (.ref C) "__init__")=some (some (.builtin "object.__init__"))
 del:XW K ⟨d7,w.params⟩ (classHasDel C)=some false
theorem IZ{t:XC}{items:Array Value}{P:PySem.Fin->WS->Prop}(ok:W0 d7 w K C)(X:K.In s.heap)(ho:s.heap.get? t=some o)(hc:o.cls=.type "tuple")(hd:o.data=.seq items n)(hsz:items.size<=XK)
  (h:∀h':Heap,(∀b o',s.heap.get? b=some o'->h'.get? b=some o')->P (.done (.ret (.ref (h'.objs.size+1)))) {s with heap:=(h'.push {cls:=.type "dict",data:=.dict #[]}).push {cls:=.ref C,dict:=some h'.objs.size,data:=.seq items} }) :
  Xq (Xn d7 w) A (Builtin.«tuple.__new__» ⟨[.ref C,.ref t],[]⟩) P E s:=by
 unfold Builtin.«tuple.__new__»;refine WL (cr X ok.isT ?_);refine Yj rfl ?_;refine WL (cr X ok.sub ?_);refine Yj rfl ?_;refine WL (cr X ok.here ?_);refine WL (cr X ok.ini ?_);refine KFB.if_so (by decide +kernel) ?_;refine WL (Yd (a:=()) rfl ?_);refine WL (Yd (a:=()) @_ ?_);refine Yj rfl ?_;refine WL (wpAny_collect_seq t (.inr rfl) ho hc hd (fun h' hk=>?_) hsz);refine WL (WN ?_);refine WL (wpAny_alloc ?_);refine WL ?_;unfold newObj;dsimp only;refine aY (by simpa using Nat.not_lt.mpr hsz) ?_;unfold newObjAsIs;refine WL (wpAny_alloc ?_);dsimp only;have X':K.In ((h'.push {cls:=.type "dict",data:=.dict #[]}).push {cls:=.ref C,dict:=some h'.objs.size,data:=.seq items}):=fun a o e=>WX _ (WX _ (hk a o (X a o e)));have e1:(h'.push {cls:=.type "dict",data:=.dict #[]}).objs.size=h'.objs.size+1:=ZV ..;have fin:=h h' hk;rw[← e1] at fin;refine WL (cr (K:=K) (by simpa using X') ok.del ?_);refine Yj rfl ?_;refine WN ?_;refine WN ?_;simpa using fin
end
section
variable{K:Frag}
theorem PX{T' id:String}{pl:Sem Bool}{Q:Value×List Value->WS->Prop}(X:K.In s.heap)(m8:Manifest.isStub T'=false)(S9:typeOf (.type T')=YV (.type "type"))
  (hg:findIn K (.type "type") "__getattribute__" = some (some (.builtin "type.__getattribute__"))) (z4:subIn K (.type "type") (.type "type")=some true)
  (e:findCls K (.type T') (.type "type") name=some (.val (.builtin id))) (hh:handedOut (.builtin id)=YV (.builtin id)) (h:Q (.builtin id,[]) {s with toks:=s.toks+1}):Xq (Xn d7 w) A (getMethod (.type T') name pl) Q E s:=by
 have Η:opaqueClassAbove (.type T')=YV none:=by unfold opaqueClassAbove;dsimp only;rw[m8];rfl
 have L0:Looks (Xn d7 w) s.heap (typeOf (.type T')) (.type "type"):=Looks.of_pure S9;unfold getMethod specialOf;refine WL (WL (L0.here ((looks_findIn X hg).here ?_)));dsimp only;rw[if_pos canon_tga];refine WL (XU (Q:=fun v=>Q (v,[])) (E:=E) ?_ (fun O O z=>WN z) fun O O z=>z);have LO:Looks (Xn d7 w) s.heap (opaqueClassAbove (.type T')) none:=Looks.of_pure Η;refine cls_open X LO L0 hg (looks_hook X (r:=none) (by rfl)) z4 e ?_;refine WN ?_;show Xq _ _ (handedOut (.builtin id)) _ _ _;rw[hh];exact WN h
theorem Fe{o:Expr}{C3:Pos}{args:List Expr}{T' id:String}
  (B1:attributeBase o name d8 (Yw o d8)=Yw o d8)
  (M8:((Zy pos (XV args d8)).all (fun x => !x.1)&&(backToKw pos (keywordEach [] d8)).all (fun x=>x.1.isSome)
   && decide (args.length+([]:List Keyword).length+(if ([]:List Keyword).isEmpty then 0 else 1)<30))=true)
  (A6:(C3.endLine==pos.line)=true) (m8:Manifest.isStub T'=false) (S9:typeOf (.type T')=YV (.type "type"))
  (hg:findIn K (.type "type") "__getattribute__" = some (some (.builtin "type.__getattribute__"))) (z4:subIn K (.type "type") (.type "type")=some true)
  (e:findCls K (.type T') (.type "type") name=some (.val (.builtin id))) (hh:handedOut (.builtin id)=YV (.builtin id))
  (h:T d7 w A (am K) d8 Val (Yw o d8) st fun v j9=>v=.typ T'/\CA d7 w A (am K) d8 pos (.blt id) [] args j9 R) :
  T d7 w A (am K) d8 Val (Yw (.Call (.Attribute o name C3) args [] pos) d8) st R:=fun s Z S Q E hQ=>by
 rw[arm_eval_Call,B1];refine WL (h s Z S _ _ fun v x s₁ Z1 j9 k₁ S1 V1 X1=>WL (XB ?_));obtain⟨rfl,hc⟩:=k₁
 (have e_:=V1.inv;subst e_)
 have T9:methodCallForm (args.length+([]:List Keyword).length) (Zy pos (XV args d8)) (backToKw pos (keywordEach [] d8))=true:=M8;have G':methodCallPos true o d8 C3 pos=YV pos:=by unfold methodCallPos;simp[A6]
 unfold methodCall;rw[T9];refine WL (Xc (PX (K:=K) (cP S1.base S1.frozen) m8 S9 hg z4 e hh ?_));refine WL (Yd G' ?_);exact hc _ Z1 (.builtin id) [] (.blt id) .nil (S1.toks _) _ _ fun v y s' Z' e9 k S' V X=>hQ v y s' Z' e9 k S' V ((X1.trans (.toks _)).trans X)
theorem Fw(ok:W0 d7 w K C)(hsz:xs.length<=XK)(T_:∀x,XW K ⟨d7,w.params⟩ (checkBuiltinCall "tuple.__new__" ⟨[.ref C,x],[]⟩)=some ())(h:R (.mat C xs) st) :
  FC d7 w A (am K) d8 (.blt "tuple.__new__") [.ref C,.tup xs] [] st R:=FC.b fun s Z S Q E hQ=>Vals.un <| Val.eRef <| Vals.un <| fun O h2=>Vals.un0 <| by
 refine bC (lP h2) fun a items n qv e hv=>?_;subst qv;refine Zu (Zc (b:=Builtin.«tuple.__new__») (by decide +kernel) (Zo @_) (cr (cP S.base S.frozen) (T_ _) ?_));refine IZ (items:=items.toArray) ok (cP S.base S.frozen) (S.frozen _ _ e) rfl rfl (by simpa[hv.length] using hsz) fun h' hk=>?_;have P0:=S.keepAll (h':=h') (tk:=s.toks) hk;have P1:=P0.1.tof1.push0 (o:={ cls:=.type "dict",data:=.dict #[]}) s.toks;have P2:=P1.1.pushZ (o:={ cls:=.ref C,dict:=some h'.objs.size,data:=.seq items.toArray}) rfl s.toks;have X:=P1.2.trans P2.2;have hs:(h'.push {cls:=.type "dict",data:=.dict #[]}).objs.size=h'.objs.size+1:=ZV ..;refine hQ _ _ _ _ _ h (P0.1.after P2.1 X) ?_ (P0.2.trans X.toF);exact(hs)▸.mat (f9.add_at ..) (hv.mono X.le)
end
structure Q1 (d7:Xh) (w:Xo) (K:Frag) (C fN:XC):Prop where
 obj:∃o cd,K.lookup C=some o/\o.data=.cls cd
 call:XW K ⟨d7,w.params⟩ (specialOf (.ref C) "__call__")=some (some (.builtin "type.__call__"))
 typ:XW K ⟨d7,w.params⟩ (isInstance (.ref C) (.type "type"))=some true
 mro:∃l,XW K ⟨d7,w.params⟩ (mroOf (.ref C))=some l/\l.isEmpty=false
 made:XW K ⟨d7,w.params⟩ (Bind.madeBy (.ref C))=some none
 reads:readsIn K C (.type "type")=true
 new:∃p rest,findCls K (.ref C) (.type "type") "__new__" = some (.get (.builtin "staticmethod.__get__") (.ref p) .none (.ref C))/\recIn K p "staticmethod" = some (.ref fN::rest)
 sub:XW K ⟨d7,w.params⟩ (ZR (.ref C) (.ref C))=some true
 subo:XW K ⟨d7,w.params⟩ (ZR (.ref C) (.type "object"))=some true
 ini:XW K ⟨d7,w.params⟩ (Yx (.ref C) "__init__")=some (some (.builtin "object.__init__"))
section
variable{K:Frag}
theorem SZ(a b c d:Value):c6 "object.__init__" ⟨[a,b,c,d],[]⟩:=by unfold c6;kernel_rfl
theorem Uq{fN:XC}{x y z:AV}{led:aa}{R:AV->aa->Prop}(hA:g7 A (k+1))(ok:Q1 d7 w K C fN)
  (h:∀A',g7 A' k->TC d7 w A' (am K) (.ref fN) [.ref C,x,y,z] [] led fun v led'=>v=.mat C xs/\R (.mat C xs) led') :
  TC d7 w A (am K) (.ref C) [x,y,z] [] led R:=fun s Z fx vs ks S M7 hx H5 Q hQ=>by
 have e:=M7.inv;subst e;refine j4.un0 (P:=fun ks=>codeAny (Xn d7 w) A (.call (.ref C) ⟨vs,ks⟩) Q s) ?_ ks H5;refine Vals.un3 (P:=fun vs=>Vals Z [x,y,z] vs->codeAny (Xn d7 w) A (.call (.ref C) ⟨vs,[]⟩) Q s) (fun x1 O x2 O x3 O hx0=>?_) vs hx hx;have X:=cP S.base S.frozen;refine bt ok.obj fun o cd ho hd=>?_;refine codeAny_of_tree ?_;show Xq _ _ (callAny (.ref C) _) _ _ _;unfold callAny;refine WL (wpAny_load (X _ _ ho) ?_);rw[hd];show Xq _ _ (callAny.viaDunder (.ref C) _) _ _ _;unfold callAny.viaDunder;refine WL (cr X ok.call ?_);dsimp only;rw[tc_bind];refine WL (WN (WL (WN ?_)));refine WN (a:=Fin.again (.call (.builtin "type.__call__") ⟨.ref C::[x1,x2,x3],[]⟩)) (And.intro rfl ?_);refine codeAny_call_builtin_at (Code.quiet_builtin _ (by decide +kernel)) entry_typeCall (check_slot tc_kind tc_split (ZO X ok.typ) (tc_args _ _ _) ?_);unfold Builtin.«type.__call__»;refine Yj rfl ?_;refine ad ok.mro fun l M' b_=>?_;refine WL (cr X M' ?_);refine Yj b_ ?_;refine WL (cr X ok.made ?_);dsimp only;refine bt ok.new fun p rest hn1 s_=>?_;refine WL (cls_bind X ok.reads hn1 (Zu (sm_get (s:={ s with toks:=s.toks+1}) X s_ (handed_on rfl ?_))));refine WL (Xc (Zu ?_));have S1:f1 (am K) {s with toks:=s.toks+1} Z led:=⟨S.base,S.frozen,S.nodup,S.apart,fun p hp=>(S.own p hp).mono (.refl _) (fun O e=>e) fun O O O e=>e,S.gnodup,S.bare⟩;refine h (A.under (.builtin "type.__call__" ⟨.ref C::[x1,x2,x3],[]⟩)) ⟨hA.h,?_,?_⟩ _ Z (.ref fN) _ [] S1 (.ref fN) (.cons (.ref C) hx0) .nil _ fun v x' s' Z' led' k S' V X'=>?_
 ·have e:(Code.builtin "type.__call__" ⟨.ref C::[x1,x2,x3],[]⟩).weight=1:=@_
  have:=hA.d;show A.depth+(Code.builtin "type.__call__" ⟨.ref C::[x1,x2,x3],[]⟩).weight+k<=_;rw[e];omega
 ·have e:(Code.builtin "type.__call__" ⟨.ref C::[x1,x2,x3],[]⟩).cUnits=1:=@_
  have:=hA.u;show A.units+(Code.builtin "type.__call__" ⟨.ref C::[x1,x2,x3],[]⟩).cUnits+k<=_;rw[e];omega
 ·refine av k ?_;clear k;intro O1 k;subst O1;have V0:=V;refine cA (tC V) fun a d items n qv e hv=>?_;subst qv;have X2:=cP S'.base S'.frozen;have ha:=S'.frozen _ _ e;have tl:Looks (Xn d7 w) s'.heap (typeOf (.ref a)) (.ref C):=(Looks.ld ha).andThen .now;refine WL (WL (tl.here (cr X2 ok.sub ?_)));refine Yj rfl ?_;refine WL (Xc ?_);unfold callSpecial? specialOf;refine WL (WL (tl.here (cr X2 ok.ini ?_)));dsimp only;refine Xc ?_;refine WL (Yd (F.slot_object_init.bind _) ?_);refine WL (Zu (Zc F.slot_object_init.plain F.entry_object_init (check_slot (i := "object.__init__") (owner := "object") (n := "__init__") (by decide +kernel) (by decide +kernel) (tl.andThen (ZO X2 ok.subo)) (SZ _ _ _ _) ?_)));unfold Builtin.«object.__init__»;refine KFB.if_so rfl ?_;refine WL (tl.here ?_);refine WL (cr X2 ok.ini ?_);dsimp only;refine WL (cr X2 ok.made ?_);refine Yj (by decide +kernel) ?_;refine Yj (by decide +kernel) ?_;refine WN ?_;refine WN ?_;dsimp only;refine Yj rfl ?_;refine WN ?_;have X3:k8 (ah led) s Z s' Z' (ah led'):=⟨X'.le,X'.kept,X'.grow,X'.zgrow,X'.os,X'.gkept,X'.ggrow⟩;exact hQ _ _ s' Z' led' k S' V0 X3
end
structure Q0 (d7:Xh) (w:Xo) (K:Frag) (C:XC):Prop where
 it:XW K ⟨d7,w.params⟩ (Yx (.ref C) "__iter__")=some (some (.builtin "tuple.__iter__"))
 sub:XW K ⟨d7,w.params⟩ (ZR (.ref C) (.type "tuple"))=some true
section
variable{K:Frag}
theorem Hu{t:XC}{ot:Obj}{items:Array Value}{x:Value}{Q:Option Value->WS->Prop}(hit:s.heap.IsTupleIter it t i)
  (ζ:s.heap.get? t=some ot) (Ç:ot.data=.seq items n) (hx:items[i]?=some x)
  (hQ:∀h',h'.IsTupleIter it t (i+1)->Xz it s.heap h'->Q (some x) {s with heap:=h' }) :
  Xq (Xn d7 w) A (Zl (.ref it)) Q E s:=by
 refine aU (id hit) fun o ho hc hd=>?_;unfold Zl;refine WL (Zp (XY (name:=WR "__next__") hit.typeIs Zd
  (XO Zd hit.typeIs F.entry_tuple_iterator_next ?_ (F.args_tuple_iterator_next_1 _))))
 show Xq _ _ (field (.ref it) 0>>=_) _ _ s;refine WL (ZE ho hd (x:=.ref t) rfl ?_);refine Yj rfl ?_;refine WL (ZE ho hd (x:=.int i 0) rfl ?_);refine WL (YS ζ Ç ?_);simp only[XJ,hx];refine WL (wpAny_setField ho hd (by simp) (WN ⟨x,rfl,WN (hQ _ ?_ (XE ..))⟩));exact⟨_,XH _ ho (Zz (ZZ hd _)),(Obj.cls_mapFields ..).trans hc,by
  rw[ZZ hd];simp[Yu]⟩
theorem Hv{t:XC}{ot:Obj}{items:Array Value}{Q:Option Value->WS->Prop}(hh:A.handled=none)(hit:s.heap.IsTupleIter it t i)
  (ζ:s.heap.get? t=some ot) (Ç:ot.data=.seq items n) (hx:items[i]?=none)
  (hQ:∀h',Heap.ExtBut it s.heap h'->Q none {s with heap:=h' }):Xq (Xn d7 w) A (Zl (.ref it)) Q E s:=by
 refine aU (id hit) fun o ho hc hd=>?_;unfold Zl;refine WL (Zp (XY (name:=WR "__next__") hit.typeIs Zd
  (XO Zd hit.typeIs F.entry_tuple_iterator_next ?_ (F.args_tuple_iterator_next_1 _))))
 show Xq _ _ (field (.ref it) 0>>=_) _ _ s;refine WL (ZE ho hd (x:=.ref t) rfl ?_);refine Yj rfl ?_;refine WL (ZE ho hd (x:=.int i 0) rfl ?_);refine WL (YS ζ Ç ?_);simp only[XJ,hx];refine WL (YA (WL (wpAny_setField ho hd (by simp) ?_)));show Xq _ _ (newExc (.type "StopIteration") []>>=_) _ _ _;refine WL ?_;dsimp only[newExc,newTuple];refine WL (XZ ?_ (by size_fits));refine WL (m:=Zq _ _) (Yd (a:=Yp) (by first |rfl |(dsimp only[Zq];rfl)) ?_);refine XZ ?_ (by size_fits);dsimp only[raiseNew];refine WL (wpAny_handled ?_);rw[show A.in1.handled=none from hh];refine WL (WN (wpAny_throw ?_));refine WL (YJ (T := "StopIteration") (b:=true) ⟨_,WW _ rfl,rfl⟩ isSubtype_stop ?_);exact WN (hQ _ (((XE ..).extBut.push _).push _))
theorem Hw{t:XC}{ot:Obj}{items:Array Value}{m:Nat}(t0:t≠it)(Ç:ot.data=.seq items m):∀(n i:Nat) (s:WS) (Q:List Value->WS->Prop),s.heap.IsTupleIter it t i->s.heap.get? t=some ot->i+n<=items.size ->
  (∀h',h'.IsTupleIter it t (i+n)->Xz it s.heap h'->Q ((items.toList.drop i).take n) {s with heap:=h' })->Xq (Xn d7 w) A (draw (.ref it) n) Q E s:=by
 intro t_;induction t_ with
 |zero =>
  intro i s Q hit _ _ hQ;exact WN (by simpa using hQ s.heap hit (Heap.SameBut.refl ..))
 |succ n ih =>
  intro i s Q hit ζ hle hQ;have l8:i<items.size:=by omega
  show Xq _ _ (Zl (.ref it)>>=_) Q E s;refine WL (Hu hit ζ Ç (x:=items[i]) (by simp[l8]) fun h1 M5 J8=>?_);refine WL (Xc (ih (i+1) _ _ M5 ((J8.2 t t0).trans ζ) ⋯ fun h2 O' r_=>WN ?_));have hd:items.toList.drop i=items[i]::items.toList.drop (i+1):=by simp[YH,l8]
  have:=hQ h2 (by rw[show i+(n+1)=i+1+n by omega];exact O') (J8.trans r_);rw[hd,List.take_succ_cons] at this;exact this
theorem NH{items:Array Value}(ok:Q0 d7 w K C)(X:K.In s.heap)(ha:s.heap.get? a=some {cls:=.ref C,dict:=some d,data:=.seq items n})
  (hQ:Q (.ref s.heap.objs.size) {s with heap:=s.heap.push {cls:=.type "tuple_iterator",data:=.fields #[.ref a,.int 0 0]} }) :
  Xq (Xn d7 w) A (pyIter (.ref a)) Q E s:=by
 have tl:Looks (Xn d7 w) s.heap (typeOf (.ref a)) (.ref C):=(Looks.ld ha).andThen .now;have hc:Xq (Xn d7 w) A (call (.builtin "tuple.__iter__") [.ref a]) (fun v s'=>v=.ref s.heap.objs.size/\s'={ s with heap:=s.heap.push {cls:=.type "tuple_iterator",data:=.fields #[.ref a,.int 0 0]} }) (fun O O=>False) s:=by
  refine Zu (Zc F.slot_tuple_iter.plain F.entry_tuple_iter (check_slot (i := "tuple.__iter__") (owner := "tuple") (n := "__iter__") (by decide +kernel) (by decide +kernel) (tl.andThen (ZO X ok.sub)) (F.args_tuple_iter_1 _) ?_));show Xq _ _ (do ret (← newFields "tuple_iterator" [.ref a,Yu 0])) _ _ s;exact WL (XZ (WN ⟨rfl,rfl⟩))
 unfold pyIter specialOf;refine WL (WL (tl.here (cr X ok.it ?_)));dsimp only;refine WL ?_;dsimp only[callSpecialIfBoundUnlessNone?,bindSpecialIfBound?];refine Xc (WL ?_);unfold specialOf;refine WL (WL (tl.here (cr X ok.it ?_)));dsimp only[F.slot_tuple_iter.bind];refine WL (wpAny_askSetting (wpAny_ite ?_));have õ:∀hp:Heap,hp=s.heap.push {cls:=.type "tuple_iterator",data:=.fields #[.ref a,.int 0 0]}->({s with heap:=hp}:WS).TypeIs (.ref s.heap.objs.size) "tuple_iterator" := fun hp e=>by subst e;exact bb _ (WW _ rfl) rfl
 split
 ·refine WL (WN (WN ?_));refine Yj rfl (WL (XU hc (fun v s' h'=>?_) fun O O h'=>h'.elim));refine av h' fun O1 O2=>?_;clear h';subst O1;subst O2;exact WN (WL (a9 (õ _ rfl) F.slot_tuple_iterator_next.lookup (WN hQ)))
 ·refine wpAny_tryCatch (WL (WN (WN ?_)));refine Yj rfl (WL (XU hc (fun v s' h'=>?_) fun O O h'=>h'.elim));refine av h' fun O1 O2=>?_;clear h';subst O1;subst O2;exact WN (WL (a9 (õ _ rfl) F.slot_tuple_iterator_next.lookup (WN hQ)))
theorem NF{items:Array Value}{Q:List Value->WS->Prop}(hh:A.handled=none)(ok:Q0 d7 w K C)(X:K.In s.heap)(ha:s.heap.get? a=some {cls:=.ref C,dict:=some d,data:=.seq items n})
  (hQ:∀h',Heap.ExtBut s.heap.objs.size s.heap h'->Q items.toList {s with heap:=h' }):Xq (Xn d7 w) A (unpackItems (.ref a) items.size none) Q E s:=by
 have tl:Looks (Xn d7 w) s.heap (typeOf (.ref a)) (.ref C):=(Looks.ld ha).andThen .now;have l8:a≠s.heap.objs.size:=Ys (XT ha);unfold unpackItems;refine WL ?_;unfold notIterableAtAll specialOf;refine WL (WL (tl.here (cr X ok.it ?_)));refine KFB.if_so rfl ?_;refine WN ?_;refine Yj rfl ?_;refine WL (Xc (NH ok X ha ?_));refine WL (Xc (Hw (ot:={ cls:=.ref C,dict:=some d,data:=.seq items n}) l8 rfl items.size 0 _ _ ⟨_,WW _ rfl,rfl,rfl⟩ (WX _ ha) ⋯ fun h1 M5 J8=>?_));have H9:List.take items.size (List.drop 0 items.toList)=items.toList:=by rw[List.drop_zero];exact List.take_of_length_le (by simp)
 rw[H9];refine aY (by simp) ?_;refine WL (Xc (Hv hh M5 ((J8.2 a l8).trans (WX _ ha)) rfl (by simp) fun h2 ð=>?_));refine Yj rfl ?_;exact WN (hQ h2 fun b o hb e=>ð b o hb (J8.extBut b o hb (WX _ e)))
end
section
variable{K:Frag}
theorem zx{x1:Nat}{vs:List AV}{R:Unit->St->Prop}(hh:A.handled=none)(ok:Q0 d7 w K C)(he:(YN elts d8).map (·.2)=elts.map fun e=>YE e d8)(hn:elts.length=vs.length)(A4:(YN elts d8).findIdx? (·.1)=none)
  (h:FT d7 w A (am K) d8 elts vs st R):F1 d7 w A (am K) d8 aJ (YE (.Tuple elts x1 pos) d8) (.mat C vs) st R:=fun s Z u V S Q E hQ=>by
 refine cA (tC V) fun a d items n qv e hv=>?_;subst qv;have hln:(YN elts d8).length=items.toArray.size:=by
  rw[← WP (f:=(·.2)) (as:=YN elts d8),he,WP,hn,← hv.length];simp
 rw[arm_assign_Tuple];unfold unpack;rw[hln,A4,he];refine WL (XB (WL (Xc (NF hh ok (cP S.base S.frozen) (S.frozen _ _ e) fun h' hx=>?_))));refine av (S.ext1 hx) fun S' X'=>?_;exact h _ Z _ (by simpa using hv) S' Q E fun v x z1 y0 l7 k' u7 V' J2=>hQ v x z1 y0 l7 k' u7 V' (X'.trans J2)
end
noncomputable def aB(a b:List Str)(i j:Nat):Bool:=a[i]?==b[j]?
noncomputable def aQ(a b:List Str)(i:Nat):List Nat:=(a[i]?).elim [] (bd b)
def G4(m:List (Int×AV))(D:Int->Nat):Prop:=∀x,(aI m x).getD (.int 0)=.int (D x)
theorem G4.nil:G4 [] (fun O=>0):=fun O=>rfl
theorem G4.store{m:List (Int×AV)}{D:Int->Nat}(h:G4 m D)(j:Int)(k:Nat):G4 (ei m j (.int k)) (fun x=>if x=j then k else D x):=fun x=>by
 rw[QN];dsimp only;by_cases e:x=j
 ·rw[if_pos e,if_pos e];rfl
 ·rw[if_neg e,if_neg e];exact h x
structure p9 (alo f2 f6 i:Nat) (s:(Int->Nat)×ab):Prop where
 d1:∀x,s.1 x<=i-alo
 d2:∀x,0<s.1 x->(f2:Int)<=x/\(s.1 x:Int)<=x+1-f2
 b1:alo<=s.2.1
 b2:s.2.1+s.2.2.2<=i
 b3:f2<=s.2.2.1
 b4:s.2.2.1+s.2.2.2<=f6
theorem p9.start(h:f2<=f6):p9 alo f2 f6 alo (fun O=>0,(alo,f2,0)):=⟨fun O=>Xk _,fun O h=>absurd h (Zh _),Xy _,Xy _,Xy _,h⟩
theorem p9.row{s:(Int->Nat)×ab}(h:p9 alo f2 f6 i s):p9 alo f2 f6 (i+1) (fun O=>0,s.2):=⟨fun O=>Xk _,fun O h=>absurd h (Zh _),h.b1,Nat.le_succ_of_le h.b2,h.b3,h.b4⟩
theorem p9.len{s:(Int->Nat)×ab}(h:p9 alo f2 f6 i s)(hi:alo<=i)(h1:f2<=j):s.1 ((j:Int)-1)<=i-alo/\s.1 ((j:Int)-1)<=j-f2:=by
 refine⟨h.d1 _,?_⟩;by_cases q:0<s.1 ((j:Int)-1)
 ·have:=(h.d2 _ q).2;rw[Int.sub_add_cancel] at this;exact Nat.le_sub_of_add_le (Int.ofNat_le.mp (Int.add_le_of_le_sub_right this))
 ·exact Nat.eq_zero_of_not_pos q▸Xk _
theorem p9.step{s s2:(Int->Nat)×ab}(h:p9 alo f2 f6 i s)(h2:p9 alo f2 f6 (i+1) s2)(hi:alo<=i)(hj:f2<=j)(L5:j<f6):p9 alo f2 f6 (i+1) (dc s.1 i s2 j):=by
 refine av (h.len hi hj) fun e1 e2=>?_;unfold dc;generalize s.1 ((j:Int)-1)=D at e1 e2;have d1:∀x,(if x=(j:Int) then D+1 else s2.1 x)<=i+1-alo:=fun x=>if e:x=j then if_pos e▸Nat.succ_sub hi▸Nat.succ_le_succ e1 else if_neg e▸h2.d1 x
 have d2:∀x,0<(if x=(j:Int) then D+1 else s2.1 x)->(f2:Int)<=x/\((if x=(j:Int) then D+1 else s2.1 x:Nat):Int)<=x+1-f2:=fun x hx=>by
  by_cases e:x=j
  ·rw[if_pos e,e];exact⟨Int.ofNat_le.mpr hj,Int.le_sub_right_of_add_le (Int.ofNat_le.mpr (Nat.succ_add .. ▸ Nat.succ_le_succ (Nat.add_le_of_le_sub hj e2)))⟩
  ·rw[if_neg e] at hx ⊢;exact h2.d2 x hx
 have l1:=Nat.sub_add_cancel (XQ e1 (Nat.sub_le ..));have l2:=Nat.sub_add_cancel (XQ e2 (Nat.sub_le ..));by_cases c:s2.2.2.2<D+1
 ·rw[if_pos c];exact⟨d1,d2,Nat.le_sub_of_add_le (Nat.add_le_of_le_sub' hi e1),Nat.succ_le_succ (Nat.le_of_eq l1),Nat.le_sub_of_add_le (Nat.add_le_of_le_sub' hj e2),XQ (Nat.succ_le_succ (Nat.le_of_eq l2)) L5⟩
 ·rw[if_neg c];exact⟨d1,d2,h2.b1,h2.b2,h2.b3,h2.b4⟩
theorem Pg(b:List Str)(k:Str):(ce b k).Pairwise (· < ·):=(List.pairwise_lt_range).filter _
theorem Pk{b:List Str}{k:Str}(h:j∈ce b k):j<b.length:=List.mem_range.mp (YZ.mp h).1
theorem Dj(b:List Str)(k:Str):(bd b k).Pairwise (· < ·):=by
 unfold bd;split
 ·exact .nil
 ·exact Pg b k
theorem Pa{b:List Str}{k:Str}(h:j∈bd b k):j<b.length:=by
 unfold bd at h;split at h
 ·cases h
 ·exact Pk h
theorem Pb(b:List Str)(k:Str):(bd b k).length<=b.length:=by
 unfold bd;split
 ·exact Xk _
 ·unfold ce;exact XQ (List.length_filter_le ..) (by rw[List.length_range];exact Xy _)
theorem GC{js:List Nat}(h:j<f2):within f2 f6 (j::js)=within f2 f6 js:=by
 unfold within;rw[List.filter_cons_of_neg (by rw[decide_eq_false (Nat.not_le.mpr h)];exact XL)]
theorem GD{js:List Nat}(h:f2<=j)(h':j<f6):within f2 f6 (j::js)=j::within f2 f6 js:=by
 unfold within;rw[List.filter_cons_of_pos (by rw[decide_eq_true h,decide_eq_true h'];rfl)]
theorem GB{js:List Nat}(hs:(j::js).Pairwise (· < ·))(h':f6<=j):within f2 f6 (j::js)=[]:=by
 unfold within;rw[List.filter_eq_nil_iff];intro x hx
 have:j<=x:=by
  rcases WT.mp hx with rfl |hx
  ·exact Xy _
  ·exact YO ((ZB.mp hs).1 x hx)
 rw[decide_eq_false (Nat.not_lt.mpr (XQ h' this)),Bool.and_false];exact XL
theorem AR(a b:Nat):cD (a:Int) (b:Int)=(Yk a (b-a)).map fun(i:Nat)=>AV.int (i:Int):=by
 unfold cD;rw[List.range'_eq_map_range,YF];rw[show ((b:Int)-(a:Int)).toNat=b-a from Int.toNat_sub b a];refine Zf fun i O=>?_;simp
theorem Rf(h : ¬ alo<i):bB e alo f2 i j k=(i,j,k):=by
 cases i with
 |zero=>rfl
 |succ i=>cases j with
  |zero=>rfl
  |succ j=>exact if_neg (by rw[decide_eq_false h];exact XL)
theorem Re(h : ¬ f2<j):bB e alo f2 i j k=(i,j,k):=by
 cases i with
 |zero=>rfl
 |succ i=>cases j with
  |zero=>rfl
  |succ j=>exact if_neg (by rw[decide_eq_false h,Bool.false_and,Bool.and_false];exact XL)
theorem Rd(h:e i j=false):bB e alo f2 (i+1) (j+1) k=(i+1,j+1,k) :=
 if_neg (by rw[h,Bool.and_false,Bool.and_false];exact XL)
theorem Rg(h1:alo<i+1)(h2:f2<j+1)(h:e i j=true):bB e alo f2 (i+1) (j+1) k=bB e alo f2 i j (k+1) :=
 if_pos (by rw[h,decide_eq_true h1,decide_eq_true h2];rfl)
theorem QX{g4 f:Nat}(h : ¬ (i+k<g4/\j+k<f6/\e (i+k) (j+k)=true)):cj e g4 f6 i j f k=k:=by
 cases f with
 |zero=>rfl
 |succ f =>
  exact if_neg fun q=>h ((Yl ..).mp q |>.imp of_decide_eq_true fun q=>((Yl ..).mp q).imp_left of_decide_eq_true)
theorem QZ{g4 f:Nat}(h1:i+k<g4)(h2:j+k<f6)(h:e (i+k) (j+k)=true):cj e g4 f6 i j (f+1) k=cj e g4 f6 i j f (k+1) :=
 if_pos (by rw[h,decide_eq_true h1,decide_eq_true h2];rfl)
theorem tK{a b:List Str}(hx:a[i]?=some x)(hy:b[j]?=some y):aB a b i j=(x==y):=by
 unfold aB;rw[hx,hy];cases q:x==y with
 |true=>rw[beq_iff_eq.mp q];simp
 |false=>have:=beq_eq_false_iff_ne.mp q;simpa using this
noncomputable abbrev af:Xh:=YR
noncomputable def Ak:List XC:=[271,286]
noncomputable def KB(P:WQ):Frag:=(KO P).filter fun p => !Ak.contains p.1
noncomputable abbrev aj(w:Xo):f9:=am (KB w.params)
theorem bG(w:Xo):m3 (aj w):=⟨fun s h=>⟨fun O=>none,by
 have e:=h 2 _ (show aj w 2=some (boot_o_2 w.params) from @_);exact⟨_,#[],0,e,@_,fun O h=>by simp at h,fun O=>rfl⟩,rfl⟩⟩
set_option backward.match.sparseCases false in
noncomputable def az(o:Obj):a8:=match o.data with |.func f=>f |_=>default
set_option backward.match.sparseCases false in
noncomputable def aL(o:Obj):Array Value:=match o.data with |.fields f=>f |_ => #[]
set_option backward.match.sparseCases false in
noncomputable def cb:Value->Tok
 |.str _ t=>t
 |_=>0
theorem Ql(P:WQ):bH (KB P) 82 false (az (fJ P)) (bo (aq 3 4)) 81 :=
 ⟨⟨fJ P,@_,@_⟩,@_,@_,@_,@_,@_,⟨gw P,aL (gw P),cb ((aL (gw P)).getD 1 .none),@_,@_,@_⟩,⟨@_,@_,@_⟩,@_⟩
theorem Qk(P:WQ):bH (KB P) 89 false (az (fH P)) (bo (aq 3 5)) 88 :=
 ⟨⟨fH P,@_,@_⟩,@_,@_,@_,@_,@_,⟨gv P,aL (gv P),cb ((aL (gv P)).getD 1 .none),@_,@_,@_⟩,⟨@_,@_,@_⟩,@_⟩
theorem QB(P:WQ):bH (KB P) 160 false (az (gD P)) (bo (aq 5 1)) 159 :=
 ⟨⟨gD P,@_,@_⟩,@_,@_,@_,@_,@_,⟨iQ P,aL (iQ P),cb ((aL (iQ P)).getD 1 .none),@_,@_,@_⟩,⟨@_,@_,@_⟩,@_⟩
theorem QA(P:WQ):bH (KB P) 167 false (az (gC P)) (bo (aq 5 2)) 166 :=
 ⟨⟨gC P,@_,@_⟩,@_,@_,@_,@_,@_,⟨iP P,aL (iP P),cb ((aL (iP P)).getD 1 .none),@_,@_,@_⟩,⟨@_,@_,@_⟩,@_⟩
theorem Qz(P:WQ):bH (KB P) 174 false (az (gB P)) (bo (aq 5 3)) 173 :=
 ⟨⟨gB P,@_,@_⟩,@_,@_,@_,@_,@_,⟨iO P,aL (iO P),cb ((aL (iO P)).getD 1 .none),@_,@_,@_⟩,⟨@_,@_,@_⟩,@_⟩
theorem Qy(P:WQ):bH (KB P) 181 false (az (gA P)) (bo (aq 5 4)) 180 :=
 ⟨⟨gA P,@_,@_⟩,@_,@_,@_,@_,@_,⟨iN P,aL (iN P),cb ((aL (iN P)).getD 1 .none),@_,@_,@_⟩,⟨@_,@_,@_⟩,@_⟩
theorem Qx(P:WQ):bH (KB P) 188 false (az (gz P)) (bo (aq 5 5)) 187 :=
 ⟨⟨gz P,@_,@_⟩,@_,@_,@_,@_,@_,⟨iM P,aL (iM P),cb ((aL (iM P)).getD 1 .none),@_,@_,@_⟩,⟨@_,@_,@_⟩,@_⟩
theorem Qw(P:WQ):bH (KB P) 196 false (az (fK P)) (bo (aq 5 6)) 195 :=
 ⟨⟨fK P,@_,@_⟩,@_,@_,@_,@_,@_,⟨iL P,aL (iL P),cb ((aL (iL P)).getD 1 .none),@_,@_,@_⟩,⟨@_,@_,@_⟩,@_⟩
theorem Qv(P:WQ):bH (KB P) 203 false (az (gy P)) (bo (aq 5 7)) 202 :=
 ⟨⟨gy P,@_,@_⟩,@_,@_,@_,@_,@_,⟨iK P,aL (iK P),cb ((aL (iK P)).getD 1 .none),@_,@_,@_⟩,⟨@_,@_,@_⟩,@_⟩
theorem Qu(P:WQ):bH (KB P) 210 false (az (gx P)) (bo (aq 5 8)) 209 :=
 ⟨⟨gx P,@_,@_⟩,@_,@_,@_,@_,@_,⟨iJ P,aL (iJ P),cb ((aL (iJ P)).getD 1 .none),@_,@_,@_⟩,⟨@_,@_,@_⟩,@_⟩
theorem Qt(P:WQ):bH (KB P) 218 true (az (iH P)) (bo (aq 5 9)) 217 :=
 ⟨⟨iH P,@_,@_⟩,@_,@_,@_,@_,@_,⟨iI P,aL (iI P),cb ((aL (iI P)).getD 1 .none),@_,@_,@_⟩,⟨@_,@_,@_⟩,@_⟩
theorem Qs(P:WQ):bH (KB P) 253 false (az (iG P)) (bo (aE 6)) 252 :=
 ⟨⟨iG P,@_,@_⟩,@_,@_,@_,@_,@_,⟨ly P,aL (ly P),cb ((aL (ly P)).getD 1 .none),@_,@_,@_⟩,⟨@_,@_,@_⟩,@_⟩
theorem DG(P:WQ):bH (KB P) 261 true (az (ls P)) (bo (aE 7)) 260 :=
 ⟨⟨ls P,@_,@_⟩,@_,@_,@_,@_,@_,⟨lu P,aL (lu P),cb ((aL (lu P)).getD 1 .none),@_,@_,@_⟩,⟨@_,@_,@_⟩,@_⟩
theorem Qr(P:WQ):bH (KB P) 268 false (az (iF P)) (bo (aE 8)) 267 :=
 ⟨⟨iF P,@_,@_⟩,@_,@_,@_,@_,@_,⟨lr P,aL (lr P),cb ((aL (lr P)).getD 1 .none),@_,@_,@_⟩,⟨@_,@_,@_⟩,@_⟩
theorem DF(P:WQ):bH (KB P) 276 true (az (ln P)) (bo (aE 9)) 275 :=
 ⟨⟨ln P,@_,@_⟩,@_,@_,@_,@_,@_,⟨iE P,aL (iE P),cb ((aL (iE P)).getD 1 .none),@_,@_,@_⟩,⟨@_,@_,@_⟩,@_⟩
theorem Qq(P:WQ):bH (KB P) 283 false (az (eJ P)) (bo (aE 10)) 282 :=
 ⟨⟨eJ P,@_,@_⟩,@_,@_,@_,@_,@_,⟨lj P,aL (lj P),cb ((aL (lj P)).getD 1 .none),@_,@_,@_⟩,⟨@_,@_,@_⟩,@_⟩
theorem Qp(P:WQ):bH (KB P) 291 true (az (lg P)) (bo (aE 11)) 290 :=
 ⟨⟨lg P,@_,@_⟩,@_,@_,@_,@_,@_,⟨iD P,aL (iD P),cb ((aL (iD P)).getD 1 .none),@_,@_,@_⟩,⟨@_,@_,@_⟩,@_⟩
theorem Qo(P:WQ):bH (KB P) 298 false (az (iC P)) (bo (aE 13)) 297 :=
 ⟨⟨iC P,@_,@_⟩,@_,@_,@_,@_,@_,⟨kZ P,aL (kZ P),cb ((aL (kZ P)).getD 1 .none),@_,@_,@_⟩,⟨@_,@_,@_⟩,@_⟩
theorem Qn(P:WQ):bH (KB P) 303 false (az (iB P)) (bo (aE 14)) 302 :=
 ⟨⟨iB P,@_,@_⟩,@_,@_,@_,@_,@_,⟨kX P,aL (kX P),cb ((aL (kX P)).getD 1 .none),@_,@_,@_⟩,⟨@_,@_,@_⟩,@_⟩
theorem Qm(P:WQ):bH (KB P) 308 false (az (iA P)) (bo (aE 15)) 307 :=
 ⟨⟨iA P,@_,@_⟩,@_,@_,@_,@_,@_,⟨kW P,aL (kW P),cb ((aL (kW P)).getD 1 .none),@_,@_,@_⟩,⟨@_,@_,@_⟩,@_⟩
set_option backward.match.sparseCases false in
noncomputable def fV(o:Obj):Array DictEntry:=match o.data with |.dict es _=>es |_ => #[]
noncomputable def DY(o:Obj):Nat:=match o.data with |.dict _ ep=>ep |_=>0
noncomputable def Tw(es:Array DictEntry):Bool:=es.toList.all fun e=>match e.key with |.str _ _=>true |_=>false
theorem Aw{es:Array DictEntry}(h:Tw es=true):StrKeys es:=fun e he=>by
 have:=XF.mp h e (by simpa using he);cases q:e.key with
 |str n t=>exact⟨n,t,rfl⟩
 |_=>rw[q] at this;cases this
theorem gM(w:Xo):aj w YD=some (dS w.params):=@_
theorem bn(P:WQ):(dS P).data=.dict (fV (dS P)) (DY (dS P)):=@_
theorem bk(P:WQ):StrKeys (fV (dS P)):=Aw @_
theorem gU(w:Xo):aj w Zm=some (boot_o_0 w.params):=@_
theorem cU(P:WQ):(boot_o_0 P).data=.dict (fV (boot_o_0 P)) (DY (boot_o_0 P)):=@_
theorem cS(P:WQ):StrKeys (fV (boot_o_0 P)):=Aw @_
theorem Dy(w:Xo):bc (aj w) fc (.ref 242):=eQ (u:=.ref 242) (gM w) (bn _) (bk _) @_ fun Z => .ref _
theorem Dz(w:Xo):bc (aj w) eF (.ref 135):=eQ (u:=.ref 135) (gM w) (bn _) (bk _) @_ fun Z => .ref _
theorem PQ(w:Xo):bc (aj w) ir (.ref 253):=eQ (u:=.ref 253) (gM w) (bn _) (bk _) @_ fun Z => .ref _
theorem Dp(w:Xo):bc (aj w) iq (.ref 261):=eQ (u:=.ref 261) (gM w) (bn _) (bk _) @_ fun Z => .ref _
theorem PR(w:Xo):bc (aj w) io (.ref 268):=eQ (u:=.ref 268) (gM w) (bn _) (bk _) @_ fun Z => .ref _
theorem Dw(w:Xo):bc (aj w) im (.ref 276):=eQ (u:=.ref 276) (gM w) (bn _) (bk _) @_ fun Z => .ref _
theorem Dx(w:Xo):bc (aj w) ip (.ref 283):=eQ (u:=.ref 283) (gM w) (bn _) (bk _) @_ fun Z => .ref _
theorem Dv(w:Xo):bc (aj w) il (.ref 291):=eQ (u:=.ref 291) (gM w) (bn _) (bk _) @_ fun Z => .ref _
theorem Dt(w:Xo):bc (aj w) ik (.ref 298):=eQ (u:=.ref 298) (gM w) (bn _) (bk _) @_ fun Z => .ref _
theorem tG(w:Xo):bc (aj w) ig (.ref 303):=eQ (u:=.ref 303) (gM w) (bn _) (bk _) @_ fun Z => .ref _
theorem PO(w:Xo):bc (aj w) ie (.ref 308):=eQ (u:=.ref 308) (gM w) (bn _) (bk _) @_ fun Z => .ref _
theorem Du(w:Xo):bc (aj w) KX (.blt "isinstance"):=cR (u:=.builtin "isinstance") (gM w) (bn _) (bk _) @_ (gU w) (cU _) (cS _) @_ fun Z => .blt _
theorem lU(w:Xo):bc (aj w) Kd (.blt "len"):=cR (u:=.builtin "len") (gM w) (bn _) (bk _) @_ (gU w) (cU _) (cS _) @_ fun Z => .blt _
theorem PM(w:Xo):bc (aj w) LH (.blt "min"):=cR (u:=.builtin "min") (gM w) (bn _) (bk _) @_ (gU w) (cU _) (cS _) @_ fun Z => .blt _
theorem PN(w:Xo):bc (aj w) LI (.blt "max"):=cR (u:=.builtin "max") (gM w) (bn _) (bk _) @_ (gU w) (cU _) (cS _) @_ fun Z => .blt _
theorem PV(w:Xo):bc (aj w) La (.blt "any"):=cR (u:=.builtin "any") (gM w) (bn _) (bk _) @_ (gU w) (cU _) (cS _) @_ fun Z => .blt _
theorem PW(w:Xo):bc (aj w) Kq (.blt "abs"):=cR (u:=.builtin "abs") (gM w) (bn _) (bk _) @_ (gU w) (cU _) (cS _) @_ fun Z => .blt _
theorem PU(w:Xo):bc (aj w) Kw (.blt "chr"):=cR (u:=.builtin "chr") (gM w) (bn _) (bk _) @_ (gU w) (cU _) (cS _) @_ fun Z => .blt _
theorem PL(w:Xo):bc (aj w) Kt (.blt "ord"):=cR (u:=.builtin "ord") (gM w) (bn _) (bk _) @_ (gU w) (cU _) (cS _) @_ fun Z => .blt _
theorem PJ(w:Xo):bc (aj w) KS (.typ "str"):=cR (u:=.type "str") (gM w) (bn _) (bk _) @_ (gU w) (cU _) (cS _) @_ fun Z => .typ _
theorem tF(w:Xo):bc (aj w) JS (.typ "list"):=cR (u:=.type "list") (gM w) (bn _) (bk _) @_ (gU w) (cU _) (cS _) @_ fun Z => .typ _
theorem Dr(w:Xo):bc (aj w) Jz (.typ "range"):=cR (u:=.type "range") (gM w) (bn _) (bk _) @_ (gU w) (cU _) (cS _) @_ fun Z => .typ _
theorem PS(w:Xo):bc (aj w) JR (.typ "enumerate"):=cR (u:=.type "enumerate") (gM w) (bn _) (bk _) @_ (gU w) (cU _) (cS _) @_ fun Z => .typ _
theorem PK(w:Xo):bc (aj w) JM (.typ "set"):=cR (u:=.type "set") (gM w) (bn _) (bk _) @_ (gU w) (cU _) (cS _) @_ fun Z => .typ _
theorem PT(w:Xo):bc (aj w) Lj (.typ "dict"):=cR (u:=.type "dict") (gM w) (bn _) (bk _) @_ (gU w) (cU _) (cS _) @_ fun Z => .typ _
theorem Ds(w:Xo):bc (aj w) JT (.typ "map"):=cR (u:=.type "map") (gM w) (bn _) (bk _) @_ (gU w) (cU _) (cS _) @_ fun Z => .typ _
theorem Dq(w:Xo):bc (aj w) Lu (.typ "tuple"):=cR (u:=.type "tuple") (gM w) (bn _) (bk _) @_ (gU w) (cU _) (cS _) @_ fun Z => .typ _
theorem yp(w:Xo):bc (aj w) Kz (.typ "bytes"):=cR (u:=.type "bytes") (gM w) (bn _) (bk _) @_ (gU w) (cU _) (cS _) @_ fun Z => .typ _
inductive ü (B:f9) (o:AV) (led:aa):Prop where
 |mk {T':String} {id:String} (h:Yx (.type T') "__getitem__" = YV (some (.builtin id))) (t:ds B o led T')
theorem Uj{value N9:Expr}
  (hs:∀o i,subscripted N9 false o i=operate [o,i] (getItem o i))
  (h:T d7 w A B d8 Val (Yw value d8) st fun v1 j9=>T d7 w A B d8 Val (Yw N9 d8) j9 fun v2 m5=>ü B v1 m5.led/\F2 d7 w A B d8 Val getItem v1 v2 m5 K) :
  T d7 w A B d8 Val (Yw (.Subscript value N9 pos) d8) st K:=fun s Z S Q E hQ =>
 PyProof.Rows.Subscript_ (h s Z S _ _ fun v1 m6 s₁ Z1 j9 k₁ S1 V1 X1=>k₁ s₁ Z1 S1 _ _ fun v2 x2 s2 Z2 m5 k2 S2 V2 X2=>by
  refine av k2 fun ix k2=>ü.rec (fun{T' id} hl ht=>?_) ix;have hT:=(ht s2 Z2 m6 (V1.mono X2.le) S2.tof1).1;unfold PyProof.Rows.subscriptTail;refine WL ?_;rw[getitemInPython_of_ne hT.not_modules];refine WL (a9 hT hl ?_);have fin:Xq (Xn d7 w) A (subscripted N9 false m6 x2) (fun r s3=>Xq (Xn d7 w) A (letTemporaryGo value m6 r>>=fun O=>YV r) Q E s3) E s2:=by
   rw[hs];exact wpAny_operating (k2 s2 Z2 m6 x2 (V1.mono X2.le) V2 S2 _ _ fun v x s' Z' e9 k S' V X=>WL (wpAny_letTemporaryGo (WN (hQ v x s' Z' e9 k S' V ((X1.trans X2).trans X)))))
  first
   |exact WN (WL fin)
   |exact WL (WN (WL fin))
   |exact WL fin)
theorem Uf{x:Expr}{i:Int}(h:T d7 w A B d8 Val (Yw x d8) st fun v e9=>v=.int i/\K (.int (-i)) e9):T d7 w A B d8 Val (Yw (.UnaryOp .USub x pos) d8) st K:=fun s Z S Q E hQ=>by
 rw[show Yw (.UnaryOp .USub x pos) d8=(Yw x d8>>=fun v=>standAt pos>>=fun O=>b9 [v] (unaryOp .USub v)) from rfl];refine WL (h s Z S _ _ fun v y s' Z' e9 k S' V X=>?_);refine av k ?_;clear k;intro O1 k;subst O1;cases V
 exact WL (XB (Xc (PyProof.Rows.neg_int (hQ _ _ _ Z' e9 k (S'.toks _) (.int _ _) (X.trans (.toks _))))))
theorem Ue{p:Pos}{i:Int}(h:K (.int (-i)) st):T d7 w A B d8 Val (Yw (.UnaryOp .USub (.Constant (.int i) k p) pos) d8) st K :=
 Uf (Fa ⟨rfl,h⟩)
theorem Hh{led:aa}:ds B (.tup xs) led "tuple" := fun s Z u V S=>by
 refine bC (lP V) fun O O O qv e h=>?_;subst qv;exact⟨⟨_,S.frozen _ _ e,rfl⟩,fun b q=>by cases q;exact bb _ (S.frozen _ _ e) rfl⟩
theorem Uy{x:Expr}{rest:List Expr}{K:Bool->St->Prop}
  (h:T d7 w A B d8 aH (isTrue x d8 (Yw x d8)) st fun b e9=>if b then K true e9 else T d7 w A B d8 aH (allTrue .Or rest d8) e9 K):T d7 w A B d8 aH (allTrue .Or (x::rest) d8) st K:=fun s Z S Q E hQ =>
 wpAny_allTrue_Or_cons (h s Z S _ _ fun b c s' Z' e9 k S' V X=>by
  unfold aH at V;subst V;cases c with
  |true=>exact hQ true true s' Z' e9 k S' rfl X
  |false=>exact k s' Z' S' Q E fun b' c' z1 y0 l7 k' u7 V' X'=>hQ b' c' z1 y0 l7 k' u7 V' (X.trans X'))
noncomputable def bX(a b:Str):Bool:=PySem.W.Fast.lEq a.cps.toList b.cps.toList
theorem tL{a b:Str}:bX a b=true↔a=b:=by
 unfold bX;rw[PySem.W.Fast.lEq_iff];constructor
 ·intro h;cases a;cases b
  simp only[Str.mk.injEq];exact Array.toList_inj.mp h
 ·rintro rfl;rfl
theorem tM(a b:Str):(a==b)=bX a b:=by
 rw[ZK,beq_iff_eq,tL]
noncomputable def lk(x:Str)(l:List (Str×AV)):Option AV:=@List.rec _ (fun O=>Option AV) none (fun p O ih=>@Bool.rec (fun O=>Option AV) ih (some p.2) (bX x p.1)) l
noncomputable def sk(x:Str)(v:AV)(l:List (Str×AV)):List (Str×AV):=@List.rec _ (fun O=>List (Str×AV)) [(x,v)] (fun p r ih=>@Bool.rec (fun O=>List (Str×AV)) (p::ih) ((p.1,v)::r) (bX x p.1)) l
theorem iY(x:Str):∀l,lk x l=l.lookup x
 | []=>rfl
 |(y,u)::l=>by
  show @Bool.rec (fun O=>Option AV) (lk x l) (some u) (bX x y)=_;rw[Xl,tM,iY x l];cases bX x y <;> rfl
theorem vH(x:Str)(v:AV):∀l,sk x v l=cg l x v
 | []=>rfl
 |(y,u)::l=>by
  show @Bool.rec (fun O=>List (Str×AV)) ((y,u)::sk x v l) ((y,v)::l) (bX x y)=_;rw[vM,tM,vH x v l];cases bX x y <;> rfl
set_option genInjectivity false in set_option genSizeOf false in
inductive D0 where
 |e (x:Expr) (K:AV->St->Prop)
 |es (pos:Pos) (xs:List Expr) (K:List AV->St->Prop)
 |t (x:Expr) (K:Bool->St->Prop)
 |ts (op:BoolOp) (xs:List Expr) (K:Bool->St->Prop)
 |s (x:Stmt) (K:g6->St->Prop)
 |ss (xs:List Stmt) (K:g6->St->Prop)
inductive f7 (P:Prop):Prop where
 |mk (h:P):f7 P
theorem f7.out(h:f7 P):P:=by
 induction h with
 |mk h=>exact h
set_option genInjectivity false in set_option genSizeOf false in
structure w9 where
 name:Str
 kind:Nat
 id:String
noncomputable def lO:Nat->String
 |0 => "str"
 |1 => "list"
 |_ => "dict"
set_option genInjectivity false in set_option genSizeOf false in
structure Ctx where
 p:Xh
 w:Xo
 A:Xg
 B:f9
 e:Env
 G:List (Str×AV)
 F:List XC
 M:List w9
section
variable(Γ:Ctx)
def dw(x:Expr)(K:AV->St->Prop)(st:St):Prop:=f7 (T Γ.p Γ.w Γ.A Γ.B Γ.e Val (Yw x Γ.e) st K)
def zQ(pos:Pos)(xs:List Expr)(K:List AV->St->Prop)(st:St):Prop:=f7 (T Γ.p Γ.w Γ.A Γ.B Γ.e Vals (spliced (Zy pos (XV xs Γ.e))) st K)
def jx(x:Expr)(K:Bool->St->Prop)(st:St):Prop:=f7 (T Γ.p Γ.w Γ.A Γ.B Γ.e aH (isTrue x Γ.e (Yw x Γ.e)) st K)
def GL(op:BoolOp)(xs:List Expr)(K:Bool->St->Prop)(st:St):Prop:=f7 (T Γ.p Γ.w Γ.A Γ.B Γ.e aH (allTrue op xs Γ.e) st K)
def eB(x:Stmt)(K:g6->St->Prop)(st:St):Prop:=f7 (T Γ.p Γ.w Γ.A Γ.B Γ.e j5 (exec x Γ.e) st K)
def GM(xs:List Stmt)(K:g6->St->Prop)(st:St):Prop:=f7 (T Γ.p Γ.w Γ.A Γ.B Γ.e j5 (execs xs Γ.e) st K)
def b2(f:Value->Value->Sem Value)(v u:AV)(K:AV->St->Prop)(st:St):Prop:=f7 (F2 Γ.p Γ.w Γ.A Γ.B Γ.e Val f v u st K)
def qp:D0->St->Prop
 |.e x K,st=>dw Γ x K st
 |.es pos xs K,st=>zQ Γ pos xs K st
 |.t x K,st=>jx Γ x K st
 |.ts op xs K,st=>GL Γ op xs K st
 |.s x K,st=>eB Γ x K st
 |.ss xs K,st=>GM Γ xs K st
def pz(b:Bool)(P Q:Prop):Prop:=@Bool.rec (fun O=>Prop) Q P b
def pk(b:Bool)(P Q:Prop):Prop:=@Bool.rec (fun O=>Prop) Q P b
def oN(o:Option α)(P:Prop)(f:α->Prop):Prop:=@Option.rec α (fun O=>Prop) P f o
set_option backward.match.sparseCases false in
noncomputable def Ch:AV->Bool
 |.any=>false
 |_=>true
def zS(x:Str)(pos:Pos)(K:AV->St->Prop)(st:St):Prop :=
 oN (lk x st.loc) (oN (lk x Γ.G) (dw Γ (.Name x pos) K st) fun v=>K v st) fun v=>pz (Ch v && !bX x d6) (K v st) (dw Γ (.Name x pos) K st)
set_option backward.match.sparseCases false in
def eP(v u:AV)(fb:Prop)(f:Int->Int->Prop):Prop :=
 match v with
 |.int a=>(match u with
  |.int b=>f a b
  |_=>fb)
 |_=>fb
set_option backward.match.sparseCases false in
def vC(v u:AV)(fb:Prop)(f:Str->Str->Prop):Prop :=
 match v with
 |.str a=>(match u with
  |.str b=>f a b
  |_=>fb)
 |_=>fb
set_option backward.match.sparseCases false in
noncomputable def ye(u:AV):Bool :=
 match u with
 |.none=>true
 |_=>false
set_option backward.match.sparseCases false in
def zV(op:Operator)(v u:AV)(K:AV->St->Prop)(st:St):Prop :=
 match op with
 |.Add=>eP v u (b2 Γ (binaryOp .Add) v u K st) fun a b=>K (.int (a+b)) st
 |.Sub=>eP v u (b2 Γ (binaryOp .Sub) v u K st) fun a b=>K (.int (a-b)) st
 |op=>b2 Γ (binaryOp op) v u K st
def zT(op:Operator)(v u:AV)(K:AV->St->Prop)(st:St):Prop :=
 match op with
 |.Add=>eP v u (b2 Γ (inplaceOp .Add) v u K st) fun a b=>K (.int (a+b)) st
 |.Sub=>eP v u (b2 Γ (inplaceOp .Sub) v u K st) fun a b=>K (.int (a-b)) st
 |op=>b2 Γ (inplaceOp op) v u K st
set_option backward.match.sparseCases false in
def vq(op:CmpOp)(v u:AV)(K:AV->St->Prop)(st:St):Prop :=
 match op with
 |.Eq=>eP v u (vC v u (b2 Γ (Zx .Eq) v u K st) fun a b=>K (.bool (a==b)) st) fun a b=>K (.bool (a==b)) st
 |.NotEq=>eP v u (vC v u (b2 Γ (Zx .NotEq) v u K st) fun a b=>K (.bool (a != b)) st) fun a b=>K (.bool (a != b)) st
 |.Lt=>eP v u (b2 Γ (Zx .Lt) v u K st) fun a b=>K (.bool (decide (a<b))) st
 |.Gt=>eP v u (b2 Γ (Zx .Gt) v u K st) fun a b=>K (.bool (decide (b<a))) st
 |.LtE=>eP v u (b2 Γ (Zx .LtE) v u K st) fun a b=>K (.bool (decide (a<=b))) st
 |.GtE=>eP v u (b2 Γ (Zx .GtE) v u K st) fun a b=>K (.bool (decide (b<=a))) st
 |.Is=>pz (ye u&&v.isNone.isSome) (K (.bool (v.isNone.getD false)) st) (b2 Γ (Zx .Is) v u K st)
 |.IsNot=>pz (ye u&&v.isNone.isSome) (K (.bool (!v.isNone.getD false)) st) (b2 Γ (Zx .IsNot) v u K st)
 |op=>b2 Γ (Zx op) v u K st
set_option backward.match.sparseCases false in
def qc(v:AV)(K:Bool->St->Prop)(st:St):Prop :=
 match v with
 |.bool b=>K b st
 |.int i=>K (i != 0) st
 |.none=>K false st
 |v=>f7 (F1 Γ.p Γ.w Γ.A Γ.B Γ.e aH truthy v st K)
set_option backward.match.sparseCases false in
noncomputable def OM(o:AV):Bool :=
 match o with
 |.lst _ |.tup _ |.str _=>true
 |_=>false
def zR(o k:AV)(K:AV->St->Prop)(st:St):Prop :=
 pz (OM o) (b2 Γ getItem o k K st) (ü Γ.B o st.led/\b2 Γ getItem o k K st)
set_option backward.match.sparseCases false in
noncomputable def CV:AV->Bool
 |.typ _ |.blt _ |.bm _ _=>true
 |.ref f=>Γ.F.any fun g=>Nat.beq f g
 |_=>false
noncomputable def tB(e:Expr):Bool :=
 match e with
 |.Starred .. => true
 |_=>false
noncomputable def lK(e:Expr):Bool := !tB e
set_option backward.match.sparseCases false in
noncomputable def xB:Expr->Bool
 |.Call .. => false
 |_=>true
set_option backward.match.sparseCases false in
noncomputable def BX:Expr->Bool
 |.Name .. |.Constant .. |.BinOp .. |.UnaryOp .. |.Subscript .. => true
 |_=>false
set_option backward.match.sparseCases false in
noncomputable def sT:Expr->Bool
 |.ListComp .. |.SetComp .. |.DictComp .. => false
 |_=>true
def GO(c:Const)(K:AV->St->Prop)(st:St)(fb:Prop):Prop :=
 match c with
 |.int i=>K (.int i) st
 |.str x=>K (.str x) st
 |.none=>K .none st
 |.bool b=>K (.bool b) st
 |_=>fb
set_option genInjectivity false in set_option genSizeOf false in
inductive Vw where
 |name (x:Str) (p:Pos) |attr (e:Expr) (n:Str) (p:Pos) |tup (xs:List Expr) (n:Nat) (p:Pos) |num (i:Int) (k:Nat) (p:Pos) |no
set_option backward.match.sparseCases false in
noncomputable def vw(e:Expr):Vw :=
 match e with
 |.Name x p => .name x p
 |.Attribute e n p => .attr e n p
 |.Tuple xs n p => .tup xs n p
 |.Constant (.int i) k p => .num i k p
 |_ => .no
noncomputable def Vw.pick{α:Sort _}(v:Vw)(d:α)(f:Str->Pos->α)(g:Expr->Str->Pos->α)(h:List Expr->Nat->Pos->α)(k:Int->Nat->Pos->α):α:=@Vw.rec (fun O=>α) f g h k d v
theorem qd(e:Expr):(vw e).pick True (fun x p=>e=.Name x p) (fun o n p=>e=.Attribute o n p) (fun xs n p=>e=.Tuple xs n p) (fun i k p=>e=.Constant (.int i) k p):=by
 cases e with
 |Name=>rfl
 |Attribute=>rfl
 |Tuple=>rfl
 |Constant c k p=>cases c <;> first |rfl |trivial
 |_=>trivial
noncomputable def xF(x:Expr):Option Int:=(vw x).pick none (fun O O=>none) (fun O O O=>none) (fun O O O=>none) fun i O O=>some i
noncomputable def OP(o:UnaryOp):Bool :=
 match o with
 |.USub=>true
 |_=>false
noncomputable def OR(o:UnaryOp):Bool :=
 match o with
 |.Not=>true
 |_=>false
noncomputable def one(l:List α):Option α :=
 match l with
 | []=>none
 |x::r=>(match r with
  | []=>some x
  |_::_=>none)
noncomputable def bO(x:Expr):Option Str:=(vw x).pick none (fun n O=>some n) (fun O O O=>none) (fun O O O=>none) fun O O O=>none
noncomputable def xJ(x:Expr):Option (Expr×Str×Pos):=(vw x).pick none (fun O O=>none) (fun o n p=>some (o,n,p)) (fun O O O=>none) fun O O O=>none
noncomputable def mk(x:Str)(l:List w9):Option w9:=@List.rec _ (fun O=>Option w9) none (fun p O ih=>@Bool.rec (fun O=>Option w9) ih (some p) (bX x p.name)) l
set_option backward.match.sparseCases false in
noncomputable def Da(v:AV)(k:Nat):Bool :=
 match v with
 |.str _=>Nat.beq k 0
 |.lst _=>Nat.beq k 1
 |_=>false
def zU(ih:D0->St->Prop)(f:Expr)(args:List Expr)(pos:Pos)(K:AV->St->Prop)(st:St)(fb:Prop):Prop :=
 oN (xJ f) (pz (bO f).isSome (ih (.e f fun fv s₁=>pz (CV Γ fv&&args.all lK) (ih (.es pos args fun vs s2=>f7 (FC Γ.p Γ.w Γ.A Γ.B Γ.e fv vs [] s2 K)) s₁) (f7 (CA Γ.p Γ.w Γ.A Γ.B Γ.e pos fv [] args s₁ K))) st) fb) fun m=>oN (mk m.2.1 Γ.M) fb fun t =>
  pz (Nat.ble args.length 25&&(args.all lK&&(Nat.beq m.2.2.endLine pos.line&&xB m.1))) (ih (.e m.1 fun v s₁=>pz (Da v t.kind) (ih (.es pos args fun vs s2=>f7 (FC Γ.p Γ.w Γ.A Γ.B Γ.e (.blt t.id) (v::vs) [] s2 K)) s₁) (ds Γ.B v s₁.led (lO t.kind)/\ih (.es pos args fun vs s2=>f7 (FC Γ.p Γ.w Γ.A Γ.B Γ.e (.blt t.id) (v::vs) [] s2 K)) s₁)) st) fb
set_option backward.match.sparseCases false in
def AB(ih:D0->St->Prop)(x:Expr)(K:AV->St->Prop)(st:St):Prop :=
 match x with
 |.Constant c k p=>GO c K st (dw Γ (.Constant c k p) K st)
 |.Name x pos=>zS Γ x pos K st
 |.Tuple xs n pos=>ih (.es pos xs fun vs e9=>pz (Nat.ble vs.length 50) (K (.tup vs) e9) False) st
 |.BinOp l op r _=>ih (.e l fun v s₁=>ih (.e r fun u s2=>zV Γ op v u K s2) s₁) st
 |.Compare l w0 rs pos=>oN (one w0) (dw Γ (.Compare l w0 rs pos) K st) fun op=>oN (one rs) (dw Γ (.Compare l w0 rs pos) K st) fun r =>
   pz (behindInMarks op r) (dw Γ (.Compare l w0 rs pos) K st) (ih (.e l fun v s₁=>ih (.e r fun u s2=>vq Γ op v u K s2) s₁) st)
 |.IfExp t a b _=>ih (.t t fun c s₁=>pk c (ih (.e a K) s₁) (ih (.e b K) s₁)) st
 |.UnaryOp o x pos=>pz (OP o) (oN (xF x) (dw Γ (.UnaryOp o x pos) K st) fun i=>K (.int (-i)) st) (dw Γ (.UnaryOp o x pos) K st)
 |.Subscript v i pos=>pz (BX i) (ih (.e v fun o s₁=>ih (.e i fun k s2=>zR Γ o k K s2) s₁) st) (dw Γ (.Subscript v i pos) K st)
 |.Call f args J6 pos=>pz J6.isEmpty (zU Γ ih f args pos K st (dw Γ (.Call f args J6 pos) K st)) (dw Γ (.Call f args J6 pos) K st)
 |.Attribute o n pos=>pz (xB o) (ih (.e o fun v s₁=>f7 (F1 Γ.p Γ.w Γ.A Γ.B Γ.e Val (fun x=>getAttr x n true) v s₁ K)) st) (dw Γ (.Attribute o n pos) K st)
 |x=>dw Γ x K st
def HY(ih:D0->St->Prop)(pos:Pos)(xs:List Expr)(K:List AV->St->Prop)(st:St):Prop :=
 match xs with
 | []=>K [] st
 |x::xs=>pz (lK x) (ih (.e x fun v s₁=>ih (.es pos xs fun vs s2=>K (v::vs) s2) s₁) st) (zQ Γ pos (x::xs) K st)
set_option backward.match.sparseCases false in
def HT(ih:D0->St->Prop)(x:Expr)(K:Bool->St->Prop)(st:St):Prop :=
 match x with
 |.UnaryOp o x pos=>pz (OR o) (ih (.t x fun b s₁=>K (!b) s₁) st) (jx Γ (.UnaryOp o x pos) K st)
 |.BoolOp op xs _=>ih (.ts op xs K) st
 |.Compare l w0 rs pos=>oN (one w0) (jx Γ (.Compare l w0 rs pos) K st) fun op=>oN (one rs) (jx Γ (.Compare l w0 rs pos) K st) fun r =>
   pz (behindInMarks op r) (jx Γ (.Compare l w0 rs pos) K st) (ih (.e l fun v s₁=>ih (.e r fun u s2=>vq Γ op v u (fun c s3=>qc Γ c K s3) s2) s₁) st)
 |.Name x pos=>ih (.e (.Name x pos) fun v s₁=>qc Γ v K s₁) st
 |.Call f args J6 pos=>ih (.e (.Call f args J6 pos) fun v s₁=>qc Γ v K s₁) st
 |x=>jx Γ x K st
noncomputable def Db(o:BoolOp):Bool :=
 match o with
 |.And=>true
 |.Or=>false
def HV(ih:D0->St->Prop)(op:BoolOp)(xs:List Expr)(K:Bool->St->Prop)(st:St):Prop :=
 match xs with
 | []=>K (Db op) st
 |x::xs=>ih (.t x fun b s₁=>pz (Db op) (pk b (ih (.ts op xs K) s₁) (K false s₁)) (pk b (K true s₁) (ih (.ts op xs K) s₁))) st
noncomputable def OS(f:g6):Bool :=
 match f with
 |.next=>true
 |_=>false
def HW(ih:D0->St->Prop)(xs:List Stmt)(K:g6->St->Prop)(st:St):Prop :=
 match xs with
 | []=>K .next st
 |x::xs=>ih (.s x fun f s₁=>pz (OS f) (ih (.ss xs K) s₁) (K f s₁)) st
noncomputable def jV(vs:List Expr):Bool := !(vs.any tB)&&(!(vs.all (foldedForSure 8)) && !(vs.all (constantsAlone 8)))
def lY(l:List α)(fb:Prop)(f:α->List α->Prop):Prop:=@List.rec α (fun O=>Prop) fb (fun a r O=>f a r) l
def xD(l:List α)(fb P:Prop):Prop:=@List.rec α (fun O=>Prop) P (fun O O O=>fb) l
def vt(l:List α)(fb:Prop)(f:α->α->Prop):Prop:=lY l fb fun a r=>lY r fb fun b r=>xD r fb (f a b)
def vB(l:List α)(fb:Prop)(f:α->α->α->Prop):Prop:=lY l fb fun a r=>lY r fb fun b r=>lY r fb fun c r=>xD r fb (f a b c)
theorem pn{l:List α}{fb:Prop}{f:α->List α->Prop}(h:lY l fb f)(h1:fb->P)(h2:∀a r,l=a::r->f a r->P):P:=by
 cases l with
 |nil=>exact h1 h
 |cons a r=>exact h2 a r rfl h
theorem Cl{l:List α}{fb Q:Prop}(h:xD l fb P)(h1:fb->Q)(h2:l=[]->P->Q):Q:=by
 cases l with
 |nil=>exact h2 rfl h
 |cons a r=>exact h1 h
theorem zZ{l:List α}{fb:Prop}{f:α->α->Prop}(h:vt l fb f)(h1:fb->P)(h2:∀a b,l=[a,b]->f a b->P):P :=
 pn h h1 fun a O e h=>pn h h1 fun b O e2 h=>Cl h h1 fun e3 h=>h2 a b (by rw[e,e2,e3]) h
theorem Aj{l:List α}{fb:Prop}{f:α->α->α->Prop}(h:vB l fb f)(h1:fb->P)(h2:∀a b c,l=[a,b,c]->f a b c->P):P :=
 pn h h1 fun a O e h=>pn h h1 fun b O e2 h=>pn h h1 fun c O e4 h=>Cl h h1 fun e3 h=>h2 a b c (by rw[e,e2,e4,e3]) h
def Ap(ih:D0->St->Prop)(t1 t2:Expr)(pos:Pos)(vs:List Expr)(K:g6->St->Prop)(st:St)(fb:Prop):Prop :=
 oN (bO t1) fb fun x=>oN (bO t2) fb fun y=>pz (Nat.beq vs.length 2&&(jV vs&&(Nat.beq t1.pos.line t2.pos.line&&(!bX x y&&((lk x st.loc).isSome&&(lk y st.loc).isSome)))))
  (ih (.es pos vs fun us s₁=>vt us False fun u v=>pz ((lk x s₁.loc).isSome&&(lk y s₁.loc).isSome) (K .next ⟨sk x u (sk y v s₁.loc),s₁.led⟩) False) st) fb
def Ao(ih:D0->St->Prop)(t1 t2 t3:Expr)(pos:Pos)(vs:List Expr)(K:g6->St->Prop)(st:St)(fb:Prop):Prop :=
 oN (bO t1) fb fun x=>oN (bO t2) fb fun y=>oN (bO t3) fb fun z=>pz (Nat.beq vs.length 3&&(jV vs&&(Nat.beq t1.pos.line t2.pos.line&&(Nat.beq t1.pos.line t3.pos.line&&(!bX x y&&(!bX x z&&(!bX y z&&((lk x st.loc).isSome&&((lk y st.loc).isSome&&(lk z st.loc).isSome)))))))))
  (ih (.es pos vs fun us s₁=>vB us False fun u v r=>pz ((lk x s₁.loc).isSome&&((lk y s₁.loc).isSome&&(lk z s₁.loc).isSome)) (K .next ⟨sk x u (sk y v (sk z r s₁.loc)),s₁.led⟩) False) st) fb
noncomputable def qf(x:Expr):Option (List Expr×Nat×Pos):=(vw x).pick none (fun O O=>none) (fun O O O=>none) (fun xs n p=>some (xs,n,p)) fun O O O=>none
noncomputable def AF(xs:List Str):List AV->List (Str×AV)->List (Str×AV):=@List.rec _ (fun O=>List AV->List (Str×AV)->List (Str×AV)) (fun O l=>l) (fun x O ih vs l=>@List.rec _ (fun O=>List (Str×AV)) l (fun v r O=>ih r (sk x v l)) vs) xs
def SW(ih:D0->St->Prop)(ts:List Expr)(pos:Pos)(vs:List Expr)(K:g6->St->Prop)(st:St)(fb:Prop):Prop :=
 pz (Nat.ble 4 ts.length&&Nat.beq (ts.filterMap bO).length ts.length)
  (ih (.es pos vs fun us s₁=>pz (Nat.ble us.length 50&&(Nat.beq us.length ts.length&&(ts.filterMap bO).all fun x=>(lk x s₁.loc).isSome)) (K .next ⟨AF (ts.filterMap bO) us s₁.loc,s₁.led⟩) False) st) fb
def An(ih:D0->St->Prop)(ts:List Expr)(pos:Pos)(vs:List Expr)(K:g6->St->Prop)(st:St)(fb:Prop):Prop :=
 vt ts (vB ts (SW ih ts pos vs K st fb) fun t1 t2 t3=>Ao ih t1 t2 t3 pos vs K st fb) fun t1 t2=>Ap ih t1 t2 pos vs K st fb
set_option backward.match.sparseCases false in
def AA(ih:D0->St->Prop)(x:Stmt)(K:g6->St->Prop)(st:St):Prop :=
 match x with
 |.If t a b _=>ih (.t t fun c s₁=>pk c (ih (.ss a K) s₁) (ih (.ss b K) s₁)) st
 |.Return e _=>oN e (K (.ret .none) st) fun e=>ih (.e e fun v s₁=>K (.ret v) s₁) st
 |.Pass _=>K .next st
 |.Break _=>K .brk st
 |.Continue _=>K .cont st
 |.Expr e pos=>pz (sT e) (ih (.e e fun O s₁=>K .next s₁) st) (eB Γ (.Expr e pos) K st)
 |.Assign ts e pos=>oN (one ts) (eB Γ (.Assign ts e pos) K st) fun t=>oN (bO t) (oN (qf t) (eB Γ (.Assign ts e pos) K st) fun a=>oN (qf e) (eB Γ (.Assign ts e pos) K st) fun b=>An ih a.1 b.2.2 b.1 K st (eB Γ (.Assign ts e pos) K st)) fun x =>
   pz (sT e&&(lk x st.loc).isSome) (ih (.e e fun v s₁=>pz (lk x s₁.loc).isSome (K .next ⟨sk x v s₁.loc,s₁.led⟩) False) st) (eB Γ (.Assign ts e pos) K st)
 |.AugAssign t op e pos=>oN (bO t) (eB Γ (.AugAssign t op e pos) K st) fun x=>oN (lk x st.loc) (eB Γ (.AugAssign t op e pos) K st) fun v=>pz (Ch v)
   (ih (.e e fun u s₁=>zT Γ op v u (fun r s2=>pz (lk x s2.loc).isSome (K .next ⟨sk x r s2.loc,s2.led⟩) False) s₁) st) (eB Γ (.AugAssign t op e pos) K st)
 |x=>eB Γ x K st
def step(ih:D0->St->Prop)(c:D0)(st:St):Prop :=
 match c with
 |.e x K=>AB Γ ih x K st
 |.es pos xs K=>HY Γ ih pos xs K st
 |.t x K=>HT Γ ih x K st
 |.ts op xs K=>HV ih op xs K st
 |.s x K=>AA Γ ih x K st
 |.ss xs K=>HW ih xs K st
def wp:Nat->D0->St->Prop
 |0=>qp Γ
 |n+1=>step Γ (wp n)
end
section
variable{Γ:Ctx}
theorem bE{b:Bool}{Q R:Prop}(h:pk b P Q)(h1:b=true->P->R)(h2:b=false->Q->R):R:=by
 cases b with
 |true=>exact h1 rfl h
 |false=>exact h2 rfl h
theorem cE{b:Bool}{Q:Prop}(h1:b=true->P)(h2:b=false->Q):pk b P Q:=by
 cases b with
 |true=>exact h1 rfl
 |false=>exact h2 rfl
theorem ch{o:Option α}{R:Prop}{f:α->Prop}(h:oN o P f)(h1:P->R)(h2:∀x,o=some x->f x->R):R:=by
 cases o with
 |none=>exact h1 h
 |some x=>exact h2 x rfl h
structure C4 (Γ:Ctx):Prop where
 glob:∀p∈Γ.G,bc Γ.B p.1 p.2/\Γ.e.kindOf p.1=some .globalImplicit/\bX p.1 d6=false
 gl:Γ.e.globals=YD
 bu:Γ.e.builtins=Zm
 kept:∀f∈Γ.F,dE Γ.p Γ.w Γ.B (.ref f)
 act:interactive Γ.e=false
 blk:Γ.e.blockKind=.function
 hh:Γ.A.handled=none
 meth:∀m∈Γ.M,PlainAttrs (lO m.kind)/\Slot (lO m.kind) m.name m.id/\typeOf (.builtin m.id)=YV (.type "method_descriptor")
theorem C4.g{F:List XC}{M:List w9}(h:C4 ⟨d7,w,A,B,d8,G,F,M⟩)(h1:bc B x v)(h2:d8.kindOf x=some .globalImplicit)(h3:bX x d6=false):C4 ⟨d7,w,A,B,d8,(x,v)::G,F,M⟩ :=
 { h with glob:=fun p hp=>(WT.mp hp).elim (fun e=>by subst e;exact⟨h1,h2,h3⟩) (h.glob p)}
theorem C4.f{F:List XC}{M:List w9}(h:C4 ⟨d7,w,A,B,d8,G,F,M⟩){f:XC}(h1:dE d7 w B (.ref f)):C4 ⟨d7,w,A,B,d8,G,f::F,M⟩ :=
 { h with kept:=fun p hp=>(WT.mp hp).elim (fun e=>by subst e;exact h1) (h.kept p)}
theorem C4.m{F:List XC}{M:List w9}(h:C4 ⟨d7,w,A,B,d8,G,F,M⟩)(m:w9)(h1:PlainAttrs (lO m.kind))(h2:Slot (lO m.kind) m.name m.id)(h3:typeOf (.builtin m.id)=YV (.type "method_descriptor")):C4 ⟨d7,w,A,B,d8,G,F,m::M⟩ :=
 { h with meth:=fun p hp=>(WT.mp hp).elim (fun e=>by subst e;exact⟨h1,h2,h3⟩) (h.meth p)}
theorem dX(h1:d8.globals=YD)(h2:d8.builtins=Zm)(h3:interactive d8=false)(h4:d8.blockKind=.function)(h5:A.handled=none):C4 ⟨d7,w,A,B,d8,[],[],[]⟩ :=
 { glob:=fun O h=>(nomatch h),gl:=h1,bu:=h2,kept:=fun O h=>(nomatch h),act:=h3,blk:=h4,hh:=h5,meth:=fun O h=>(nomatch h)}
theorem CI:∀ {l:List (Str×AV)},lk x l=some v->(x,v)∈l
 | [],h=>by cases h
 |(y,u)::l,h=>by
  have h':@Bool.rec (fun O=>Option AV) (lk x l) (some u) (bX x y)=some v:=h;cases hq:bX x y with
  |true =>
   rw[hq] at h';obtain rfl:=tL.mp hq;obtain rfl:u=v:=Zi h';exact WM ..
  |false =>
   rw[hq] at h';exact WO _ (CI h')
theorem xI{m:w9}:∀ {l:List w9},mk x l=some m->m∈l/\m.name=x
 | [],h=>by cases h
 |y::l,h=>by
  have h':@Bool.rec (fun O=>Option w9) (mk x l) (some y) (bX x y.name)=some m:=h;cases hq:bX x y.name with
  |true =>
   rw[hq] at h';obtain rfl:y=m:=Zi h';exact⟨WM ..,(tL.mp hq).symm⟩
  |false =>
   rw[hq] at h';exact⟨WO _ (xI h').1,(xI h').2⟩
theorem Nb(g:C4 Γ)(h:zS Γ x pos K st):T Γ.p Γ.w Γ.A Γ.B Γ.e Val (Yw (.Name x pos) Γ.e) st K :=
 ch h (fun h=>ch h f7.out fun v e h=>by
  refine cB (g.glob _ (CI e)) fun h1 h2 h3=>?_;exact Fc h1 h2 g.gl g.bu (by rw[tM];exact h3) h) fun v e h=>bE h (fun hb hk=>by
  rw[Yl,Bool.not_eq_true'] at hb;refine Ug (by rw[← iY];exact e) hk (by rw[tM];exact hb.2) ?_;cases v <;> first |rfl |exact(XL hb.1).elim) fun O=>f7.out
theorem fj{u:AV}{fb:Prop}{f:Int->Int->Prop}{R:Prop}(h:eP v u fb f)(h1:fb->R)(h2:∀a b,v=.int a->u=.int b->f a b->R):R:=by
 cases v with
 |int a=>cases u with
  |int b=>exact h2 a b rfl rfl h
  |_=>exact h1 h
 |_=>exact h1 h
theorem AD{u:AV}{fb:Prop}{f:Str->Str->Prop}{R:Prop}(h:vC v u fb f)(h1:fb->R)(h2:∀a b,v=.str a->u=.str b->f a b->R):R:=by
 cases v with
 |str a=>cases u with
  |str b=>exact h2 a b rfl rfl h
  |_=>exact h1 h
 |_=>exact h1 h
theorem SP{op:Operator}{u:AV}(h:zV Γ op v u K st):F2 Γ.p Γ.w Γ.A Γ.B Γ.e Val (binaryOp op) v u st K:=by
 cases op with
 |Add=>exact fj h f7.out fun a b e1 e2 k=>by exact(Eq.symm (e1))▸(Eq.symm (e2))▸Wl k
 |Sub=>exact fj h f7.out fun a b e1 e2 k=>by exact(Eq.symm (e1))▸(Eq.symm (e2))▸VO k
 |_=>exact f7.out h
theorem Pc{op:Operator}{u:AV}(h:zT Γ op v u K st):F2 Γ.p Γ.w Γ.A Γ.B Γ.e Val (inplaceOp op) v u st K:=by
 cases op with
 |Add=>exact fj h f7.out fun a b e1 e2 k=>by exact(Eq.symm (e1))▸(Eq.symm (e2))▸We k
 |Sub=>exact fj h f7.out fun a b e1 e2 k=>by exact(Eq.symm (e1))▸(Eq.symm (e2))▸Wb k
 |_=>exact f7.out h
theorem Ck{u:AV}(h:ye u=true):u=.none:=by
 cases u <;> first |rfl |exact(XL h).elim
theorem Eo{op:CmpOp}{u:AV}(h:vq Γ op v u K st):F2 Γ.p Γ.w Γ.A Γ.B Γ.e Val (Zx op) v u st K:=by
 cases op with
 |Eq=>exact fj h (fun h=>AD h f7.out fun a b e1 e2 k=>by exact(Eq.symm (e1))▸(Eq.symm (e2))▸Wi k) fun a b e1 e2 k=>by exact(Eq.symm (e1))▸(Eq.symm (e2))▸Wj k
 |NotEq=>exact fj h (fun h=>AD h f7.out fun a b e1 e2 k=>by exact(Eq.symm (e1))▸(Eq.symm (e2))▸VR k) fun a b e1 e2 k=>by exact(Eq.symm (e1))▸(Eq.symm (e2))▸VS k
 |Lt=>exact fj h f7.out fun a b e1 e2 k=>by exact(Eq.symm (e1))▸(Eq.symm (e2))▸VY k
 |Gt=>exact fj h f7.out fun a b e1 e2 k=>by exact(Eq.symm (e1))▸(Eq.symm (e2))▸Wf k
 |LtE=>exact fj h f7.out fun a b e1 e2 k=>by exact(Eq.symm (e1))▸(Eq.symm (e2))▸VZ k
 |GtE=>exact fj h f7.out fun a b e1 e2 k=>by exact(Eq.symm (e1))▸(Eq.symm (e2))▸Wg k
 |Is =>
  refine bE h (fun hb k=>?_) fun O=>f7.out;rw[Yl] at hb;refine ak (Option.isSome_iff_exists.mp hb.2) fun q hq=>?_;rw[Ck hb.1];rw[hq] at k;exact Wd hq k
 |IsNot =>
  refine bE h (fun hb k=>?_) fun O=>f7.out;rw[Yl] at hb;refine ak (Option.isSome_iff_exists.mp hb.2) fun q hq=>?_;rw[Ck hb.1];rw[hq] at k;exact Wc hq k
 |_=>exact f7.out h
theorem vu{K:Bool->St->Prop}(h:qc Γ v K st):F1 Γ.p Γ.w Γ.A Γ.B Γ.e aH truthy v st K:=by
 cases v with
 |bool b=>exact uH h
 |int i=>exact Wn h
 |none=>exact Wm h
 |_=>exact f7.out h
theorem HI{o k:AV}(h:zR Γ o k K st) :
  ü Γ.B o st.led/\F2 Γ.p Γ.w Γ.A Γ.B Γ.e Val getItem o k st K:=by
 refine bE h (fun hb h=>?_) fun O h=>⟨h.1,h.2.out⟩;cases o with
 |lst _=>exact⟨.mk list_getitem_lookup vr,h.out⟩
 |tup _=>exact⟨.mk F.slot_tuple_getitem.lookup Hh,h.out⟩
 |str _=>exact⟨.mk F.slot_str_getitem.lookup my,h.out⟩
 |_=>exact(XL hb).elim
theorem Az{x:Expr}{xs:List Expr}(h:lK x=true):XV (x::xs) Γ.e=(false,Yw x Γ.e)::XV xs Γ.e:=by
 cases x <;> first |rfl |exact(XL h).elim
theorem EF{o:Expr}{n:Str}(h:xB o=true):attributeBase o n Γ.e (Yw o Γ.e)=Yw o Γ.e:=by
 cases o <;> first |rfl |exact(XL h).elim
theorem mB(pos:Pos):∀ {xs:List Expr},xs.all lK=true->((Zy pos (XV xs Γ.e)).all fun x => !x.1)=true
 | [],_=>rfl
 |x::xs,h=>by
  rw[List.all_cons,Yl] at h;rw[Az h.1];show (!false&&((Zy pos (XV xs Γ.e)).all fun x => !x.1))=true;rw[mB pos h.2];rfl
theorem OG(g:C4 Γ){f:AV}(h:CV Γ f=true):dE Γ.p Γ.w Γ.B f:=by
 cases f with
 |typ n=>exact CT
 |blt n=>exact gE
 |bm i s=>exact OI
 |ref a =>
  refine ad (List.any_eq_true.mp h) fun b hb e=>?_;obtain rfl:=Nat.eq_of_beq_eq_true e;exact g.kept _ hb
 |_=>exact(XL h).elim
theorem yF{e:Expr}{t:Option Expr}(h:sT e=true):swapsWith e t n Γ.e=YV false:=by
 cases e <;> first |rfl |exact(XL h).elim
theorem LZ{e:Expr}(h:BX e=true):∀o i,subscripted e false o i=operate [o,i] (getItem o i):=by
 cases e <;> first |(intro _ _;rfl) |exact(XL h).elim
theorem T.up{rel:f9->α->β->Prop}{t:Sem β}{K K':α->St->Prop}(h:T d7 w A B d8 rel t st K)(k:∀v s,K v s->K' v s):T d7 w A B d8 rel t st K':=h.mono k
theorem aR{K:St->Prop}(hb:(lk x st.loc).isSome=true)(h:K ⟨sk x v st.loc,st.led⟩):F1 d7 w A B d8 aJ (b0 d8 x) v st fun O s=>K s:=fun s Z u V S Q E hQ=>by
 refine ak (Option.isSome_iff_exists.mp hb) fun q hq=>?_;exact zv (S.kinds x q (by rw[← iY];exact hq)) (vH ..).symm h s Z u V S Q E hQ
theorem F2.up2{f:Value->Value->Sem Value}{u:AV}{K':AV->St->Prop}(h:F2 d7 w A B d8 Val f v u st K)(k:∀v s,K v s->K' v s):F2 d7 w A B d8 Val f v u st K' :=
 fun s Z m6 x2 V1 V2 S Q E hQ=>h s Z m6 x2 V1 V2 S Q E fun v x s' Z' e9 hk=>hQ v x s' Z' e9 (k v e9 hk)
theorem ka{l:List α}{x:α}(h:one l=some x):l=[x]:=by
 cases l with
 |nil=>cases h
 |cons y r=>cases r with
  |nil=>cases h;rfl
  |cons z r=>cases h
theorem fL{x:Expr}{n:Str}(h:bO x=some n):∃p,x=.Name n p:=by
 have q:=qd x;revert h;unfold bO;cases e:vw x <;> intro h <;> first |(rw[e] at q;cases h;exact⟨_,q⟩) |cases h
theorem MZ{x:Expr}{i:Int}(h:xF x=some i):∃k p,x=.Constant (.int i) k p:=by
 have q:=qd x;revert h;unfold xF;cases e:vw x <;> intro h <;> first |(rw[e] at q;cases h;exact uw _ _ q) |cases h
theorem Ng{x:Expr}{m:Expr×Str×Pos}(h:xJ x=some m):x=.Attribute m.1 m.2.1 m.2.2:=by
 have q:=qd x;revert h;unfold xJ;cases e:vw x <;> intro h <;> first |(rw[e] at q;cases h;exact q) |cases h
theorem OQ{led:aa}(h:Da v k=true):ds Γ.B v led (lO k):=by
 cases v with
 |str x=>obtain rfl:=Nat.eq_of_beq_eq_true h;exact my
 |lst x=>obtain rfl:=Nat.eq_of_beq_eq_true h;exact vr
 |_=>exact(XL h).elim
theorem QU(pos:Pos){args:List Expr}(h1:args.all lK=true)(h2:args.length<=25):((Zy pos (XV args Γ.e)).all (fun x => !x.1)&&(backToKw pos (keywordEach [] Γ.e)).all (fun x=>x.1.isSome)
   && decide (args.length+([]:List Keyword).length+(if ([]:List Keyword).isEmpty then 0 else 1)<30))=true:=by
 rw[mB pos h1];exact decide_eq_true (Nat.lt_of_le_of_lt h2 (by decide))
theorem Sy(g:C4 Γ){ih:D0->St->Prop}(hE:∀ {x:Expr} {K:AV->St->Prop} {st:St},ih (.e x K) st->T Γ.p Γ.w Γ.A Γ.B Γ.e Val (Yw x Γ.e) st K)
  (hA:∀ {pos:Pos} {x:List Expr} {K:List AV->St->Prop} {st:St},ih (.es pos x K) st->T Γ.p Γ.w Γ.A Γ.B Γ.e Vals (spliced (Zy pos (XV x Γ.e))) st K)
  {f:Expr} {args:List Expr}    {fb:Prop} (hf:fb->T Γ.p Γ.w Γ.A Γ.B Γ.e Val (Yw (.Call f args [] pos) Γ.e) st K) (h:zU Γ ih f args pos K st fb) :
  T Γ.p Γ.w Γ.A Γ.B Γ.e Val (Yw (.Call f args [] pos) Γ.e) st K :=
 ch h (fun h=>bE h (fun hb h=>by
  refine ak (Option.isSome_iff_exists.mp hb) fun n hn=>?_;refine ak (fL hn) fun p O2=>?_;subst O2;exact pA rfl ((hE h).up fun v s k=>bE k (fun hb k=>by
   rw[Yl] at hb;exact cp (mB _ hb.2) (OG g hb.1) ((hA k).up fun O O k=>k.out)) fun O=>f7.out)) fun O=>hf) fun m e1 h=>ch h hf fun t e2 h=>bE h (fun hb h=>by
  rw[Yl,Yl,Yl] at hb;refine av (xI e2) fun h1 h2=>?_;refine cB (g.meth t h1) fun q1 q2 q3=>?_;rw[Ng e1];rw[h2] at q2;refine ut (EF hb.2.2.2) (QU pos hb.2.1 (Yo hb.1)) (beq_iff_eq.mpr (Nat.eq_of_beq_eq_true hb.2.2.1)) q1 q2 q3 ((hE h).up fun v s k=>bE k (fun hs k=>⟨OQ hs,?_⟩) fun O k=>⟨k.1,?_⟩)
  ·exact cp (mB _ hb.2.1) gE ((hA k).up fun O O k=>k.out)
  ·exact cp (mB _ hb.2.1) gE ((hA k.2).up fun O O k=>k.out)) fun O=>hf
theorem HX(g:C4 Γ){ih:D0->St->Prop}(hE:∀ {x:Expr} {K:AV->St->Prop} {st:St},ih (.e x K) st->T Γ.p Γ.w Γ.A Γ.B Γ.e Val (Yw x Γ.e) st K)
  (hA:∀ {pos:Pos} {x:List Expr} {K:List AV->St->Prop} {st:St},ih (.es pos x K) st->T Γ.p Γ.w Γ.A Γ.B Γ.e Vals (spliced (Zy pos (XV x Γ.e))) st K)
  (hT:∀ {x:Expr} {K:Bool->St->Prop} {st:St},ih (.t x K) st->T Γ.p Γ.w Γ.A Γ.B Γ.e aH (isTrue x Γ.e (Yw x Γ.e)) st K) {x:Expr}   (h:AB Γ ih x K st):T Γ.p Γ.w Γ.A Γ.B Γ.e Val (Yw x Γ.e) st K:=by
 cases x with
 |Constant c k p=>cases c with
  |int i=>exact Fa h
  |str i=>exact EZ h
  |none=>exact Ud h
  |bool i=>exact Ui h
  |_=>exact f7.out h
 |Name x pos=>exact Nb g h
 |Tuple xs n pos=>exact ur ((hA h).up fun vs s k=>bE k (fun hb k=>⟨XQ (Yo hb) (by decide),k⟩) fun O k=>False.elim k)
 |BinOp l op r pos=>exact zb ((hE h).up fun v s k=>(hE k).up fun u s k=>SP k)
 |Compare l w0 rs pos =>
  exact ch h f7.out fun op e1 h=>ch h f7.out fun r e2 h=>by
   obtain rfl:=ka e1;obtain rfl:=ka e2;exact bE h (fun O=>f7.out) fun hb h=>Um ((hE h).up fun v s k=>(hE k).up fun u s k=>Eo k) hb
 |IfExp t a b pos=>exact Ul ((hT h).up fun c s k=>by cases c with |true=>exact hE k |false=>exact hE k)
 |UnaryOp o x pos=>cases o with
  |USub =>
   exact ch h f7.out fun i e h=>by
    refine gi (MZ e) fun k p O3=>?_;subst O3;exact Ue h
  |_=>exact f7.out h
 |Subscript v i pos=>exact bE h (fun hb h=>Uj (LZ hb) ((hE h).up fun v s k=>(hE k).up fun u s k=>HI k)) fun O=>f7.out
 |Attribute o n pos=>exact bE h (fun hb h=>Un (EF hb) ((hE h).up fun O O k=>k.out)) fun O=>f7.out
 |Call f args J6 pos =>
  refine bE h (fun hb h=>?_) fun O=>f7.out;obtain rfl:=List.isEmpty_iff.mp hb;exact Sy g hE hA f7.out h
 |_=>exact f7.out h
theorem Aa{x:Expr}{a:List Expr×Nat×Pos}(h:qf x=some a):x=.Tuple a.1 a.2.1 a.2.2:=by
 have q:=qd x;revert h;unfold qf;cases e:vw x <;> intro h <;> first |(rw[e] at q;cases h;exact q) |cases h
theorem sV(h:(!bX x y)=true):x≠y:=fun e=>by
 rw[tL.mpr e] at h;cases h
theorem vE{t e:Expr}(h:sT e=true):swapsWithSole [t] e n Γ.e=YV false:=yF h
theorem zW{vs:List Expr}(h:jV vs=true):vs.any tB=false/\vs.all (foldedForSure 8)=false/\vs.all (constantsAlone 8)=false:=by
 unfold jV at h;rw[Yl,Yl] at h;exact⟨Bool.not_eq_true' _ |>.mp h.1,Bool.not_eq_true' _ |>.mp h.2.1,Bool.not_eq_true' _ |>.mp h.2.2⟩
noncomputable def sW(d8:Env)(line:Nat):Expr->Option Str
 |.Name id pos=>if d8.kindOf id==some .local&&pos.line==line then some id else none
 |_=>none
theorem oR{p:Pos}{a:Nat}(hx:Γ.e.kindOf x=some .local)(e:p.line=a):sW Γ.e a (.Name x p)=some x :=
 if_pos (by rw[hx,e,beq_self_eq_true,beq_self_eq_true];rfl)
theorem xC{b:Bool}(h:b=false) : ¬ b=true:=fun e=>XL (h.symm.trans e)
theorem Am{ts vs:List Expr}{names:List Str}{n1 n2:Nat}{p1 p2:Pos}(h0 : ¬ (!(ts.length==2||ts.length==3)||vs.length != ts.length||Γ.e.blockKind != .function)=true)(h1:vs.any tB=false)
  (h2:vs.all (foldedForSure 8)=false) (h3:vs.all (constantsAlone 8)=false) (e:ts.filterMap (sW Γ.e ((ts.head?.map (·.pos.line)).getD 0))=names)
  (hn : ¬ (names.length != ts.length||names.eraseDups.length != names.length)=true):swappedStores [.Tuple ts n1 p1] (.Tuple vs n2 p2) Γ.e=YV (some names):=by
 subst e;exact(if_neg h0).trans ((if_neg (xC h1)).trans ((if_neg hn).trans ((if_neg (xC h2)).trans (if_neg (xC h3)))))
theorem RF(h:x≠y):[x,y].eraseDups.length=2:=by
 have e:(y==x)=false:=beq_eq_false_iff_ne.mpr h.symm;rw[List.eraseDups_cons,List.filter_cons,e];rfl
theorem RE{z:Str}(h:x≠y)(h2:x≠z)(h3:y≠z):[x,y,z].eraseDups.length=3:=by
 have e:(y==x)=false:=beq_eq_false_iff_ne.mpr h.symm;have e2:(z==x)=false:=beq_eq_false_iff_ne.mpr h2.symm;have e3:(z==y)=false:=beq_eq_false_iff_ne.mpr h3.symm;rw[List.eraseDups_cons,List.filter_cons,e,List.filter_cons,e2];show (x::[y,z].eraseDups).length=3;rw[List.eraseDups_cons,List.filter_cons,e3];rfl
theorem HE{px py p1 p2:Pos}{n1 n2:Nat}{vs:List Expr}(hb:Γ.e.blockKind=.function)(hx:Γ.e.kindOf x=some .local)(hy:Γ.e.kindOf y=some .local)(hl:px.line=py.line)(t0:x≠y)(j3:vs.length=2)
  (hp:jV vs=true):swappedStores [.Tuple [.Name x px,.Name y py] n1 p1] (.Tuple vs n2 p2) Γ.e=YV (some [x,y]):=by
 obtain⟨h1,h2,h3⟩:=zW hp;have e:[Expr.Name x px,.Name y py].filterMap (sW Γ.e px.line)=[x,y]:=by
  rw[List.filterMap_cons_some (oR hx rfl),List.filterMap_cons_some (oR hy hl.symm)];rfl
 exact Am (ts:=[.Name x px,.Name y py]) (by exact(Eq.symm (j3))▸(Eq.symm (hb))▸XL) h1 h2 h3 e (by exact(Eq.symm (RF t0))▸XL)
theorem HD{z:Str}{px py pz p1 p2:Pos}{n1 n2:Nat}{vs:List Expr}(hb:Γ.e.blockKind=.function)(hx:Γ.e.kindOf x=some .local)(hy:Γ.e.kindOf y=some .local)(hz:Γ.e.kindOf z=some .local)(hl:px.line=py.line)(b_:px.line=pz.line)(t0:x≠y)(hne2:x≠z)(hne3:y≠z)(j3:vs.length=3)
  (hp:jV vs=true):swappedStores [.Tuple [.Name x px,.Name y py,.Name z pz] n1 p1] (.Tuple vs n2 p2) Γ.e=YV (some [x,y,z]):=by
 obtain⟨h1,h2,h3⟩:=zW hp;have e:[Expr.Name x px,.Name y py,.Name z pz].filterMap (sW Γ.e px.line)=[x,y,z]:=by
  rw[List.filterMap_cons_some (oR hx rfl),List.filterMap_cons_some (oR hy hl.symm),List.filterMap_cons_some (oR hz b_.symm)];rfl
 exact Am (ts:=[.Name x px,.Name y py,.Name z pz]) (by exact(Eq.symm (j3))▸(Eq.symm (hb))▸XL) h1 h2 h3 e (by exact(Eq.symm (RE t0 hne2 hne3))▸XL)
theorem mF(h:(lk x l).isSome=true):(lk x (sk y v l)).isSome=true:=by
 rw[iY,vH,tn];rw[iY] at h;split
 ·rfl
 ·exact h
theorem DK{t:Expr}{ts:List Expr}(h:((t::ts).filterMap bO).length=(t::ts).length):∃x p,t=.Name x p/\(ts.filterMap bO).length=ts.length/\(t::ts).filterMap bO=x::ts.filterMap bO:=by
 cases e:bO t with
 |none =>
  rw[List.filterMap_cons_none e,WU] at h
  have:=List.length_filterMap_le bO ts;omega
 |some x =>
  refine ak (fL e) fun p O2=>?_;subst O2;rw[List.filterMap_cons_some e] at h ⊢;exact uv x p rfl (by simpa using h) rfl
theorem EG:∀(ts:List Expr),(ts.filterMap bO).length=ts.length->((YN ts d8).map (·.2)=ts.map (fun e=>YE e d8)/\(YN ts d8).findIdx? (·.1)=none)/\True
 | [],_=>⟨⟨rfl,rfl⟩,trivial⟩
 |t::ts,h=>by
  refine br (DK h) fun x p O3 h2 O=>?_;subst O3;refine av (EG ts h2) fun O1 O=>?_;obtain⟨i1,i2⟩:=O1;refine⟨⟨?_,?_⟩,trivial⟩
  ·show YE (.Name x p) d8::(YN ts d8).map (·.2)=_;rw[i1];rfl
  ·show ((false,YE (.Name x p) d8)::YN ts d8).findIdx? (·.1)=none;rw[List.findIdx?_cons,i2];rfl
theorem cz:∀(ts:List Expr),(ts.filterMap bO).length=ts.length->∀(us:List AV) (s:St),ts.length=us.length->((ts.filterMap bO).all fun x=>(lk x s.loc).isSome)=true->∀ {K:St->Prop},K ⟨AF (ts.filterMap bO) us s.loc,s.led⟩->FT d7 w A B d8 ts us s fun O s=>K s:=by
 intro t_;induction t_ with
 |nil =>
  intro _ us s e _ K k;cases us with
  |nil=>exact Vd k
  |cons _ _=>cases e
 |cons t ts ih =>
  intro h us s e hl K k;refine br (DK h) fun x p O3 h2 h3=>?_;subst O3;rw[h3] at hl k;cases us with
  |nil=>cases e
  |cons u us =>
   rw[List.all_cons,Yl] at hl;refine Ve (bp (aR (K:=fun s=>FT d7 w A B d8 ts us s fun O s=>K s) hl.1 (ih h2 us _ (Nat.succ.inj e) ?_ k)));rw[XF] at hl ⊢;exact fun y hy=>mF (hl.2 y hy)
theorem mA{xs:List (Value->Sem Unit)}{vs:List AV}{K:g6->St->Prop}(hb:(lk x st.loc).isSome=true)(h:FA d7 w A B d8 xs vs ⟨sk x v st.loc,st.led⟩ fun O s=>K .next s) :
  FA d7 w A B d8 (bindName d8 x::xs) (v::vs) st fun O s=>K .next s:=FJ (Wy (aR (K:=fun s=>FA d7 w A B d8 xs vs s fun O s=>K .next s) hb h))
theorem oW(S:g8 B d8 s Z st)(h:(lk x st.loc).isSome=true):d8.kindOf x=some .local:=by
 obtain⟨u,hu⟩:=Option.isSome_iff_exists.mp h;exact S.kinds x u (by rw[← iY];exact hu)
theorem HH(g:C4 Γ){ih:D0->St->Prop}
  (hA:∀ {pos:Pos} {x:List Expr} {K:List AV->St->Prop} {st:St},ih (.es pos x K) st->T Γ.p Γ.w Γ.A Γ.B Γ.e Vals (spliced (Zy pos (XV x Γ.e))) st K)
  {t1 t2:Expr} {vs:List Expr} {n1 n2:Nat} {p1 p2:Pos} {K:g6->St->Prop}  {fb:Prop} (hf:fb->T Γ.p Γ.w Γ.A Γ.B Γ.e j5 (exec (.Assign [.Tuple [t1,t2] n1 p1] (.Tuple vs n2 p2) pos) Γ.e) st K)
  (h:Ap ih t1 t2 p2 vs K st fb):T Γ.p Γ.w Γ.A Γ.B Γ.e j5 (exec (.Assign [.Tuple [t1,t2] n1 p1] (.Tuple vs n2 p2) pos) Γ.e) st K :=
 ch h hf fun x e1 h=>ch h hf fun y e2 h=>bE h (fun hb h9=>(fL e1).elim fun px e1=>(fL e2).elim fun py e2=>by
  subst e1;subst e2;simp only[Yl] at hb;refine zC hb fun b1 b2 b4 b5 b6 b7=>?_;clear hb;exact fun s Z S=>EW g.hh (vE rfl) (HE g.blk (oW S b6) (oW S b7) (Nat.eq_of_beq_eq_true b4) (sV b5) (Nat.eq_of_beq_eq_true b1) b2) (ur ((hA h9).up fun us s k=>zZ k False.elim fun u v e k=>by
   subst e;exact⟨(by decide:2<=XK),_,rfl,rfl,bE k (fun hb k=>by
    rw[Yl] at hb;exact mA hb.2 (mA (mF hb.1) (zu k))) fun O k=>False.elim k⟩)) s Z S) fun O=>hf
theorem HG(g:C4 Γ){ih:D0->St->Prop}
  (hA:∀ {pos:Pos} {x:List Expr} {K:List AV->St->Prop} {st:St},ih (.es pos x K) st->T Γ.p Γ.w Γ.A Γ.B Γ.e Vals (spliced (Zy pos (XV x Γ.e))) st K)
  {t1 t2 t3:Expr} {vs:List Expr} {n1 n2:Nat} {p1 p2:Pos} {K:g6->St->Prop}  {fb:Prop} (hf:fb->T Γ.p Γ.w Γ.A Γ.B Γ.e j5 (exec (.Assign [.Tuple [t1,t2,t3] n1 p1] (.Tuple vs n2 p2) pos) Γ.e) st K)
  (h:Ao ih t1 t2 t3 p2 vs K st fb):T Γ.p Γ.w Γ.A Γ.B Γ.e j5 (exec (.Assign [.Tuple [t1,t2,t3] n1 p1] (.Tuple vs n2 p2) pos) Γ.e) st K :=
 ch h hf fun x e1 h=>ch h hf fun y e2 h=>ch h hf fun z e3 h=>bE h (fun hb h9=>(fL e1).elim fun px e1=>(fL e2).elim fun py e2=>(fL e3).elim fun pz e3=>by
  subst e1;subst e2;subst e3;simp only[Yl] at hb;refine WG hb fun b1 b2 b4 b4' b5 b5' b5'' b6 b7 b8=>?_;clear hb;exact fun s Z S=>EW g.hh (vE rfl) (HD g.blk (oW S b6) (oW S b7) (oW S b8) (Nat.eq_of_beq_eq_true b4) (Nat.eq_of_beq_eq_true b4') (sV b5) (sV b5') (sV b5'') (Nat.eq_of_beq_eq_true b1) b2) (ur ((hA h9).up fun us s k=>Aj k False.elim fun u v r e k=>by
   subst e;exact⟨(by decide:3<=XK),_,rfl,rfl,bE k (fun hb k=>by
    rw[Yl,Yl] at hb;exact mA hb.2.2 (mA (mF hb.2.1) (mA (mF (mF hb.1)) (zu k)))) fun O k=>False.elim k⟩)) s Z S) fun O=>hf
theorem MT{ts vs:List Expr}{n1 n2:Nat}{p1 p2:Pos}(h:4<=ts.length):swappedStores [.Tuple ts n1 p1] (.Tuple vs n2 p2) Γ.e=YV none:=by
 have e2:(ts.length==2)=false:=by rw[beq_eq_false_iff_ne];omega
 have e3:(ts.length==3)=false:=by rw[beq_eq_false_iff_ne];omega
 exact if_pos (by rw[e2,e3];rfl)
theorem HF(g:C4 Γ){ih:D0->St->Prop}
  (hA:∀ {pos:Pos} {x:List Expr} {K:List AV->St->Prop} {st:St},ih (.es pos x K) st->T Γ.p Γ.w Γ.A Γ.B Γ.e Vals (spliced (Zy pos (XV x Γ.e))) st K)
  {ts vs:List Expr} {n1 n2:Nat} {p1 p2:Pos} {K:g6->St->Prop}  {fb:Prop} (hf:fb->T Γ.p Γ.w Γ.A Γ.B Γ.e j5 (exec (.Assign [.Tuple ts n1 p1] (.Tuple vs n2 p2) pos) Γ.e) st K)
  (h:An ih ts p2 vs K st fb):T Γ.p Γ.w Γ.A Γ.B Γ.e j5 (exec (.Assign [.Tuple ts n1 p1] (.Tuple vs n2 p2) pos) Γ.e) st K :=
 zZ h (fun h=>Aj h (fun h=>bE h (fun hb h9=>by
  rw[Yl] at hb;refine cX (vE rfl) (MT (Yo hb.1)) rfl (ur ((hA h9).up fun us s k=>bE k (fun z_ k=>?_) fun O k=>False.elim k));rw[Yl,Yl] at z_;have q:=(EG (d8:=Γ.e) ts (Nat.eq_of_beq_eq_true hb.2)).1;exact⟨XQ (Yo z_.1) (by decide),dv g.hh q.1 (Nat.eq_of_beq_eq_true z_.2.1).symm q.2 (cz ts (Nat.eq_of_beq_eq_true hb.2) us s (Nat.eq_of_beq_eq_true z_.2.1).symm z_.2.2 k)⟩) fun O=>hf) fun t1 t2 t3 e h=>by subst e;exact HG g hA hf h) fun t1 t2 e h=>by subst e;exact HH g hA hf h
theorem HU(g:C4 Γ){ih:D0->St->Prop}(hE:∀ {x:Expr} {K:AV->St->Prop} {st:St},ih (.e x K) st->T Γ.p Γ.w Γ.A Γ.B Γ.e Val (Yw x Γ.e) st K)
  (hT:∀ {x:Expr} {K:Bool->St->Prop} {st:St},ih (.t x K) st->T Γ.p Γ.w Γ.A Γ.B Γ.e aH (isTrue x Γ.e (Yw x Γ.e)) st K)
  (hL:∀ {x:List Stmt} {K:g6->St->Prop} {st:St},ih (.ss x K) st->T Γ.p Γ.w Γ.A Γ.B Γ.e j5 (execs x Γ.e) st K)
  (hA:∀ {pos:Pos} {x:List Expr} {K:List AV->St->Prop} {st:St},ih (.es pos x K) st->T Γ.p Γ.w Γ.A Γ.B Γ.e Vals (spliced (Zy pos (XV x Γ.e))) st K) {x:Stmt} {K:g6->St->Prop}  (h:AA Γ ih x K st):T Γ.p Γ.w Γ.A Γ.B Γ.e j5 (exec x Γ.e) st K:=by
 cases x with
 |If t a b pos=>exact mf ((hT h).up fun c s k=>by cases c with |true=>exact hL k |false=>exact hL k)
 |Return e pos=>cases e with
  |none=>exact TO h
  |some e=>exact TQ (hE h)
 |Pass pos=>exact TR h
 |Break pos=>exact TW h
 |Continue pos=>exact EV h
 |Expr e pos=>exact bE h (fun hb h=>TT g.act (yF hb) (hE h)) fun O=>f7.out
 |Assign ts e pos =>
  exact ch h f7.out fun t e1 h=>ch h (fun h=>ch h f7.out fun a e2 h=>ch h f7.out fun b e3 h=>by
   obtain rfl:=ka e1;rw[Aa e2,Aa e3] at h ⊢;exact HF g hA f7.out h) fun x e2 h=>by
   obtain rfl:=ka e1;refine ak (fL e2) fun p O2=>?_;subst O2;refine bE h (fun hb h=>?_) fun O=>f7.out;rw[Yl] at hb;exact gI ((hE h).up fun v s k=>bE k (fun hb k=>aR hb k) fun O k=>False.elim k) (yF hb.1)
 |AugAssign t op e pos =>
  exact ch h f7.out fun x e1 h=>ch h f7.out fun v e2 h=>by
   refine ak (fL e1) fun p O2=>?_;subst O2;refine bE h (fun hb h=>?_) fun O=>f7.out;refine TX (v₀:=v) (by rw[← iY];exact e2) (by cases v <;> first |rfl |cases hb) ((hE h).up fun u s k=>(Pc k).up2 fun r s k=>?_);exact bE k (fun hb k=>aR hb k) fun O k=>False.elim k
 |_=>exact f7.out h
theorem HN(g:C4 Γ){ih:D0->St->Prop}(hi:∀c st,ih c st->qp Γ c st)(c:D0)(st:St)(h:step Γ ih c st):qp Γ c st:=by
 have hE:∀ {x:Expr} {K:AV->St->Prop} {st:St},ih (.e x K) st->T Γ.p Γ.w Γ.A Γ.B Γ.e Val (Yw x Γ.e) st K:=fun h=>(hi _ _ h).out;have hA:∀ {pos:Pos} {x:List Expr} {K:List AV->St->Prop} {st:St},ih (.es pos x K) st->T Γ.p Γ.w Γ.A Γ.B Γ.e Vals (spliced (Zy pos (XV x Γ.e))) st K:=fun h=>(hi _ _ h).out;have hT:∀ {x:Expr} {K:Bool->St->Prop} {st:St},ih (.t x K) st->T Γ.p Γ.w Γ.A Γ.B Γ.e aH (isTrue x Γ.e (Yw x Γ.e)) st K:=fun h=>(hi _ _ h).out;have hO:∀ {op:BoolOp} {x:List Expr} {K:Bool->St->Prop} {st:St},ih (.ts op x K) st->T Γ.p Γ.w Γ.A Γ.B Γ.e aH (allTrue op x Γ.e) st K:=fun h=>(hi _ _ h).out;have hS:∀ {x:Stmt} {K:g6->St->Prop} {st:St},ih (.s x K) st->T Γ.p Γ.w Γ.A Γ.B Γ.e j5 (exec x Γ.e) st K:=fun h=>(hi _ _ h).out;have hL:∀ {x:List Stmt} {K:g6->St->Prop} {st:St},ih (.ss x K) st->T Γ.p Γ.w Γ.A Γ.B Γ.e j5 (execs x Γ.e) st K:=fun h=>(hi _ _ h).out;cases c with
 |e x K=>exact f7.mk (HX g hE hA hT h)
 |es pos xs K =>
  cases xs with
  |nil=>exact f7.mk (pC h)
  |cons x xs=>exact bE h (fun hb h=>f7.mk (Fj (Az hb) ((hE h).up fun v s k=>hA k))) fun O h=>h
 |t x K =>
  refine f7.mk ?_;cases x with
  |UnaryOp o x pos=>cases o with
   |Not=>exact Uz (hT h)
   |_=>exact f7.out h
  |BoolOp op xs pos=>exact UB (hO h)
  |Compare l w0 rs pos =>
   exact ch h f7.out fun op e1 h=>ch h f7.out fun r e2 h=>by
    obtain rfl:=ka e1;obtain rfl:=ka e2;exact bE h (fun O=>f7.out) fun hb h=>UA ((hE h).up fun v s k=>(hE k).up fun u s k=>(Eo k).up2 fun c s k=>vu k) hb
  |Name x pos=>exact pB ((hE h).up fun v s k=>vu k)
  |Call f args J6 pos=>exact pB ((hE h).up fun v s k=>vu k)
  |_=>exact f7.out h
 |ts op xs K =>
  refine f7.mk ?_;cases xs with
  |nil=>cases op with
   |And=>exact UC h
   |Or=>exact Ux h
  |cons x xs=>cases op with
   |And=>exact UD ((hT h).up fun c s k=>by cases c with |true=>exact hO k |false=>exact k)
   |Or=>exact Uy ((hT h).up fun c s k=>by cases c with |true=>exact k |false=>exact hO k)
 |s x K=>exact f7.mk (HU g hE hT hL hA h)
 |ss xs K =>
  refine f7.mk ?_;cases xs with
  |nil=>exact cK h
  |cons x xs=>exact aC ((hS h).up fun f s k=>by cases f with |next=>exact hL k |_=>exact k)
theorem jv(g:C4 Γ):∀(n:Nat) (c:D0) (st:St),wp Γ n c st->qp Γ c st
 |0,c,st,h=>h
 |n+1,c,st,h=>HN g (jv g n) c st h
theorem bv{F:List XC}{M:List w9}(g:C4 ⟨d7,w,A,B,d8,G,F,M⟩)(n:Nat){xs:List Stmt}{K:g6->St->Prop}(h:wp ⟨d7,w,A,B,d8,G,F,M⟩ n (.ss xs K) st):T d7 w A B d8 j5 (execs xs d8) st K:=(jv g n _ _ h).out
theorem aD{F:List XC}{M:List w9}(g:C4 ⟨d7,w,A,B,d8,G,F,M⟩)(n:Nat){x:Stmt}{K:g6->St->Prop}(h:wp ⟨d7,w,A,B,d8,G,F,M⟩ n (.s x K) st):T d7 w A B d8 j5 (exec x d8) st K:=(jv g n _ _ h).out
theorem bD{F:List XC}{M:List w9}(g:C4 ⟨d7,w,A,B,d8,G,F,M⟩)(n:Nat){xs:List Expr}{K:List AV->St->Prop}(h:wp ⟨d7,w,A,B,d8,G,F,M⟩ n (.es pos xs K) st):T d7 w A B d8 Vals (spliced (Zy pos (XV xs d8))) st K:=(jv g n _ _ h).out
theorem ae{F:List XC}{M:List w9}(g:C4 ⟨d7,w,A,B,d8,G,F,M⟩)(n:Nat){x:Expr}(h:wp ⟨d7,w,A,B,d8,G,F,M⟩ n (.e x K) st):T d7 w A B d8 Val (Yw x d8) st K:=(jv g n _ _ h).out
theorem bZ{F:List XC}{M:List w9}(g:C4 ⟨d7,w,A,B,d8,G,F,M⟩)(n:Nat){x:Expr}{K:Bool->St->Prop}(h:wp ⟨d7,w,A,B,d8,G,F,M⟩ n (.t x K) st):T d7 w A B d8 aH (isTrue x d8 (Yw x d8)) st K:=(jv g n _ _ h).out
end
theorem bh{p:Prop}[Decidable p]{Q:Prop}(h1:p->P)(h2 : ¬ p->Q):pk (decide p) P Q:=cE (fun h=>h1 (of_decide_eq_true h)) fun h=>h2 (of_decide_eq_false h)
theorem Ma{Q:Prop}(h:P):pk true P Q:=h
theorem jW{Q:Prop}(h:Q):pk false P Q:=h
theorem jX{a b:Int}{Q:Prop}(h1:a=b->P)(h2:a≠b->Q):pk (a==b) P Q:=cE (fun h=>h1 (beq_iff_eq.mp h)) fun h=>h2 (beq_eq_false_iff_ne.mp h)
theorem qL{a b:Int}{Q:Prop}(h1:a≠b->P)(h2:a=b->Q):pk (a != b) P Q:=cE (fun h=>h1 (bne_iff_ne.mp h)) fun h=>h2 (bne_eq_false_iff_eq.mp h)
theorem BY{i:Int}{Q:Prop}(h1:i=0->P)(h2:i≠0->Q):pk (!(i != 0)) P Q:=by
 by_cases h:i=0
 ·subst h;exact h1 rfl
 ·exact(Eq.symm (bne_iff_ne.mpr h))▸h2 h
section
variable{K:Frag}{fd:a8}{x1 x2 x3 x4 x5 x6 x7 x8 x9:AV}
theorem Binds.of1(h:∀Z v1,Val Z x1 v1->∃bs,XW K ⟨d7,w.params⟩ (bindArgs fd ⟨[v1],[]⟩)=some bs/\j4 Z binds bs):Binds d7 w A (am K) fd [x1] [] binds :=
 Binds.pk fun Z=>Vals.un fun v1 h1=>Vals.un0 (h Z v1 h1)
theorem Binds.of4(h:∀Z v1 v2 v3 v4,Val Z x1 v1->Val Z x2 v2->Val Z x3 v3->Val Z x4 v4->∃bs,XW K ⟨d7,w.params⟩ (bindArgs fd ⟨[v1,v2,v3,v4],[]⟩)=some bs/\j4 Z binds bs):Binds d7 w A (am K) fd [x1,x2,x3,x4] [] binds :=
 Binds.pk fun Z=>Vals.un fun v1 h1=>Vals.un fun v2 h2=>Vals.un fun v3 h3=>Vals.un fun v4 h4=>Vals.un0 (h Z v1 v2 v3 v4 h1 h2 h3 h4)
end
theorem CX{b:Bool}{Q:Prop}(h1:b=true->P)(h2:b=false->Q):if b=true then P else Q:=by
 cases b with
 |true=>exact h1 rfl
 |false=>exact h2 rfl
theorem Nx.id:Nx (fun P=>P st) .next st:=⟨rfl,st,n0.self _,fun O y=>y⟩
def JL(loc:Int->Int->Int->List (Str×AV))(m0:aa)(X:Int->Int->Int->Nat->Prop)(n:Nat)(P:St->Prop):Prop:=∀ti tj tk,X ti tj tk n->P ⟨loc ti tj tk,m0⟩
theorem JL.mk{loc:Int->Int->Int->List (Str×AV)}{m0:aa}{X:Int->Int->Int->Nat->Prop}{ti tj tk:Int}(h:X ti tj tk n):Lw (JL loc m0 X) n ⟨loc ti tj tk,m0⟩:=⟨_,n0.self _,fun O y=>y _ _ _ h⟩
def KL(loc:Int->Int->Int->List (Str×AV))(m0:aa)(X:Int->Int->Int->Prop)(P:St->Prop):Prop:=∀ti tj tk,X ti tj tk->P ⟨loc ti tj tk,m0⟩
theorem KL.mk{loc:Int->Int->Int->List (Str×AV)}{m0:aa}{X:Int->Int->Int->Prop}{ti tj tk:Int}(h:X ti tj tk):Nx (KL loc m0 X) .next ⟨loc ti tj tk,m0⟩:=⟨rfl,_,n0.self _,fun O y=>y _ _ _ h⟩
theorem T.joinW{t:Sem Flow}{K:g6->St->Prop}(Y:(St->Prop)->Prop)(h:T d7 w A B d8 j5 t st (Nx Y))(k:Y fun e9=>∃l',E8 e9.led l'/\K .next ⟨e9.loc,l'⟩):T d7 w A B d8 j5 t st K :=
 T.weakPost (T.join (K:=fun f e9=>∃l',E8 e9.led l'/\K f ⟨e9.loc,l'⟩) Y h k) fun O O O h=>h
theorem VH{knd:d5 d7 w Int}{m:List (Int×AV)}{dflt u:AV}{k:Int}(y7:(d==Ze)=false)(hk:∀Z x,Val Z v x->knd.is k x=true)(hm:(d,au knd m)∈st.led)
  (e:(aI m k).getD dflt=u) (h:R u st):FC d7 w A B d8 (.bm "dict.get" (.ref d)) [v,dflt] [] st R:=VJ y7 hk hm (e.symm▸h)
theorem Vv{m:List (Str×AV)}{dflt u:AV}{k:Str}(y7:(d==Ze)=false)(hk:∀Z x,Val Z v x->(XA d7 w).is k x=true)(hm:(d,au (XA d7 w) m)∈st.led)
  (e:(aI m k).getD dflt=u) (h:R u st):FC d7 w A B d8 (.blt "dict.get") [.ref d,v,dflt] [] st R:=Vx y7 hk hm (e.symm▸h)
theorem Vq{led led':aa}(e:ys=xs++[v])(U:Upd a (.list ys) (.list xs) led led')(hsz:xs.length<XK)(h:K v ⟨loc,led'⟩) :
  FC d7 w A B d8 (.blt "list.pop") [.ref a] [] ⟨loc,led⟩ K:=by subst e;exact Vr hsz U h
theorem FI{led led':aa}(e:xs++[v]=ys)(U:Upd a (.list xs) (.list ys) led led')(hsz:xs.length<=XK)(h:K .none ⟨loc,led'⟩) :
  FC d7 w A B d8 (.blt "list.append") [.ref a,v] [] ⟨loc,led⟩ K:=by subst e;exact zt hsz U h
theorem pv(f:α->AV){px:Pos}(Y:List α->(St->Prop)->Prop){K:g6->St->Prop}(hA:g7 A k)
  (p8:T d7 w A B d8 Val (Yw iter d8) st fun v j9=>F1 d7 w A B d8 Val pyIter v j9 (π d7 w B [] k (.Name x px) (Lo f Y)))
  (step:∀gl a as,Y (a::as) fun e9=>(lk x e9.loc).isSome=true/\T d7 w A B d8 j5 (execs body d8) ⟨sk x (f a) e9.loc,e9.led++gl⟩ (G2 (Lo f Y) K (as.map f) gl))
  (done:Y [] (K .next)) (hs:∀x,ZI iter d8 x=YV x) :
  T d7 w A B d8 j5 (exec (.For (.Name x px) iter body [] pos) d8) st K:=uo f Y (fun O O O O h=>bp (aR h.1 h.2)) hA p8 step (fun O O O => .nil) done hs
theorem cY{f:AV}{led o8:aa}{v0:AV}(h:TC d7 w A B f args kw led fun v l=>l=o8/\v=v0)(k:K v0 ⟨loc,o8⟩):FC d7 w A B d8 f args kw ⟨loc,led⟩ K :=
 fy h fun v l q=>q.1.symm▸q.2.symm▸k
theorem pH{f:AV}{led o8:aa}{v0:AV}(h:TC d7 w A B f args kw led fun v l=>v=v0/\l=o8)(k:K v0 ⟨loc,o8⟩):FC d7 w A B d8 f args kw ⟨loc,led⟩ K :=
 cY (h.mono fun O O q=>q.symm) k
theorem T.bool{p:Prop}{t:Sem Bool}{K:Bool->St->Prop}(h:T d7 w A B d8 aH t st fun b s=>s=st/\(b=true↔p))(h1:p->K true st)(h2 : ¬ p->K false st):T d7 w A B d8 aH t st K :=
 h.mono fun b s k=>by
  refine av k ?_;clear k;intro O1 k;subst O1;cases b with
  |true=>exact h1 (k.mp rfl)
  |false=>exact h2 fun q=>Bool.noConfusion (k.mpr q)

theorem gk(w:Xo)(A:Xg)(fd:a8)(L f c:XC)(h3:interactive (ba fd L f c)=false)(h4:(ba fd L f c).blockKind=.function)(hh:A.handled=none):C4 ⟨af,w,A,aj w,ba fd L f c,[],[],[]⟩:=dX rfl rfl h3 h4 hh
theorem jY:PlainAttrs "str" := F.plainAttrs_str
theorem qo:Slot "str" Lz "str.format" := by
 rw[show (Lz:Str)=WR "format" from by decide +kernel];exact F.slot_str_format_m
theorem SO{a b r1 r2 r3 r4 r5:AV} :
  Binds af w A (aj w) (az (eJ w.params)) [a,b,r1,r2,r3,r4,r5] [] [(di,a),(cZ,b),(BE,.tup [r1,r2,r3,r4,r5])]:=fun s Z led xs ks S hx hk Q E hQ =>
 j4.un0 (P:=fun ks=>Xq (Xn af w) A (bindArgs (az (eJ w.params)) ⟨xs,ks⟩) Q E s) (Vals.un (P:=fun xs=>Xq (Xn af w) A (bindArgs (az (eJ w.params)) ⟨xs,[]⟩) Q E s) (fun x1 h1=>Vals.un fun x2 h2 xr hr=>by
  rw[R0.out hr (fun l=>bindArgs (az (eJ w.params)) ⟨x1::x2::l,[]⟩) (fun l=>newTuple l>>=fun t=>YV [(di,x1),(cZ,x2),(BE,t)]) fun O O O O O=>@_];have P:=S.pushZ (o:={ cls:=.type "tuple",data:=.seq xr.toArray}) rfl s.toks;exact WL (wpAny_newTuple (WN (hQ _ _ _ P.1 (.cons (h1.mono P.2.le) (.cons (h2.mono P.2.le) (.cons (.tup (f9.add_at ..) (hr.mono P.2.le)) .nil))) P.2)) (by rw[hr.length];exact(by decide:5<=XK)))) xs hx) ks hk
theorem yT{m9:Expr}{m7:List Stmt}{K:g6->St->Prop}
  (h:T d7 w A B d8 aH (isTrue m9 d8 (Yw m9 d8)) st fun b e9=>b=false/\e9=st) (h2:T d7 w A B d8 j5 (execs m7 d8) st K):T d7 w A B d8 j5 (exec (.If m9 body m7 pos) d8) st K :=
 mf (h.mono fun b e9 k=>by refine av k fun O1 O2=>?_;clear k;subst O1;subst O2;simpa using h2)
theorem DN{a:List Str}(c:(!(a.map AV.str).isEmpty)=true):∃x,(a.map AV.str)[(0:Int).toNat]?=some (.str x):=by
 cases a with
 |nil=>cases c
 |cons x xs=>exact⟨x,rfl⟩
noncomputable abbrev Of(a b:List Str)(r v:AV):List (Str×AV):=[(BE,r),(cZ,.lst (b.map .str)),(di,.lst (a.map .str)),(BC,v)]
theorem Ew{a b:List Str}{r1 r2 r3 r4 r5:Str}{led:aa}(hA:g7 A 20)(ha:a.length<10^6)(hb:b.length<10^6) :
  TC af w A (aj w) (.ref 283) [.lst (a.map .str),.lst (b.map .str),.str r1,.str r2,.str r3,.str r4,.str r5] [] led fun v led'=>led'=led/\v=.none:=by
 refine zd (bG w) (Qq _) hA.lt SO @_ fun L hL=>?_;have f8:=hA.deeper (k:=17) (d8:=ba (az (eJ w.params)) L 283 282);have hG:=((gk w (A.deeper _) (az (eJ w.params)) L 283 282 @_ @_ f8.h).g (Du w) @_ @_).g (PJ w) @_ @_;simp only[Xw,XG,Xe,WZ];refine T.spare BC @_ ?_;simp only[WZ,Xe];refine aC (yT (bZ hG 20 (f7.mk (pL .frz (by rw[WP];omega) (cE (fun c=>(DN c).elim fun x hx=>?_) fun c=>⟨rfl,rfl⟩)))) (cK ?_))
 ·exact f7.mk (fA .frz (by decide) (by decide) hx (f7.mk (uB F.isi_meta_str F.isi_self_str my ⟨rfl,rfl⟩)))
 refine aC (yT (bZ hG 20 (f7.mk (pL .frz (by rw[WP];omega) (cE (fun c=>(DN c).elim fun x hx=>?_) fun c=>⟨rfl,rfl⟩)))) (cK ?_))
 ·exact f7.mk (fA .frz (by decide) (by decide) hx (f7.mk (uB F.isi_meta_str F.isi_self_str my ⟨rfl,rfl⟩)))
 refine aC (pv (k:=5) AV.str (fun O P=>P ⟨Of a b (.tup [.str r1,.str r2,.str r3,.str r4,.str r5]) .any,led⟩) (f8.mono ⋯) (ae hG 20 (FU fun it gl h => .mk h (.mk (gs:=[r1,r2,r3,r4,r5]) (fun O y=>y) @_))) ?_ (cK ⟨rfl,rfl⟩) fun O=>@_);exact fun gl y ys=>⟨rfl,aC (yT (bZ hG 20 (f7.mk (uB F.isi_meta_str F.isi_self_str my ⟨rfl,rfl⟩))) (cK (cK (.next (l:=led) (.mk (fun O y=>y) @_)))))⟩
noncomputable def bz(a b:Int):Str:=if b-a=0 then WR (ZY a) else if b-a=1 then WR (ZY (a+1)) else WR (ZY (a+1))++WR "," ++ WR (ZY b)
noncomputable def bx(a b:Int):Str:=if b-a=1 then WR (ZY (a+1)) else if b-a=0 then WR (ZY a)++WR "," ++ WR (ZY (0:Int)) else WR (ZY (a+1))++WR "," ++ WR (ZY (b-a))
section
variable{a b:Int}
theorem Ju(h:b-a=0):AV.str (WR (ZY (a+1-1)))=.str (bz a b):=by
 unfold bz;rw[if_pos h,Int.add_sub_cancel]
theorem Jt(h:b-a≠0)(h':b-a<=1)(f_:a<=b):AV.str (WR (ZY (a+1)))=.str (bz a b):=by
 unfold bz;rw[if_neg h,if_pos (show b-a=1 by omega)]
theorem Js(h:b-a≠0)(h' : ¬ b-a<=1):AV.str (WR (ZY (a+1))++WR "," ++ WR (ZY (a+1+(b-a)-1)))=.str (bz a b):=by
 unfold bz;rw[if_neg h,if_neg ⋯,show a+1+(b-a)-1=b by omega]
theorem Jr(h:b-a=0):AV.str (WR (ZY (a+1-1))++WR "," ++ WR (ZY (b-a)))=.str (bx a b):=by
 unfold bx;rw[if_neg ⋯,if_pos h,Int.add_sub_cancel,h]
theorem Jq(h:b-a=1):AV.str (WR (ZY (a+1)))=.str (bx a b):=by
 unfold bx;rw[if_pos h]
theorem Jp(h:b-a≠0)(h':b-a≠1):AV.str (WR (ZY (a+1))++WR "," ++ WR (ZY (b-a)))=.str (bx a b):=by
 unfold bx;rw[if_neg h',if_neg h]
end
section
variable{a b:Int}{led:aa}(hA:g7 A 10)(ha:0<=a)(f_:a<=b)(hb:b<10^9)
include hA ha f_ hb
theorem AX:TC af w A (aj w) (.ref 268) [.int a,.int b] [] led fun v led'=>led'=led/\v=.str (bz a b):=by
 refine dD [(wo,.int b),(wq,.int a),(wn,.any),(qB,.any)] (bG w) hA.lt (fun O O=>@_) @_ @_ (Qr _) fun L hL=>?_;have hG:=(gk w (A.deeper (ba (az (iF w.params)) L 268 267)) (az (iF w.params)) L 268 267 @_ @_ hA.h).m ⟨Lz,0, "str.format"⟩ jY qo F.type_str_format_m;refine bv hG 60 (BY (fun c=>bh (fun O=>?_) fun q=>?_) fun c=>bh (fun q=>?_) fun q=>?_)
 ·exact f7.mk (zr ⋯ ⋯ ⟨rfl,Ju c⟩)
 ·exact absurd (c▸by decide) q
 ·exact f7.mk (zr ⋯ ⋯ ⟨rfl,Jt c q f_⟩)
 ·exact f7.mk (zq ⋯ ⋯ ⋯ ⋯ ⟨rfl,Js c q⟩)
theorem AW:TC af w A (aj w) (.ref 253) [.int a,.int b] [] led fun v led'=>led'=led/\v=.str (bx a b):=by
 refine dD [(wo,.int b),(wq,.int a),(wn,.any),(qB,.any)] (bG w) hA.lt (fun O O=>@_) @_ @_ (Qs _) fun L hL=>?_;have hG:=(gk w (A.deeper (ba (az (iG w.params)) L 253 252)) (az (iG w.params)) L 253 252 @_ @_ hA.h).m ⟨Lz,0, "str.format"⟩ jY qo F.type_str_format_m;refine bv hG 60 (jX (fun c=>?_) fun c=>BY (fun q=>?_) fun q=>?_)
 ·exact f7.mk (zr ⋯ ⋯ ⟨rfl,Jq c⟩)
 ·exact f7.mk (zq ⋯ ⋯ ⋯ ⋯ ⟨rfl,Jr q⟩)
 ·exact f7.mk (zq ⋯ ⋯ ⋯ ⋯ ⟨rfl,Jp q c⟩)
end
set_option backward.match.sparseCases false in
noncomputable def EC(o:Obj):ClassData:=match o.data with |.cls c=>c |_=>default
theorem aS(P:WQ):G9 (KB P) 242:=⟨@_,@_,@_,@_,EC (nG P),@_,@_⟩
noncomputable abbrev nA:Str:=di
theorem gX:∀(l:List (Str×AV)) (x:Str) (v:AV),(cg l x v).length<=l.length+1
 | [],_,_=>Xy _
 |(y,u)::r,x,v=>by
  rw[vM];split
  ·exact Nat.le_succ _
  ·rw[WU,WU];exact Nat.succ_le_succ (gX r x v)
theorem zw{K:Frag}{m m':List (Str×AV)}{led:aa}{R:Unit->St->Prop}(ok:G9 K C)(ht:takerIn K C name=some none)
  (hm:cg m name v=m') (hsz:m'.length<=1000) (h:R () ⟨loc,(d,aX m')::led⟩):F2 d7 w A (am K) d8 aJ (fun x y=>setAttr x name y) (.inst C d) v ⟨loc,(d,aX m)::led⟩ R :=
 FS ok ht hm hsz (led':=(d,aX m')::led) .here h
theorem IE{m:List (Str×AV)}{led:aa}(hA:g7 A 20)(hm:m.lookup nA=some .none)(hsz:m.length<=100) :
  TC af w A (aj w) (.ref 174) [.inst 242 d,.lst xs] [] ((d,aX m)::led) fun v led'=>v=.none/\led'=(d,aX (cg (cg (cg m nA (.lst xs)) vV .none) Bt .none))::led:=by
 refine dD [(nA,.lst xs),(q6,.inst 242 d)] (bG w) hA.lt (fun O O=>@_) @_ @_ (Qz _) fun L hL=>?_;have hG:=gk w (A.deeper (ba (az (gB w.params)) L 174 173)) (az (gB w.params)) L 174 173 @_ @_ hA.h;refine bv hG 60 (f7.mk (dG (aS _) @_ (WM ..) hm rfl ?_));refine f7.mk (cX rfl rfl rfl (ae hG 5 (dd (ae hG 5 (zw (aS _) @_ rfl (XQ (gX ..) ⋯) ?_)))));refine f7.mk (fu rfl rfl rfl (ae hG 5 (dd (ae hG 5 (zw (aS _) @_ rfl (XQ (gX ..) (Nat.succ_le_of_lt (Nat.lt_of_le_of_lt (gX ..) ⋯))) (dd (ae hG 5 (zw (aS _) @_ rfl (XQ (gX ..) (Nat.succ_le_of_lt (Nat.lt_of_le_of_lt (gX ..) (Nat.lt_of_le_of_lt (Nat.succ_le_succ (gX ..)) ⋯)))) ?_))))))));exact⟨rfl,rfl⟩
def qM(P:f9->Obj->Prop)(o:Obj)(Z:f9)(o':Obj):Prop:=o'=o/\P Z o'
theorem BZ{P:f9->Obj->Prop}(m:∀Z Z' o,f9.le Z Z'->P Z o->P Z' o)(Z Z':f9)(o':Obj)(k:f9.le Z Z')(x:qM P o Z o'):qM P o Z' o':=⟨x.1,m Z Z' o' k x.2⟩
noncomputable abbrev qN(P:f9->Obj->Prop)(m:∀Z Z' o,f9.le Z Z'->P Z o->P Z' o)(o:Obj):i9:=.obj (qM P o) (BZ m)
theorem f1.fixZ{s0:WS}{led:aa}(S:f1 B s Z led){c:XC}(hc:s.heap.get? c=some o)(h0:s0.heap.get? c=none)(hl:c∉keys led)(hZ:Z c=none)(X:k8 (ah led) s0 Z s Z (ah led)) :
  f1 B s (Z.add c o) led/\k8 (ah led) s0 Z s (Z.add c o) (ah led):=by
 have le:=f9.le_add (o:=o) hZ;refine⟨⟨S.base.trans le,fun a x e=>?_,S.nodup,fun p hp=>?_,fun p hp=>(S.own p hp).mono le (fun O e=>e) fun O O O e=>e,S.gnodup,S.bare⟩,⟨le,X.kept,X.grow,fun a x e=>?_,X.os,X.gkept,X.ggrow⟩⟩
 ·unfold f9.add at e;split at e
  ·rename_i q;cases e;exact(Eq.symm (q))▸hc
  ·exact S.frozen a x e
 ·unfold f9.add;exact(Eq.symm (if_neg fun(q:p.1=c)=>hl (q▸Xm hp)))▸S.apart p hp
 ·unfold f9.add at e;split at e
  ·rename_i q;exact .inr (.inr (q▸h0))
  ·exact .inl e
section
open PySem PySem.W PySem.Builtin
noncomputable def bY(w:Xo):Bool:=w.params.followText "set-order"
theorem Sb{Q₁:Value->WS->Prop}
  (h:Q₁ (.ref s.heap.objs.size) {s with heap:=s.heap.push {cls:=.type "set",dict:=none,data:=.set #[] 0 (.fresh 0 0 (!bY w))} }) :
  codeAny (Xn d7 w) A (.call (.builtin "set.__new__") ⟨[.type "set"],[]⟩) (wants Q₁ E) s:=by
 refine codeAny_of_tree ?_;show Xq _ A.in1 (do checkBuiltinCall "set.__new__" ⟨[.type "set"],[]⟩;again (.builtin "set.__new__" ⟨[.type "set"],[]⟩)) _ _ s;refine WL (Yd F.newCall_set_0 (WN ⟨plainId_quiet F.plain_set_new _,ZJ F.entry_set_new ?_⟩));rw[ZH F.plain_set_new _];unfold Builtin.«set.__new__» Builtin.Frozenset.newClass;have z4:=sub_set_self;obtain⟨hp,g,d,tk,os⟩:=s;dsimp only;wp_walk
 refine wpAny_askSetting (WN ?_);dsimp only;dsimp only[newObj];refine WL (wpAny_alloc (WN ?_));exact WN h
theorem Sz
  (h:Q (.ref s.heap.objs.size) {s with heap:=s.heap.push {cls:=.type "set",dict:=none,data:=.set #[] 0 (.fresh 0 0 (!bY w))} }) :
  Xq (Xn d7 w) A (call (.type "set") []) Q E s:=by
 refine gi F.called_set.mro fun c tl Ξ=>?_;have Ο:=F.called_set.made;have z4:=F.called_set.sub;refine Zu (codeAny_of_tree ?_);show Xq _ _ (callAny (.type "set") _) _ _ _;refine WN ⟨Code.quiet_builtin _ (by decide +kernel),ZJ F.entry_type_call ?_⟩;rw[Around.under_plain (weight_type_call_type "set" [] []) rfl];have h1:=F.called_set.notType;have h2:=F.called_set.canCreate;have hct:=F.typeCall_set_0;repeat (any_goals (first |assumption |wp_step))
 refine codeAny_mono (Sb (E:=E) (Q₁:=fun obj s₁=>obj=.ref s.heap.objs.size/\s₁={ s with heap:=s.heap.push {cls:=.type "set",dict:=none,data:=.set #[] 0 (.fresh 0 0 (!bY w))} }) ⟨rfl,rfl⟩) fun r s₁ hr=>?_;cases r with
 |error e=>exact hr
 |ok fl =>
  cases fl with
  |ret obj =>
   refine av hr fun O1 O2=>?_;clear hr;subst O1;subst O2;have hS:(s.heap.push {cls:=.type "set",dict:=none,data:=.set #[] 0 (.fresh 0 0 (!bY w))}).get? s.heap.objs.size=some {cls:=.type "set",dict:=none,data:=.set #[] 0 (.fresh 0 0 (!bY w))}:=WW _ rfl;have hT:Shared.TypeIs {s with heap:=s.heap.push {cls:=.type "set",dict:=none,data:=.set #[] 0 (.fresh 0 0 (!bY w))} } (.ref s.heap.objs.size) "set" := ⟨_,hS,rfl⟩;have hli:=F.called_set.init.lookup;have d_:=F.called_set.init.bind (.ref s.heap.objs.size);repeat (any_goals (first |assumption |wp_step))
   refine codeAny_mono (Zc (R:=wants (fun r s2=>r=.none/\Q (.ref s.heap.objs.size) s2) E) F.called_set.init.plain F.entry_set_init (check_set_init hT ?_)) fun r2 s2 Q4=>?_
   ·unfold Builtin.«set.__init__» noKeywords;wp_walk
    exact⟨rfl,h⟩
   ·cases r2 with
    |error e=>exact Q4
    |ok fl2 =>
     cases fl2 with
     |ret r =>
      refine av Q4 fun O1 hq=>?_;clear Q4;subst O1;repeat (any_goals (first |assumption |wp_step))
     |_=>exact Q4.elim
  |_=>exact hr.elim
set_option backward.match.sparseCases false in
noncomputable def gW:Value->Str
 |.str x _=>x
 |_=>⟨⟨[]⟩⟩
def B8(w:Xo)(e:Int×Value):Prop:=∃x t,e=(hashStr w x,.str x t)
def fE(w:Xo)(ks:List Str)(_:f9)(o:Obj):Prop:=∃es ep t,o={ cls:=.type "set",dict:=none,data:=.set es ep t}/\(es.toList.map fun e=>gW e.2).Perm ks/\(∀e∈es.toList,B8 w e) /\
 es.size<scanBound/\t.fits es.size=true/\t.led=(!bY w)/\(ks=[]∨t.plain=false)
theorem vJ{ks:List Str}(Z Z':f9)(o:Obj)(k:f9.le Z Z')(x:fE w ks Z o):fE w ks Z' o:=x
noncomputable abbrev eY(w:Xo)(ks:List Str):i9:=.obj (fE w ks) vJ
theorem Vk{led:aa}(h:∀a,a∉keys led->R (.ref a) ⟨loc,(a,eY w [])::led⟩):FC d7 w A B d8 (.typ "set") [] [] ⟨loc,led⟩ R:=FC.t fun s Z S Q E hQ =>  Vals.un0 <| by
 refine Sz ?_;have P:=S.tof1.push (o:={ cls:=.type "set",dict:=none,data:=.set #[] 0 (.fresh 0 0 (!bY w))}) (ao:=eY w []) rfl s.toks
  ⟨_,WW _ rfl,#[],0,_,rfl,.refl _,(fun e he=>by simp at he),(by decide),(by cases bY w <;> decide),rfl,.inl rfl⟩
 exact hQ _ _ _ _ _ (h _ S.tof1.lfresh) (S.after P.1 P.2) (.ref _) P.2.toF
theorem Ot(t:XN)(es:Array (Int×Value))(h:Int)(x:Value):(layNew t es h x).2.1.led=t.led:=by
 unfold layNew;split
 ·dsimp only;unfold SetTable.orStandIn;split <;> rfl
 ·rfl
theorem Jo(t:XN)(es:Array (Int×Value))(n:Nat):(relayAll t es n).2.1.led=t.led:=by
 unfold relayAll;split
 ·rename_i hr
  dsimp only;split
  ·unfold SetTable.relaid SetTable.laid at hr;cases hl:SetTable.layClean (SetTable.sizeAbove n-1) (es.map (·.1)) with
   |none=>rw[hl] at hr;cases hr
   |some ow =>
    rw[hl] at hr;have hr:=Zi hr
    have:=congrArg (fun p=>p.1.led) hr;exact this.symm
  ·rfl
 ·rfl
theorem Jn(t:XN)(es:Array (Int×Value))(n:Nat)(h:t.plain=false):(relayAll t es n).2.1.plain=false:=by
 unfold relayAll;split
 ·rename_i hr
  dsimp only;split
  ·unfold SetTable.relaid SetTable.laid at hr;cases hl:SetTable.layClean (SetTable.sizeAbove n-1) (es.map (·.1)) with
   |none=>rw[hl] at hr;cases hr
   |some ow =>
    rw[hl] at hr;have hr:=Zi hr
    have:=congrArg (fun p=>p.1.plain) hr;exact this.symm.trans h
  ·rfl
 ·rfl
theorem B8.elems{l:List (Int×Value)}(h:∀e∈l,B8 w e):ElemsOf (XA d7 w) l:=fun e he=>by
 refine gi (h e he) fun x t O3=>?_;subst O3;exact⟨⟨x,by simp[XA,Value.isStrOf],rfl⟩,rfl⟩
theorem yd{t:Tok}:(XA d7 w).is x (.str y t)=true↔x=y:=by
 constructor
 ·intro h;have h':(y==x)=true:=h;exact(beq_iff_eq.mp h').symm
 ·rintro rfl
  show (x==x)=true;exact beq_self_eq_true x
theorem BU{h:Heap}{es es':Array (Int×Value)}{ep:Nat}{t t':XN}(ho:h.get? a=some {cls:=.type "set",dict:=none,data:=.set es ep t}) :
  (h.update a (Obj.putSet es' t')).get? a=some {cls:=.type "set",dict:=none,data:=.set es' (ep+1) t' }:=by
 have:=XH (Obj.putSet es' t') ho (by rw[putSet_of es' t' rfl];rfl);rw[putSet_of es' t' rfl] at this;exact this
theorem EP{g:Bool->Sem Unit}(hg:∀(b:Bool) (s₁:WS) (Q':Unit->WS->Prop),Q' () s₁->Xq (Xn d7 w) A (g b) Q' E s₁)
   {es:Array (Int×Value)} {ep:Nat} {t:XN} (ho:s.heap.get? a=some {cls:=.type "set",dict:=none,data:=.set es ep t}) {ks:List Str} 
  {r6:Array (Int×Value)} {t2:XN} (U1:∀e∈r6.toList,B8 w e) (s9:(r6.toList.map fun e=>gW e.2).Perm ks)
  (ξ:r6.size<scanBound) (Ä:t2.fits r6.size=true) (A7:t2.led=(!bY w)) (hpl:t2.plain=false) {J4:Bool} {R:Option Bool->WS->Prop}
  (h:∀h' o',Xz a s.heap h'->h'.get? a=some o'->fE w ks Z o'->R (some true) {s with heap:=h' }) :
  Xq (Xn d7 w) A (do
    storeSet a r6 t2
    if (!J4&&t2.tooFull)=true then do
      g (relayAll t2 r6 (ZU r6.size)).2.2
      storeSet a (relayAll t2 r6 (ZU r6.size)).1 (relayAll t2 r6 (ZU r6.size)).2.1
      YV (some true)
     else YV (some true)) R E s:=by
 refine WL (wpAny_storeSet_of ho rfl ?_ (fits_of_scanBound ξ));have ho1:=BU (es':=r6) (t':=t2) ho;have F9:=XE s.heap a (Obj.putSet r6 t2);split
 ·have hp:=relayAll_perm t2 r6 (ZU r6.size);have J0:=relayAll_fits t2 r6 (ZU r6.size);have hlr:=Jo t2 r6 (ZU r6.size);have hpr:=Jn t2 r6 (ZU r6.size) hpl;generalize hRl:relayAll t2 r6 (ZU r6.size)=Rl at hp J0 hlr hpr ⊢;obtain⟨A2,t3,gave2⟩:=Rl;dsimp only at hp J0 hlr hpr ⊢;have hsz:A2.size=r6.size:=by rw[← Yz,hp.length_eq,Yz]
  have z_:A2.size<scanBound:=by rw[hsz];exact ξ
  refine WL (hg _ _ _ ?_);refine WL (wpAny_storeSet_of ho1 rfl ?_ (fits_of_scanBound z_));have ho2:=BU (es':=A2) (t':=t3) ho1;exact WN (h _ _ (F9.trans (XE _ a _)) ho2 ⟨A2,_,t3,rfl,(hp.map _).trans s9,fun e he=>U1 e (hp.mem_iff.mp he),z_,J0,hlr.trans A7,.inr hpr⟩)
 ·exact WN (h _ _ F9 ho1 ⟨r6,_,t2,rfl,s9,U1,ξ,Ä,A7,.inr hpl⟩)
theorem SG{t:Tok}{ks:List Str}(ho:s.heap.get? a=some o)(hP:fE w ks Z o)(hx:x∉ks)(hsz:ks.length+1<scanBound)
  (h:∀h' o',Xz a s.heap h'->h'.get? a=some o'->fE w (ks++[x]) Z o'->Q .none {s with heap:=h',toks:=s.toks+1}) :
  Xq (Xn d7 w) A (call (.builtin "set.add") [.ref a,.str x t]) Q E s:=by
 refine FZ hP fun es ep tb O4 s9 y_ hb hf A7 hpl=>?_;clear hP;subst O4;have hT:s.TypeIs (.ref a) "set" := ⟨_,ho,rfl⟩;have j3:es.size=ks.length:=by rw[← s9.length_eq];simp
 refine XO F.slot_set_add hT F.entry_set_add ?_ (F.args_set_add_2 _ _);unfold Builtin.«set.add» Builtin.Frozenset.oneOther;simp only[List.isEmpty_nil,bind_assoc];unfold Builtin.Frozenset.addrOf setAdd;refine WL (WN ?_);try dsimp only
 refine WL (WN ?_);try dsimp only
 refine WL ?_;refine Xc ?_;have A8:(XA d7 w).is x (.str x t)=true:=yd.mpr rfl;refine WL ((XA d7 w).pyHash A8 ?_);unfold setAddHashed setAddHashedIn;refine Xc (WL (Yr ho rfl hf ?_));dsimp only;have Æ:ElemsOf (XA d7 w) es.toList:=B8.elems y_;rw[byScan_of rfl hb Æ];simp only[↓reduceIte];unfold setAddByScan;refine WL ?_;refine WL (YA ?_);refine WL (wpAny_setScan_of (k:=x) A8 ho rfl hf Æ ?_);have w6:List.findIdx? (fun e=>(XA d7 w).is x e.2) es.toList=none:=by
  rw[List.findIdx?_eq_none_iff];intro e he;refine gi (y_ e he) fun y u O3=>?_;subst O3;rw[Bool.eq_false_iff];intro hq
  have:x=y:=yd.mp hq;subst this;exact hx (s9.mem_iff.mp (Xm (f:=fun e:Int×Value=>gW e.2) he))
 rw[w6];dsimp only;have hgw:∀(b:Bool) {s₁:WS} {Q':Unit->WS->Prop} {E':Value->WS->Prop},Q' () s₁->Xq (Xn d7 w) A.in1 (match b with |true=>rule "set.scan.the-table-gave-way" |false=>YV ()) Q' E' s₁ :=
  fun b s₁ Q' E' hq=>by cases b <;> first |exact WN hq |exact YA hq
 have C0:=layNew_perm tb es ((XA d7 w).hash x) (.str x t);have H8:=layNew_fits tb es ((XA d7 w).hash x) (.str x t);have P6:=Ot tb es ((XA d7 w).hash x) (.str x t);generalize hL:layNew tb es ((XA d7 w).hash x) (.str x t)=L at C0 H8 P6 ⊢;obtain⟨r6,t1,J4,gave⟩:=L;dsimp only at C0 H8 P6 ⊢;rw[Array.toList_push] at C0;have U1:∀e∈r6.toList,B8 w e:=fun e he=>by
  rcases XR.mp (C0.mem_iff.mp he) with q |q
  ·exact y_ e q
  ·rw[Xi] at q;subst q;exact uw x t rfl
 have T4:(r6.toList.map fun e=>gW e.2).Perm (ks++[x]):=by
  refine(C0.map _).trans ?_;rw[Xr];exact s9.append (.refl _)
 have ξ:r6.size<scanBound:=by
  rw[← Yz,C0.length_eq,WV,Yz,j3];simpa using hsz
 refine WL (hgw _ ?_);have Ã:∀h' o',Xz a s.heap h'->h'.get? a=some o'->fE w (ks++[x]) Z o'->Q .none {s with heap:=h',toks:=s.toks+1}:=h;split
 ·refine WL ?_;rw[hashByValue_scannable 8 rfl];refine WN ?_;refine EP (s:={ s with toks:=s.toks+1}) (Z:=Z) (ks:=ks++[x]) ?_ ho U1 T4 ξ ?_ ?_ ?_ ?_
  ·intro b s₁ Q' hq;cases b <;> first |exact WN hq |exact YA hq
  ·exact SetTable.fits_plain_off H8
  ·exact P6.trans A7
  ·rfl
  ·intro h' o' y3 hg hS;dsimp only;exact WN (WN ⟨_,rfl,Ã h' o' y3 hg hS⟩)
 ·rename_i hpf
  refine WL (WN ?_);simp only[↓reduceIte];refine EP (s:={ s with toks:=s.toks+1}) (Z:=Z) (ks:=ks++[x]) ?_ ho U1 T4 ξ H8 (P6.trans A7) (by simpa using hpf) ?_
  ·intro b s₁ Q' hq;cases b <;> first |exact WN hq |exact YA hq
  ·intro h' o' y3 hg hS;dsimp only;exact WN (WN ⟨_,rfl,Ã h' o' y3 hg hS⟩)
end
noncomputable abbrev mz:Expr:=.Name ⟨⟨[]⟩⟩ default
section
variable{N:aa}
theorem pZ{led:aa}{Y8:Array Value}{f:Array Value->Array Value}{Q:Unit->WS->Prop}(S:f1 B s Z ((a,.list xs)::led))(hg:s.heap.get? a=some {cls:=.type "list",data:=.seq Y8 n})(hv:Vals Z ys (f Y8).toList)(hz:Y8.size<=XK)(Β:(f Y8).size<=XK+1)
  (k:∀h' n',h'.get? a=some {cls:=.type "list",data:=.seq (f Y8) n' }->f1 B {s with heap:=h' } Z ((a,.list ys)::led)->k8 (ah ((a,.list xs)::led)) s Z {s with heap:=h' } Z (ah ((a,.list ys)::led))->Q () {s with heap:=h' }) :
  Xq (Xn d7 w) A (updateSeq a f) Q E s:=wpAny_updateSeq hg rfl (ak (⟨_,XH (XS f) hg rfl⟩:∃n',(s.heap.update a (XS f)).get? a=some {cls:=.type "list",data:=.seq (f Y8) n' }) fun n' B0 =>
   have P:=S.upd (led':=(a,.list ys)::led) .here (h':=s.heap.update a (XS f)) (tk:=s.toks) (fun b ob hb e=>(XE ..).extBut b ob hb e) rfl rfl ⟨_,n',B0,hv⟩;k _ n' B0 P.1 P.2) hz Β
theorem QW{S:XC}{res:Value}{R:Result->WS->Prop}(hA:g7 A (k+1))  (items:List AV):∀(acc:List AV) (gl led:aa) (s:WS) (Z:f9),n7 N led->g5 d7 w B N k mz it items gl->acc.length+items.length<=XK ->
  f1 B s Z ((S,.list acc)::(gl++led))->(∀s' Z',f1 B s' Z' ((S,.list (acc++items))::led)->k8 (ah ((S,.list acc)::(gl++led))) s Z s' Z' (ah ((S,.list (acc++items))::led))->R (.ok (.ret res)) s') ->
  codeAny (Xn d7 w) A (.builtin "list.extend.loop" ⟨[.ref S,.ref it,res],[]⟩) R s:=by
 induction items with
 |nil =>
  intro acc gl led s Z hN hI hsz S1 hR;refine ZJ F.entry_extend_loop ?_;rw[ZH F.plain_extend_loop _];refine hI.last hA.in1 (hN.cons _) (S1.perm (YL.symm)) fun s' Z' S' X'=>WN ?_;rw[Yi] at hR;exact hR s' Z' S' (dM (YL (l₁:=gl) (l₂:=led) (a:=(S,i9.list acc)))▸X')
 |cons x items ih =>
  intro acc gl led s Z hN hI hsz S1 hR;refine ZJ F.entry_extend_loop ?_;rw[ZH F.plain_extend_loop _];rw[WU] at hsz;have Q7:acc.length<XK:=by omega
  refine hI.draw hA.in1 (hN.cons _) (S1.perm (YL.symm)) (fun O=>rfl) fun s' Z' v gl' S' V X' hI'=>?_;rw[dM (YL (l₁:=gl) (l₂:=led) (a:=(S,i9.list acc))),dM (YL (l₁:=gl') (l₂:=led) (a:=(S,i9.list acc)))] at X';have S2:=S'.perm (YL (l₁:=gl') (l₂:=led) (a:=(S,i9.list acc)));refine bt (S2.own _ (WM ..)) fun Y8 n g vs=>?_;dsimp only at g;have j3:Y8.size=acc.length:=vs.size;show Xq _ A.in1 (updateSeq S (·.push v)>>=_) _ _ _;refine WL (pZ (ys:=acc++[x]) S2 g (by simpa using vs.append (.cons V .nil)) (by rw[j3];omega) (by show (Y8.push v).size<=XK+1;rw[Array.size_push,j3];omega) fun h' n' O S3 X3=>WN ⟨plainId_quiet F.plain_extend_loop _,ih (acc++[x]) gl' led _ Z' hN hI' (by simp only[WV,Zj];omega) S3 fun z1 y0 u7 J2=>?_⟩);rw[Xv] at u7 J2;exact hR z1 y0 u7 ((X'.trans X3).trans J2)
theorem p5.same:∀loc:List (Str×AV),p5 a xs loc loc
 | [] => .nil
 |_::l => .keep (p5.same l)
theorem uA{T':String}{items:List AV}{gl led:aa}(hA:g7 A (k+3))(hN:n7 N led)(hI:g5 d7 w B N k mz it items gl)(hsz:items.length<=XK)
  (hT:∀s Z,f1 B s Z (gl++led)->s.TypeIs (.ref it) T') (hT1:(ZS T'==ZS "list")=false) (hT2:(ZS T'==ZS "tuple")=false)
  (y2:∀(A:Xg) s Z,f1 B s Z (gl++led)->∀(Q:Value->WS->Prop) E,Q (.ref it) s->Xq (Xn d7 w) A (pyIter (.ref it)) Q E s)
  (j3:Yx (.type T') "__len__" = YV none) (Ω:Yx (.type T') "__length_hint__" = YV none)
  (h:K (.lst items) ⟨loc,led⟩):FC d7 w A B d8 (.typ "list") [.ref it] [] ⟨loc,gl++led⟩ K:=FC.t fun s Z S0 Q E hQ=>Vals.un <| Val.eRef <| Vals.un0 <| by
 have SL:=S0.tof1;have P1:=SL.push (o:={ cls:=.type "list",data:=.seq #[]}) (ao:=.list []) rfl s.toks ⟨#[],0,WW _ rfl,.nil⟩;refine ad (hT s Z SL) fun oi G6 O=>?_;have t0:s.heap.objs.size≠it:=fun e=>by have:=XT G6;rw[← e] at this;exact Zh _ this
 refine callType_codes (Q₁:=fun obj s₁=>obj=.ref s.heap.objs.size/\s₁={ s with heap:=s.heap.push {cls:=.type "list",data:=.seq #[]} }) F.called_list (F.typeCall_list_1 _) F.entry_list_init
  (code_list_new _ ⟨rfl,rfl⟩) fun obj s₁ Α=>?_
 refine av Α fun O1 O2=>?_;clear Α;subst O1;subst O2;have hS:(s.heap.push {cls:=.type "list",data:=.seq #[]}).get? s.heap.objs.size=some {cls:=.type "list",data:=.seq #[]}:=WW _ rfl;refine⟨⟨_,hS,rfl⟩,F.args_list_init_2 _ _,?_⟩;show Xq _ A.in1.in1 (do let Y7 ← Builtin.List.listItems (.ref s.heap.objs.size);Builtin.List.listUpdate (.ref s.heap.objs.size) (fun O => #[]);letGo Y7.toList.reverse;Builtin.List.listExtendWith (.ref s.heap.objs.size) (.ref it) .none) _ _ _;refine WL ?_;unfold Builtin.List.listItems;refine WL (YS hS rfl (WN ?_));show Xq _ A.in1.in1 (updateSeq s.heap.objs.size (fun O => #[])>>=fun O=>letGo (#[]:Array Value).toList.reverse>>=fun O=>Builtin.List.listExtendWith (.ref s.heap.objs.size) (.ref it) .none) _ _ _;refine WL (pZ (ys:=[]) P1.1 hS .nil (Xk _) (Xk _) fun h2 n2 hS2 S2 X2=>?_);refine WL (wpAny_letGo ?_);unfold Builtin.List.listExtendWith;have D2:=S2.drop1;refine WL (wpAny_typeOf (hT _ Z D2) ?_);have h1:Builtin.List.listSameRef (.ref s.heap.objs.size) (.ref it)=false:=by simp[Builtin.List.listSameRef,t0]
 simp only[h1,hT1,hT2,Bool.or_false,XI,if_false];refine WL (y2 _ _ Z D2 _ _ ?_);refine WL (Xc ?_);unfold Builtin.List.listLengthHint;refine WL (a9 (hT _ Z D2) j3 ?_);show Xq _ A.in1.in1 (specialOf (Value.ref it) (WR "__length_hint__")>>=_) _ _ _;refine WL (a9 (hT _ Z D2) Ω ?_);refine WN ?_;show Xq _ A.in1.in1 (rule "list.extend.makes-room" >>= fun O=>Builtin.List.listTouch (.ref s.heap.objs.size)>>=fun O =>
  again (.builtin "list.extend.loop" ⟨[.ref s.heap.objs.size,.ref it,.none],[]⟩)) _ _ _
 refine WL (YA ?_);refine WL ?_;show Xq _ A.in1.in1 (updateSeq s.heap.objs.size (·.push .none)>>=fun O=>updateSeq s.heap.objs.size (·.pop)) _ _ _;refine WL (pZ (ys:=[.none]) S2 hS2 (.cons .none .nil) (Xk _) (Nat.le_add_left ..) fun h3 n3 hS3 S3 X3=>?_);refine pZ (ys:=[]) S3 hS3 .nil (by decide:1<=XK) (Xk _) fun h4 n4 hS4 S4 X4=>?_;refine WN ⟨plainId_quiet F.plain_extend_loop _,QW (k:=k) ?_ items [] gl led _ Z hN hI (by simpa using hsz) S4 fun s' Z' S' X'=>?_⟩
 ·exact⟨hA.h,by have:=hA.d;show A.depth+(k+1)<=_;omega,by have:=hA.u;show A.units+1+(k+1)<=_;omega⟩
 ·rw[Xe] at S' X';have X:=(((P1.2.trans X2).trans X3).trans X4).trans X';have SF:=S0.after S' X;refine aU (SF.freeze (g9:=loc) (p5.same loc)) fun Z2 S2 V2 X2=>?_;exact⟨rfl,hQ _ _ s' Z2 _ h S2 V2 ((X.toF (st:=⟨loc,gl++led⟩)).trans X2)⟩
end
theorem Ig:Slot "map" "__init__" "object.__init__" :=
 .of (owner := "object") (n := "__init__") (by rw[Ye,XD];kernel_rfl) (by decide +kernel) (by decide +kernel) (by decide +kernel)
  (by first |exact .inl (by decide +kernel) |exact .inr (by decide +kernel)) (by rw[Yb];kernel_rfl)
theorem mD:Slot "map" "__next__" "map.__next__" :=
 .of (owner := "map") (n := "__next__") (by rw[Ye,XD];kernel_rfl) (by decide +kernel) (by decide +kernel) (by decide +kernel)
  (by first |exact .inl (by decide +kernel) |exact .inr (by decide +kernel)) (by rw[Yb];kernel_rfl)
theorem AE:Slot "map" "__iter__" "map.__iter__" :=
 .of (owner := "map") (n := "__iter__") (by rw[Ye,XD];kernel_rfl) (by decide +kernel) (by decide +kernel) (by decide +kernel)
  (by first |exact .inl (by decide +kernel) |exact .inr (by decide +kernel)) (by rw[Yb];kernel_rfl)
theorem DZ:entryFor table "map.__next__" = some Builtin.«map.__next__» := Zo @_
theorem Rq:entryFor table "map.__new__" = some Builtin.«map.__new__» := Zo @_
theorem Rr:entryFor table "map.__iter__" = some Builtin.«dict_keyiterator.__iter__» :=
 entryFor_alias (id' := "dict_keyiterator.__iter__") @_ (by first |rfl |decide +kernel |(unfold String.splitOn;simp +decide [String.splitOnAux])) (by decide +kernel) @_
theorem EI(a:Value):c6 "map.__next__" ⟨[a],[]⟩:=by unfold c6;kernel_rfl
theorem Tb(a:Value):c6 "map.__iter__" ⟨[a],[]⟩:=by unfold c6;kernel_rfl
theorem Cs:mroOf (.type "map")=YV [.type "map",.type "object"]:=by rw[mroOf_type];kernel_rfl
theorem NR:Yx (.type "map") "__new__" = YV (some (.builtin "map.__new__")):=by rw[Ye,XD];kernel_rfl
theorem Sw:TypeCalled "map" "map.__new__" "object.__init__" :=
 ⟨by decide +kernel,by decide +kernel,⟨_,_,Cs⟩,madeBy_type Cs NR (by decide +kernel),by decide +kernel,by rw[Yb];kernel_rfl,Ig⟩
theorem Hm(a b:Value):checkTypeCall "map" ⟨[a,b],[]⟩=YV ():=@_
theorem MY(a b:Value):checkBuiltinCall "map.__new__" ⟨[.type "map",a,b],[]⟩=YV ():=@_
theorem HJ:ZR (.type "map") (.type "map")=YV true:=by rw[Yb];kernel_rfl
theorem xP:Yx (.type "map") "__len__" = YV none:=by rw[Ye,XD];kernel_rfl
theorem xQ:Yx (.type "map") "__length_hint__" = YV none:=by rw[Ye,XD];kernel_rfl
theorem Jd{l:XC}{f:Value}{items:Array Value}{P:PySem.Fin->WS->Prop}(hl:s.heap.IsList l items)
  (h:P (.done (.ret (.ref (s.heap.objs.size+2)))) {s with heap:=((s.heap.push {cls:=.type "list_iterator",data:=.fields #[.ref l,.int 0 0]}).push {cls:=.type "tuple",data:=.seq #[.ref s.heap.objs.size]}).push {cls:=.type "map",data:=.fields #[.ref (s.heap.objs.size+1),f]} }) :
  Xq (Xn d7 w) A (Builtin.«map.__new__» ⟨[.type "map",f,.ref l],[]⟩) P E s:=by
 unfold Builtin.«map.__new__»;refine WL ?_;unfold Builtin.SmallTypes.newClass;refine WL (Yd (a:=true) rfl ?_);refine Yj rfl ?_;refine WL (Yd (a:=true) HJ ?_);refine Yj rfl ?_;refine WN ?_;refine WL (Yd (a:=()) rfl ?_);dsimp only;refine aY (by simp) ?_;refine WL ?_;unfold Builtin.SmallTypes.iterAll;simp only[List.drop_succ_cons,List.drop_zero,List.forIn_cons,List.forIn_nil];refine WL (WL (WL (Xc (wpAny_pyIter_list hl ?_))));refine WN (WN (WN ?_));refine WL (wpAny_newTuple ?_ (by simp;decide));refine WL ?_;unfold Builtin.SmallTypes.newRecord;refine XZ ?_;refine WN ?_;simpa[ZV] using h
theorem Oj{l:XC}{items:Array Value}{x:Value}(hit:s.heap.IsListIter it l i)(hl:s.heap.IsList l items)(hx:items[i]?=some x)
  (hQ:∀h',h'.IsListIter it l (i+1)->Xz it s.heap h'->Q x {s with heap:=h' }):Xq (Xn d7 w) A (Builtin.SmallTypes.nextOf (.ref it)) Q E s:=by
 refine aU (id hit) fun o ho hc hd=>?_;obtain⟨ol,ç,_,nl,hdl⟩:=hl;unfold Builtin.SmallTypes.nextOf;refine WL (XY (name:=WR "__next__") hit.typeIs slot_listiter_next (XO slot_listiter_next hit.typeIs entry_listiter_next ?_ (args_listiter_next _)));show Xq _ _ (field (.ref it) 0>>=_) _ _ s;refine WL (ZE ho hd (x:=.ref l) rfl ?_);refine Yj rfl ?_;refine WL (ZE ho hd (x:=.int i 0) rfl ?_);refine WL (YS ç hdl ?_);simp only[XJ,hx];refine WL (wpAny_setField ho hd (by simp) (WN ⟨x,rfl,WN (hQ _ ?_ (XE ..))⟩));exact⟨_,XH _ ho (Zz (ZZ hd _)),(Obj.cls_mapFields ..).trans hc,by
  rw[ZZ hd];simp[Yu]⟩
theorem Ok{l:XC}{items:Array Value}(hh:A.handled=none)(hit:s.heap.IsListIter it l i)(hl:s.heap.IsList l items)(hx:items[i]?=none)
  (hQ:∀h' e,Heap.ExtBut it s.heap h'->({s with heap:=h' }:WS).TypeIs (.ref e) "StopIteration" -> E (.ref e) {s with heap:=h' }):Xq (Xn d7 w) A (Builtin.SmallTypes.nextOf (.ref it)) Q E s:=by
 refine aU (id hit) fun o ho hc hd=>?_;obtain⟨ol,ç,_,nl,hdl⟩:=hl;unfold Builtin.SmallTypes.nextOf;refine WL (XY (name:=WR "__next__") hit.typeIs slot_listiter_next (XO slot_listiter_next hit.typeIs entry_listiter_next ?_ (args_listiter_next _)));show Xq _ _ (field (.ref it) 0>>=_) _ _ s;refine WL (ZE ho hd (x:=.ref l) rfl ?_);refine Yj rfl ?_;refine WL (ZE ho hd (x:=.int i 0) rfl ?_);refine WL (YS ç hdl ?_);simp only[XJ,hx];refine WL (YA (WL (wpAny_setField ho hd (by simp) ?_)));show Xq _ _ (newExc (.type "StopIteration") []>>=_) _ _ _;refine WL ?_;dsimp only[newExc,newTuple];refine WL (XZ ?_ (by size_fits));refine WL (m:=Zq _ _) (Yd (a:=Yp) (by first |rfl |(dsimp only[Zq];rfl)) ?_);refine XZ ?_ (by size_fits);dsimp only[raiseNew];refine WL (wpAny_handled ?_);rw[show A.in1.handled=none from hh];refine WL (WN (wpAny_throw ?_));exact hQ _ _ (((XE ..).extBut.push _).push _) ⟨_,WW _ rfl,rfl⟩
theorem NK{m tt l:XC}{f x:Value}{items:Array Value}{Q:Option Value->WS->Prop}(hm:s.heap.get? m=some {cls:=.type "map",data:=.fields #[.ref tt,f]})(ht:s.heap.get? tt=some {cls:=.type "tuple",data:=.seq #[.ref it]})
  (hit:s.heap.IsListIter it l i) (hl:s.heap.IsList l items) (hx:items[i]?=some x) (hmi:m≠it)
  (h:∀h',h'.IsListIter it l (i+1)->Xz it s.heap h'->Xq (Xn d7 w) A.in1 (call f [x]) (fun v s'=>Q (some v) s') (fun O O=>False) {s with heap:=h' }) :
  Xq (Xn d7 w) A (Zl (.ref m)) Q E s:=by
 have hT:s.TypeIs (.ref m) "map" := ⟨_,hm,rfl⟩;unfold Zl;refine WL (Zp (XY (name:=WR "__next__") hT mD (XO mD hT DZ ?_ (EI _))));show Xq _ _ (field (.ref m) 0>>=_) _ _ s;refine WL (ZE hm rfl (x:=.ref tt) rfl ?_);refine WL (YS ht rfl ?_);simp only[← Array.forIn_toList,List.forIn_cons,List.forIn_nil];refine WL (WL (WL (Xc (Oj hit hl hx fun h' C1 C5=>?_))));refine WN (WN ?_);have hm':h'.get? m=some {cls:=.type "map",data:=.fields #[.ref tt,f]}:=(C5.2 m hmi).trans hm;refine WL (ZE hm' rfl (x:=f) rfl ?_);refine WL (Xc (XU (h h' C1 C5) (fun v s' hv=>?_) fun O O z=>z.elim));refine WL (wpAny_letGo (WN ⟨v,rfl,WN hv⟩))
theorem NM{m tt l:XC}{f:Value}{items:Array Value}{Q:Option Value->WS->Prop}(hh:A.handled=none)(hm:s.heap.get? m=some {cls:=.type "map",data:=.fields #[.ref tt,f]})(ht:s.heap.get? tt=some {cls:=.type "tuple",data:=.seq #[.ref it]})
  (hit:s.heap.IsListIter it l i) (hl:s.heap.IsList l items) (hx:items[i]?=none)
  (hQ:∀h',Heap.ExtBut it s.heap h'->Q none {s with heap:=h' }):Xq (Xn d7 w) A (Zl (.ref m)) Q E s:=by
 have hT:s.TypeIs (.ref m) "map" := ⟨_,hm,rfl⟩;unfold Zl;refine WL (Zp (XY (name:=WR "__next__") hT mD (XO mD hT DZ ?_ (EI _))));show Xq _ _ (field (.ref m) 0>>=_) _ _ s;refine WL (ZE hm rfl (x:=.ref tt) rfl ?_);refine WL (YS ht rfl ?_);simp only[← Array.forIn_toList,List.forIn_cons,List.forIn_nil];refine WL (WL (WL (Xc (Ok hh hit hl hx fun h' e á õ=>?_))));refine WL (YJ (T := "StopIteration") (b:=true) õ isSubtype_stop ?_);exact WN (hQ h' á)
section
open PySem PySem.W PySem.Builtin
theorem eX:Slot "set_iterator" "__next__" "set_iterator.__next__" :=
 .of (owner := "set_iterator") (n := "__next__") (by rw[Ye,XD];kernel_rfl) (by decide +kernel) (by decide +kernel) (by decide +kernel)
  (by first |exact .inl (by decide +kernel) |exact .inr (by decide +kernel)) (by rw[Yb];kernel_rfl)
theorem tP:entryFor table "set_iterator.__next__" = some Builtin.«set_iterator.__next__» := Zo @_
theorem uc(a:Value):c6 "set_iterator.__next__" ⟨[a],[]⟩:=by unfold c6;kernel_rfl
theorem Ro:entryFor table "set.__iter__" = some Builtin.«frozenset.__iter__» :=
 entryFor_alias (id' := "frozenset.__iter__") @_ rfl (by decide +kernel) @_
theorem SY(a:Value):c6 "set.__iter__" ⟨[a],[]⟩:=by unfold c6;kernel_rfl
theorem Ej(l:List α):∀(i:Nat) (h:i<l.length),(l[i]::l.eraseIdx i).Perm l:=by
 induction l with
 |nil=>exact fun i h=>(Nat.not_lt_zero i h).elim
 |cons x xs ih =>
  intro i h;cases i with
  |zero=>exact .refl _
  |succ i=>exact(YW x _ _).trans ((ih i (Nat.lt_of_succ_lt_succ h)).cons x)
theorem Gz{R4:Source}{Q:Nat->WS->Prop}(hn:n≠0)(h:∀i d,i<n->Q i {s with drawn:=d}):Xq (Xn d7 w) A (choose R4 n) Q E s :=
 fun Γ p F7=>⟨hn,h _ _ (Nat.mod_lt _ (Nat.pos_of_ne_zero hn))⟩
theorem Gx(n:Nat):∀(xs:List α) {s:WS} {Q:List α->WS->Prop},xs.length<=n->(∀l d,l.Perm xs->Q l {s with drawn:=d})->Xq (Xn d7 w) A (drawOrder n xs) Q E s:=by
 induction n with
 |zero=>exact fun xs s Q hl h=>WN (h [] s.drawn (List.length_eq_zero_iff.mp (Nat.le_zero.mp hl)▸.refl _))
 |succ n ih =>
  intro xs s Q hl h;cases xs with
  |nil=>exact WN (h [] s.drawn (.refl _))
  |cons x xs =>
  refine WL (Gz (by simp) fun i d hi=>?_);rw[Xs hi];dsimp only;refine WL (ih _ (by rw[List.length_eraseIdx_of_lt hi];exact Nat.le_of_succ_le_succ hl) fun l d' hp=>?_);refine WN (h _ d' ?_);exact(hp.cons _).trans (Ej _ _ hi)
theorem PI{next:Nat->Nat}{left:List α}{out:Array α}{x:α}(h:left[next k % left.length]?=some x):pickOrder.go next (n+1) k left out=pickOrder.go next n (k+1) (left.eraseIdx (next k % left.length)) (out.push x) :=
 Eq.trans @_ (congrArg (fun o=>Option.rec (motive:=fun O=>Array α) out (fun x=>pickOrder.go next n (k+1) (left.eraseIdx (next k % left.length)) (out.push x)) o) h)
theorem Mf(next:Nat->Nat)(xs:Array α):(pickOrder next xs).toList.Perm xs.toList:=by
 have:∀(i_ k:Nat) (left:List α) (out:Array α),left.length<=i_->(pickOrder.go next i_ k left out).toList.Perm (out.toList++left):=by
  intro i_;induction i_ with
  |zero =>
   intro k left out hl
   have:left=[]:=List.length_eq_zero_iff.mp (Nat.le_zero.mp hl);subst this;exact(Yi _).symm▸.refl _
  |succ n ih =>
   intro k left out hl;cases left with
   |nil=>exact(Yi out.toList).symm▸.refl _
   |cons y ys =>
    have hi:next k % (y::ys).length<(y::ys).length:=Nat.mod_lt _ (Nat.succ_pos _);rw[PI (Xs hi)];refine(ih (k+1) _ _ (by rw[List.length_eraseIdx_of_lt hi];exact Nat.le_of_succ_le_succ hl)).trans ?_;rw[Array.toList_push,Xv];exact d4 _ (Ej _ _ hi)
 exact this xs.size 0 xs.toList #[] (Xy _)
theorem qb{Q:Bool->WS->Prop}(h:Q (bY w) s):Xq (Xn d7 w) A setsByText Q E s:=by
 unfold setsByText;exact WL (wpAny_askSetting (WN h))
noncomputable abbrev cC(first:Value)(i:Nat)(a:XC)(n ep:Nat):Obj:={ cls:=.type "set_iterator",dict:=none,data:=.fields #[first,.int i 0,.ref a,.int n 0,.int ep 0],slots:=#[]}
theorem Ix{tp:XC}{ep:Nat}{D3:Array Value}{np:Nat}{es:Array (Int×Value)}{t:XN}{h:Int}{x:Value}{Q:Option Value->WS->Prop}
  (hit:s.heap.get? it=some (cC (.ref tp) i a n ep)) (p_:s.heap.get? tp=some {cls:=.type "tuple",data:=.seq D3 np})
  (ha:s.heap.get? a=some {cls:=.type "set",dict:=none,data:=.set es ep t}) (hf:t.fits es.size=true) (hn:es.size=n) (hj:D3[i]?=some (.int j 0)) (hx:es[j]?=some (h,x))
  (hQ:∀h',h'.get? it=some (cC (.ref tp) (i+1) a n ep)->Xz it s.heap h'->Q (some x) {s with heap:=h' }):Xq (Xn d7 w) A (Zl (.ref it)) Q E s:=by
 have hT:s.TypeIs (.ref it) "set_iterator" := ⟨_,hit,rfl⟩;unfold Zl;refine WL (Zp (XY (name:=WR "__next__") hT eX (XO eX hT tP ?_ (uc _))));unfold Builtin.«set_iterator.__next__»;refine WL (WN ?_);refine WL (YT hit rfl ?_);dsimp only;refine WL ?_;unfold setEntries;refine WL (Yr ha rfl hf (WN ?_));dsimp only;refine aY (by simp[hn]) ?_;refine WL (YS p_ rfl ?_);dsimp only;rw[XJ,hj];dsimp only;refine WL ?_;unfold setNextDrawn;refine WL (Yr ha rfl hf ?_);dsimp only;rw[if_neg (by simp),XJ,hx];refine WN ?_;refine WL (ZX hit (by simp) fun h' hg y3=>?_);refine WN ⟨x,rfl,WN (hQ h' ?_ y3)⟩;rw[hg];simp[Yu]
theorem AG{ep j':Nat}{es:Array (Int×Value)}{t:XN}{x:Value}{Q:Option Value->WS->Prop}
  (hit:s.heap.get? it=some (cC (.int j 0) i a n ep))
  (ha:s.heap.get? a=some {cls:=.type "set",dict:=none,data:=.set es ep t}) (hf:t.fits es.size=true) (hn:es.size=n)
  (K2:∀(A:Xg) (Q:Option (Value×Nat)->WS->Prop) (E:Value->WS->Prop),Q (some (x,j')) s->Xq (Xn d7 w) A (setNext a j i ep) Q E s)
  (hQ:∀h',h'.get? it=some (cC (.int j' 0) (i+1) a n ep)->Xz it s.heap h'->Q (some x) {s with heap:=h' }):Xq (Xn d7 w) A (Zl (.ref it)) Q E s:=by
 have hT:s.TypeIs (.ref it) "set_iterator" := ⟨_,hit,rfl⟩;unfold Zl;refine WL (Zp (XY (name:=WR "__next__") hT eX (XO eX hT tP ?_ (uc _))));unfold Builtin.«set_iterator.__next__»;refine WL (WN ?_);refine WL (YT hit rfl ?_);dsimp only;refine WL ?_;unfold setEntries;refine WL (Yr ha rfl hf (WN ?_));dsimp only;refine aY (by simp[hn]) ?_;refine WL ?_;rw[XJ,XJ,XJ];refine K2 _ _ _ ?_;dsimp only;refine WL (ZX hit (by simp) fun h1 í F9=>?_);refine WL (ZX í (by simp) fun h2 hg2 E_=>?_);refine WN ⟨x,rfl,WN (hQ h2 ?_ (F9.trans E_))⟩;rw[hg2];simp[Yu]
theorem vI{ep:Nat}{es:Array (Int×Value)}{t:XN}{Q:Option Value->WS->Prop}(hh:A.handled=none)
  (hit:s.heap.get? it=some (cC (.int j 0) i a n ep))
  (ha:s.heap.get? a=some {cls:=.type "set",dict:=none,data:=.set es ep t}) (hf:t.fits es.size=true) (hn:es.size=n)
  (K2:∀(A:Xg) (Q:Option (Value×Nat)->WS->Prop) (E:Value->WS->Prop),Q none s->Xq (Xn d7 w) A (setNext a j i ep) Q E s)
  (hQ:∀h',Heap.ExtBut it s.heap h'->Q none {s with heap:=h' }):Xq (Xn d7 w) A (Zl (.ref it)) Q E s:=by
 have hT:s.TypeIs (.ref it) "set_iterator" := ⟨_,hit,rfl⟩;unfold Zl;refine WL (Zp (XY (name:=WR "__next__") hT eX (XO eX hT tP ?_ (uc _))));unfold Builtin.«set_iterator.__next__»;refine WL (WN ?_);refine WL (YT hit rfl ?_);dsimp only;refine WL ?_;unfold setEntries;refine WL (Yr ha rfl hf (WN ?_));dsimp only;refine aY (by simp[hn]) ?_;refine WL ?_;rw[XJ,XJ,XJ];refine K2 _ _ _ ?_;dsimp only;refine WL (ZX hit (by simp) fun h1 í F9=>?_);refine WL ?_;dsimp only[newExc,newTuple];refine WL (XZ ?_ (by size_fits));refine WL (m:=Zq _ _) (Yd (a:=Yp) (by first |rfl |(dsimp only[Zq];rfl)) ?_);refine XZ ?_ (by size_fits);dsimp only[raiseNew];refine WL (wpAny_handled ?_);rw[show A.in1.handled=none from hh];refine WL (WN (wpAny_throw ?_));refine WL (YJ (T := "StopIteration") (b:=true) ⟨_,WW _ rfl,rfl⟩ isSubtype_stop ?_);exact WN (hQ _ ((F9.extBut.push _).push _))
theorem Iz{tp:XC}{ep:Nat}{D3:Array Value}{np:Nat}{es:Array (Int×Value)}{t:XN}{Q:Option Value->WS->Prop}(hh:A.handled=none)
  (hit:s.heap.get? it=some (cC (.ref tp) i a n ep)) (p_:s.heap.get? tp=some {cls:=.type "tuple",data:=.seq D3 np})
  (ha:s.heap.get? a=some {cls:=.type "set",dict:=none,data:=.set es ep t}) (hf:t.fits es.size=true) (hn:es.size=n) (hj:D3[i]?=none)
  (hQ:∀h',Heap.ExtBut it s.heap h'->Q none {s with heap:=h' }):Xq (Xn d7 w) A (Zl (.ref it)) Q E s:=by
 have hT:s.TypeIs (.ref it) "set_iterator" := ⟨_,hit,rfl⟩;unfold Zl;refine WL (Zp (XY (name:=WR "__next__") hT eX (XO eX hT tP ?_ (uc _))));unfold Builtin.«set_iterator.__next__»;refine WL (WN ?_);refine WL (YT hit rfl ?_);dsimp only;refine WL ?_;unfold setEntries;refine WL (Yr ha rfl hf (WN ?_));dsimp only;refine aY (by simp[hn]) ?_;refine WL ?_;refine YS p_ rfl ?_;dsimp only;rw[XJ,hj];dsimp only;refine WL (ZX hit (by simp) fun h1 í F9=>?_);refine WL (ZX í (by simp) fun h2 hg2 E_=>?_);refine WL ?_;dsimp only[newExc,newTuple];refine WL (XZ ?_ (by size_fits));refine WL (m:=Zq _ _) (Yd (a:=Yp) (by first |rfl |(dsimp only[Zq];rfl)) ?_);refine XZ ?_ (by size_fits);dsimp only[raiseNew];refine WL (wpAny_handled ?_);rw[show A.in1.handled=none from hh];refine WL (WN (wpAny_throw ?_));refine WL (YJ (T := "StopIteration") (b:=true) ⟨_,WW _ rfl,rfl⟩ isSubtype_stop ?_);exact WN (hQ _ (((F9.trans E_).extBut.push _).push _))
end
section
open PySem PySem.W PySem.Builtin
theorem AH{ep:Nat}{es:Array (Int×Value)}{t:XN}{Q:Option (Value×Nat)->WS->Prop}(hb:bY w=true)
  (ha:s.heap.get? a=some {cls:=.type "set",dict:=none,data:=.set es ep t}) (hf:t.fits es.size=true)
  (h:Q ((pickOrder (w.params.setOrder a ep) es)[i]?.map fun e=>(e.2,j)) s):Xq (Xn d7 w) A (setNext a j i ep) Q E s:=by
 unfold setNext;refine WL (Yr ha rfl hf ?_);dsimp only;refine WL (qb ?_);refine dH hb (aY (by rw[bne_self_eq_false];exact XL) (WL (WL (Yr ha rfl hf ?_))));exact WL (qb (dH hb (WL (wpAny_askSetting (WN (WN h))))))
theorem vK{ep:Nat}{es:Array (Int×Value)}{t:XN}{Q:Option (Value×Nat)->WS->Prop}(hb:bY w=false)(hl:t.led=true)(hsz:es.size<=1)
  (ha:s.heap.get? a=some {cls:=.type "set",dict:=none,data:=.set es ep t}) (hf:t.fits es.size=true)
  (h:Q (match es[Zg t.place j]?,t.place[Zg t.place j]? with |some (_,x),some k=>some (x,k+1) |_,_=>none) s):Xq (Xn d7 w) A (setNext a j i ep) Q E s:=by
 unfold setNext;refine WL (Yr ha rfl hf ?_);dsimp only;refine WL (qb ?_);refine aY (hb▸XL) (aY ?_ (WL (Yd (a:=()) ?_ (WN h))))
 ·show ¬ (!t.plain&&decide (es.size > 1))=true;rw[decide_eq_false (Nat.not_lt.mpr hsz),Bool.and_false];exact XL
 ·show (if (!t.led && !es.isEmpty)=true then _ else YV ())=YV ();exact if_neg (by rw[hl];exact XL)
theorem EE{pl:Array Nat}(h:pl.size=1):Zg pl j=if pl.getD 0 j<j then 1 else 0:=by
 show SetTable.below.go pl j pl.size 0 pl.size=_;rw[h];kernel_rfl
theorem SS{pl:Array Nat}(h:pl.size=0):Zg pl j=0:=by
 show SetTable.below.go pl j pl.size 0 pl.size=_;rw[h];rfl
theorem SR{pl:Array Nat}(h:pl.size=1):Zg pl 0=0:=(EE h).trans (if_neg (Nat.not_lt_zero _))
theorem SQ{pl:Array Nat}(h:pl.size=1)(hj:pl[0]?=some j):Zg pl (j+1)=1 :=
 (EE h).trans (if_pos (by rw[Array.getD_eq_getD_getElem?,hj];exact Zv j))
def Y5(w:Xo)(a:XC)(es:Array (Int×Value))(ep:Nat)(t:XN)(vs:List (Int×Value))(i:Nat)(Z:f9)(o:Obj):Prop :=
 (bY w=true/\o=cC (.int 0 0) i a es.size ep/\(pickOrder (w.params.setOrder a ep) es).toList=vs) ∨
 (bY w=false/\∃(tp:XC) (n:Nat) (js:List Nat),o=cC (.ref tp) i a es.size ep/\Z tp=some {cls:=.type "tuple",data:=.seq (js.map fun j:Nat=>Value.int j 0).toArray n}/\js.map (fun j:Nat=>es[j]?)=vs.map some) ∨
 (bY w=false/\es.size<=1/\t.led=true/\vs=es.toList/\((i=0/\o=cC (.int 0 0) 0 a es.size ep)∨(i=1/\es.size=1/\∃j,t.place[0]?=some j/\o=cC (.int ((j+1:Nat):Int) 0) 1 a es.size ep)))
theorem Y5.elim{es:Array (Int×Value)}{ep:Nat}{t:XN}{vs:List (Int×Value)}(h:Y5 w a es ep t vs i Z o)
  (c1:bY w=true->o=cC (.int 0 0) i a es.size ep->(pickOrder (w.params.setOrder a ep) es).toList=vs->P)
  (c2:bY w=false->∀(tp:XC) (n:Nat) (js:List Nat),o=cC (.ref tp) i a es.size ep->Z tp=some {cls:=.type "tuple",data:=.seq (js.map fun j:Nat=>Value.int j 0).toArray n}->js.map (fun j:Nat=>es[j]?)=vs.map some->P)
  (c3:bY w=false->es.size<=1->t.led=true->vs=es.toList->((i=0/\o=cC (.int 0 0) 0 a es.size ep)∨(i=1/\es.size=1/\∃j,t.place[0]?=some j/\o=cC (.int ((j+1:Nat):Int) 0) 1 a es.size ep))->P):P :=
 Or.elim h (fun h=>cB h c1) fun h=>Or.elim h (fun h=>bC h.2 (c2 h.1)) fun h=>zD h c3
theorem IB{es:Array (Int×Value)}{ep:Nat}{t:XN}{vs:List (Int×Value)}(Z Z':f9)(o:Obj)(k:f9.le Z Z')(x:Y5 w a es ep t vs i Z o):Y5 w a es ep t vs i Z' o :=
 x.imp_right fun x=>x.imp_left fun x=>x.imp_right fun x=>bC x fun tp n js h2 h3 h4=>zi tp n js h2 (k _ _ h3) h4
theorem yz{t:XN}(hf:t.fits n=true):t.place.size=n:=by
 simp only[SetTable.fits,Yl,beq_iff_eq] at hf;exact hf.1
theorem SV{js:List Nat}{es:Array (Int×Value)}{vs:List (Int×Value)}{y:Int×Value}(ι:js.map (fun j:Nat=>es[j]?)=vs.map some)(hx:vs[i]?=some y):∃j,js[i]?=some j/\es[j]?=some y:=by
 have e:=congrArg (fun l=>l[i]?) ι;rw[XM,XM,hx] at e;exact Yt.mp e
noncomputable abbrev gp(w:Xo)(a:XC)(es:Array (Int×Value))(ep:Nat)(t:XN)(vs:List (Int×Value))(i:Nat):i9:=.obj (Y5 w a es ep t vs i) IB
theorem Iy{es:Array (Int×Value)}{ep:Nat}{t:XN}{vs:List (Int×Value)}{oi:Obj}{h:Int}{x:Value}{Q:Option Value->WS->Prop}
  (ha:s.heap.get? a=some {cls:=.type "set",dict:=none,data:=.set es ep t}) (hf:t.fits es.size=true) (hit:s.heap.get? it=some oi) (hP:Y5 w a es ep t vs i Z oi) (hZ:∀b o,Z b=some o->s.heap.get? b=some o)
  (hx:vs[i]?=some (h,x)) (hQ:∀h' m_,h'.get? it=some m_->Y5 w a es ep t vs (i+1) Z m_->Xz it s.heap h'->Q (some x) {s with heap:=h' }):Xq (Xn d7 w) A (Zl (.ref it)) Q E s:=by
 refine hP.elim (fun hb e hv=>AG (j:=0) (j':=0) (e▸hit) ha hf rfl (fun A Q E hq=>AH hb ha hf ?_) fun h' hg y3=>hQ h' _ hg (.inl ⟨hb,rfl,hv⟩) y3) (fun hb tp n js e p_ ι=>ad (SV ι hx) fun j hj h1=>Ix (j:=j) (e▸hit) (hZ _ _ p_) ha hf rfl (by rw[List.getElem?_toArray,XM,hj];rfl) h1 fun h' hg y3=>hQ h' _ hg (.inr (.inl ⟨hb,tp,n,js,rfl,p_,ι⟩)) y3) fun hb hsz hl hv hm=>?_
 ·exact(Zk)▸(Eq.symm (hv))▸(Eq.symm (hx))▸hq
 ·have hi:i<es.size:=(ZF.mp (hv▸hx)).1;have T6:es.size=1:=Nat.le_antisymm hsz (Nat.lt_of_le_of_lt (Xk i) hi);have hpl:=(yz hf).trans T6;have hj:t.place[0]?=some _:=YI (hpl▸Nat.zero_lt_one);generalize t.place[0]=j at hj;refine hm.elim (fun q=>av q fun q e=>?_) fun q=>absurd hi (by rw[T6,q.1];exact Zh 1);subst q;refine AG (j:=0) (j':=j+1) (e▸hit) ha hf rfl (fun A Q E hq=>vK hb hl hsz ha hf ?_) fun h' hg y3=>hQ h' _ hg (.inr (.inr ⟨hb,hsz,hl,hv,.inr ⟨rfl,T6,j,hj,rfl⟩⟩)) y3;exact(Eq.symm (SR hpl))▸(Eq.symm (hj))▸(Zk)▸hv▸(Eq.symm (hx))▸hq
theorem IA{es:Array (Int×Value)}{ep:Nat}{t:XN}{vs:List (Int×Value)}{oi:Obj}{Q:Option Value->WS->Prop}(hh:A.handled=none)
  (ha:s.heap.get? a=some {cls:=.type "set",dict:=none,data:=.set es ep t}) (hf:t.fits es.size=true) (hit:s.heap.get? it=some oi) (hP:Y5 w a es ep t vs i Z oi) (hZ:∀b o,Z b=some o->s.heap.get? b=some o)
  (hx:vs[i]?=none) (hQ:∀h',Heap.ExtBut it s.heap h'->Q none {s with heap:=h' }):Xq (Xn d7 w) A (Zl (.ref it)) Q E s:=by
 refine hP.elim (fun hb e hv=>vI hh (j:=0) (e▸hit) ha hf rfl (fun A Q E hq=>AH hb ha hf ?_) hQ) (fun hb tp n js e p_ ι=>Iz hh (e▸hit) (hZ _ _ p_) ha hf rfl ?_ hQ) fun hb hsz hl hv hm=>?_
 ·exact(Zk)▸(Eq.symm (hv))▸(Eq.symm (hx))▸hq
 ·have e:=congrArg (fun l=>l[i]?) ι;rw[XM,XM,hx] at e;rw[List.getElem?_toArray,XM,Option.map_eq_none_iff.mp e];rfl
 ·have hi:es.size<=i:=List.getElem?_eq_none_iff.mp (hv▸hx);refine hm.elim (fun q=>av q fun q e=>?_) fun q=>cB q fun q T6 q'=>ad q' fun j hj e=>?_
  ·subst q;have h0:=Nat.le_zero.mp hi;refine vI hh (j:=0) (e▸hit) ha hf rfl (fun A Q E hq=>vK hb hl hsz ha hf ?_) hQ;rw[SS ((yz hf).trans h0),ZW hi];exact hq
  ·subst q;refine vI hh (j:=j+1) (e▸hit) ha hf rfl (fun A Q E hq=>vK hb hl hsz ha hf ?_) hQ;exact(Eq.symm (SQ ((yz hf).trans T6) hj))▸(Eq.symm (ZW hi))▸hq
end
section
open PySem PySem.W PySem.Builtin
noncomputable abbrev IH(es:Array (Int×Value))(ep:Nat)(t:XN):Obj:={ cls:=.type "set",dict:=none,data:=.set es ep t}
noncomputable abbrev gq(w:Xo)(ks:List Str)(o:Obj):i9:=qN (fE w ks) vJ o
theorem g5.setS{ks:List Str}{es:Array (Int×Value)}{ep:Nat}{t:XN}{vs:List (Int×Value)}{p:Pos}(hf:t.fits es.size=true)(hv:∀e∈vs,B8 w e) :
  ∀(d i:Nat),i+d=vs.length->g5 d7 w B [(a,gq w ks (IH es ep t))] k (.Name x p) it ((vs.drop i).map fun e => .str (gW e.2)) [(it,gp w a es ep t vs i)]:=by
 intro d;induction d with
 |zero =>
  intro i hi;have hi:i=vs.length:=(Nat.add_zero i).symm.trans hi;subst hi;rw[List.drop_length];intro A hA led hN s Z S Q E hQ;refine ad (S.own _ (WM ..)) fun oi G6 hP=>aU (S.own _ (WO _ (hN _ (WM ..)))) fun os t7 O3 hSP=>?_;subst O3;refine IA hA.h t7 hf G6 hP S.frozen (YQ (Xy _)) fun h' hx=>?_;have P:=f1.stepE (gl:=[(it,gp w a es ep t vs vs.length)]) (s':={ s with heap:=h' }) S (fun b o hb q=>hx b o (fun y=>hb (y▸WM ..)) q) rfl rfl;exact hQ _ Z P.1 P.2
 |succ d ih =>
  intro i hi;have l8:i<vs.length:=hi▸Nat.lt_add_of_pos_right (Nat.succ_pos d);rw[YH l8,WY];intro A hA led hN s Z S Q E hQ;refine ad (S.own _ (WM ..)) fun oi G6 hP=>aU (S.own _ (WO _ (hN _ (WM ..)))) fun os t7 O3 hSP=>?_;subst O3;refine gi (hv _ (List.getElem_mem l8)) fun y tk hy=>?_;refine Iy t7 hf G6 hP S.frozen (h:=hashStr w y) (x:=.str y tk) ((Xs l8).trans (congrArg some hy)) fun h' m_ hg Ì y3=>?_;have P:=S.upd (led':=(it,gp w a es ep t vs (i+1))::led) .here (h':=h') (tk:=s.toks) (fun b ob hb e=>(y3.2 b hb).trans e) rfl rfl ⟨m_,hg,Ì⟩;exact WN (hQ _ Z (.str y tk) [(it,gp w a es ep t vs (i+1))] P.1 (hy▸.str _ _) P.2 (ih (i+1) ((Nat.succ_add_eq_add_succ i d).trans hi)))
theorem f1.drawn{led:aa}(S:f1 B s Z led)(d:Drawn):f1 B {s with drawn:=d} Z led/\k8 (ah led) s Z {s with drawn:=d} Z (ah led) :=
 ⟨⟨S.base,S.frozen,S.nodup,S.apart,fun p hp=>(S.own p hp).mono (.refl _) (fun O e=>e) fun O O O e=>e,S.gnodup,S.bare⟩,
  ⟨.refl _,fun a o e O=>e,fun O h => .inl h,fun O O e => .inl e,rfl,fun O O e O=>e,fun O h => .inl h⟩⟩
theorem Wp{ks:List Str}(hm:(a,gq w ks o)∈st.led)
  (h:∀(it:XC) (xs:List Str) (gl:aa),xs.Perm ks->(∀x p,g5 d7 w B [(a,gq w ks o)] k (.Name x p) it (xs.map .str) gl)->K (.ref it) ⟨st.loc,gl++st.led⟩):F1 d7 w A B d8 Val pyIter (.ref a) st K:=F1.of fun s Z S Q E hQ=>Val.eRef <| by
 refine ad (S.own _ hm) fun o' ho hpin=>?_;dsimp only at ho;obtain⟨rfl,es,ep,t,rfl,s9,y_,hb,hf,A7,hpl⟩:=hpin;have hT:s.TypeIs (.ref a) "set" := ⟨_,ho,rfl⟩;refine wpAny_pyIter_slot hT F.slot_set_iter (XO F.slot_set_iter hT Ro ?_ (SY _));unfold Builtin.«frozenset.__iter__»;refine WL (WN ?_);refine WL ?_;unfold Builtin.Frozenset.sizeOf setEntries;refine WL (WL (Yr ho rfl hf (WN (WN ?_))));refine WL ?_;unfold setDrawn;refine WL (Yr ho rfl hf ?_);dsimp only;refine WL (qb (WN ?_));have j3:es.size=ks.length:=by rw[← s9.length_eq];simp
 split
 ·rename_i ν
  have Q6:(!bY w&&(!t.plain&&decide (es.size > 1)))=true:=ν;rw[Yl,Bool.not_eq_true'] at Q6;refine WL (Gx _ _ (by simp) fun js d hjp=>?_);refine WL (wpAny_newTuple ?_ (by rw[WP,hjp.length_eq,List.length_range];exact fits_of_scanBound hb));refine WL (wpAny_setEpoch_of (WX _ ho) rfl hf ?_);refine av (S.tof1.drawn d) fun S0 X0=>?_;have P1:=S0.pushZ (o:={ cls:=.type "tuple",data:=.seq (js.map fun j:Nat=>Yu j).toArray}) rfl s.toks;have hjlt:∀j∈js,j<es.size:=fun j hj=>by simpa using hjp.mem_iff.mp hj
  have â:js.map (fun j:Nat=>es[j]?)=(js.map fun j=>es.toList.getD j (0,.none)).map some:=by
   rw[YF];refine Zf fun j hj=>?_
   have:=hjlt j hj;simp[this]
  have δ:(js.map fun j=>es.toList.getD j (0,.none)).Perm es.toList:=by
   refine(hjp.map _).trans ?_;rw[show (List.range es.size).map (fun j=>es.toList.getD j (0,.none))=es.toList from ?_];refine List.ext_getElem (by simp) fun j h1 h2=>?_;simp at h1 h2
   simp[h2]
  have ã:∀e∈(js.map fun j=>es.toList.getD j (0,.none)),B8 w e:=fun e he=>y_ e (δ.mem_iff.mp he);generalize (js.map fun j=>es.toList.getD j (0,.none))=vs at â δ ã;refine WL ?_;unfold newFields;refine XZ (WN ⟨_,rfl, "set_iterator",_,⟨_,WW _ rfl,rfl⟩,eX.lookup,?_⟩) (by size_fits);have P2:=P1.1.push (o:=cC (.ref s.heap.objs.size) 0 a es.size ep) (ao:=gp w a es ep t vs 0) rfl s.toks
   ⟨_,WW _ rfl,.inr (.inl ⟨Q6.1,s.heap.objs.size,0,js,rfl,f9.add_at ..,â⟩)⟩
  have X:=(X0.trans P1.2).trans P2.2;have hI:=fun x p=>g5.setS (d7:=d7) (w:=w) (B:=B) (a:=a) (it:=(s.heap.push {cls:=.type "tuple",data:=.seq (js.map fun j:Nat=>Yu j).toArray}).objs.size) (ks:=ks) (es:=es) (ep:=ep) (t:=t) (vs:=vs) (k:=k) (x:=x) (p:=p) hf ã vs.length 0 ⋯;rw[List.drop_zero] at hI;exact hQ _ _ _ _ _ (h _ (vs.map fun e=>gW e.2) [(_,gp w a es ep t vs 0)] ((δ.map _).trans s9) (fun x p=>by exact(Eq.symm (YF))▸hI x p)) (S.after P2.1 X) (.ref _) X.toF
 ·rename_i ν
  have Q6 : ¬ ((!bY w&&(!t.plain&&decide (es.size > 1)))=true):=ν;refine WL (WN ?_);refine WL (wpAny_setEpoch_of ho rfl hf ?_);refine WL ?_;unfold newFields;refine XZ (WN ⟨_,rfl, "set_iterator",_,⟨_,WW _ rfl,rfl⟩,eX.lookup,?_⟩) (by size_fits);have fin:∀vs,vs.Perm es.toList->Y5 w a es ep t vs 0 Z (cC (.int 0 0) 0 a es.size ep)->Q (.ref s.heap.objs.size) {s with heap:=s.heap.push (cC (.int 0 0) 0 a es.size ep)}:=by
   intro vs δ hP;have ã:∀e∈vs,B8 w e:=fun e he=>y_ e (δ.mem_iff.mp he);have P2:=S.tof1.push (o:=cC (.int 0 0) 0 a es.size ep) (ao:=gp w a es ep t vs 0) rfl s.toks ⟨_,WW _ rfl,hP⟩;have hI:=fun x p=>g5.setS (d7:=d7) (w:=w) (B:=B) (a:=a) (it:=s.heap.objs.size) (ks:=ks) (es:=es) (ep:=ep) (t:=t) (vs:=vs) (k:=k) (x:=x) (p:=p) hf ã vs.length 0 ⋯;rw[List.drop_zero] at hI;exact hQ _ _ _ _ _ (h _ (vs.map fun e=>gW e.2) [(_,gp w a es ep t vs 0)] ((δ.map _).trans s9) (fun x p=>by exact(Eq.symm (YF))▸hI x p)) (S.after P2.1 P2.2) (.ref _) P2.2.toF
  cases ô:bY w with
  |true=>exact fin _ (Mf _ _) (.inl ⟨ô,rfl,rfl⟩)
  |false =>
   refine fin _ (.refl _) (.inr (.inr ⟨ô,?_,by rw[A7,ô];rfl,rfl,.inl ⟨rfl,rfl⟩⟩));rcases hpl with rfl |hpl
   ·exact(Eq.symm (j3))▸Xk _
   ·rw[ô,hpl] at Q6;simp at Q6
    exact Q6
end
section
open PySem PySem.W PySem.Builtin
theorem KV.at{K:Type}{l:List (K×AV)}{r:List (K×Value)}(h:KV Z l r):∀ {i:Nat} {k:K} {v:AV},l[i]?=some (k,v)->∃x,r[i]?=some (k,x)/\Val Z v x:=by
 induction h with
 |nil=>intro i k v e;simp at e
 | @cons k' v' x l r hv _ ih =>
  intro i k v e;cases i with
  |zero =>
   simp only[List.getElem?_cons_zero,YC,Prod.mk.injEq] at e;refine av e fun O1 O2=>?_;clear e;subst O1;subst O2;exact bb x rfl hv
  |succ i=>exact ih (by simpa using e)
noncomputable abbrev pi(w:Xo)(m:List (Str×AV))(o:Obj):i9:=qN (fX (XA d7 w) m) pj o
def yb(d:XC)(_:f9)(o:Obj):Prop:=o={ cls:=.type "dict_items",data:=.fields #[.ref d]}
theorem OL(Z Z':f9)(o:Obj)(k:f9.le Z Z')(x:yb d Z o):yb d Z' o:=x
noncomputable abbrev eO(d:XC):i9:=.obj (yb d) OL
def yC(d:XC)(od:Obj)(n i:Nat)(_:f9)(o:Obj):Prop:=∃es ep ok ov,od.data=.dict es ep /\
 o={ cls:=.type "dict_itemiterator",dict:=none,data:=.fields #[.none,.bool false,.ref d,.int i 0,.int n 0,.int ep 0,ok,ov],slots:=#[]}
theorem RJ{od:Obj}(Z Z':f9)(o:Obj)(k:f9.le Z Z')(x:yC d od n i Z o):yC d od n i Z' o:=x
noncomputable abbrev gG(d:XC)(od:Obj)(n i:Nat):i9:=.obj (yC d od n i) RJ
theorem g5.items{od:Obj}{m:List (Str×AV)}{x1} :
  ∀(c i:Nat),i+c=m.length->g5 d7 w B [(d,pi (d7:=d7) w m od)] k (.Tuple elts x1 pos) it ((m.drop i).map fun e => .tup [.str e.1,e.2]) [(it,gG d od m.length i)]:=by
 intro c;induction c with
 |zero =>
  intro i hi;have hi:i=m.length:=(Nat.add_zero i).symm.trans hi;subst hi;rw[List.drop_length];intro A hA led hN s Z S Q E hQ;obtain⟨oi,G6,es,ep,ok,ov,H2,rfl⟩:=S.own _ (WM ..);refine ad (S.own _ (WO _ (hN _ (WM ..)))) fun os t7 h_=>av h_ fun e_ h_=>ef h_ fun es' ù kvs a1 a2 a3 a4 a5 a6=>?_;subst e_;rw[H2] at a2;refine av (Data.dict.inj a2) fun O1 O2=>?_;subst O1;subst O2;have hl:=a6.length;have hit:IsItemIter s.heap it d m.length kvs.length ep ok ov:=by unfold IsItemIter;exact hl.symm▸G6
  refine wpAny_pyNext_items_end (knd:=XA d7 w) hA.h hit ⟨os,es,t7,a1,H2,a3,a4,a5⟩ (YQ (Nat.le_of_eq hl)) fun h' hx=>?_;have P:=f1.stepE (gl:=[(it,gG d os m.length m.length)]) (s':={ s with heap:=h' }) S (fun b o hb q=>hx b o (fun y=>hb (y▸WM ..)) q) rfl rfl;exact hQ _ Z P.1 P.2
 |succ c ih =>
  intro i hi;have l8:i<m.length:=hi▸Nat.lt_add_of_pos_right (Nat.succ_pos c);rw[YH l8,WY];intro A hA led hN s Z S Q E hQ;obtain⟨oi,G6,es,ep,ok,ov,H2,rfl⟩:=S.own _ (WM ..);refine ad (S.own _ (WO _ (hN _ (WM ..)))) fun os t7 h_=>av h_ fun e_ h_=>ef h_ fun es' ù kvs a1 a2 a3 a4 a5 a6=>?_;subst e_;rw[H2] at a2;refine av (Data.dict.inj a2) fun O1 O2=>?_;subst O1;subst O2;have hl:=a6.length;have hit:IsItemIter s.heap it d i kvs.length ep ok ov:=by unfold IsItemIter;exact hl.symm▸G6
  refine ad (a6.at (i:=i) (k:=m[i].1) (v:=m[i].2) (Xs l8)) fun x hx hv=>?_;refine wpAny_pyNext_items_item (knd:=XA d7 w) hit ⟨os,es,t7,a1,H2,a3,a4,a5⟩ hx fun key h' A8 a_ Y9 hsz w7=>?_;refine ak (Value.isStrOf_shape A8) fun tk O2=>?_;subst O2;refine wpAny_letOwnedTupleGo_items a_ fun h'' O_ y3=>?_;refine cB (f1.stepN (gl:=[(it,gG d os m.length i)]) (gl':=[(it,gG d os m.length (i+1))]) (s':={ s with heap:=h'' }) S (fun b o hb q=>(y3.2 b fun y=>hb (y▸WM ..)).trans (w7 b o (fun y=>hb (y▸WM ..)) q))
   (fk s) ((y3.2 _ (Nat.ne_of_gt (XT G6))).trans Y9) (fun O p hp=>Xi.mp hp▸⟨_,O_,es,ep,.str m[i].1 tk,x,H2,by rw[hl]⟩) rfl rfl rfl rfl) fun le P1 P2=>?_
  exact hQ _ _ (.ref s.heap.objs.size) [(it,gG d os m.length (i+1))] P1 (.tup (items:=[.str m[i].1 tk,x]) (f9.add_at ..) (.cons (.str _ _) (.cons (hv.mono le) .nil))) P2 (ih (i+1) ((Nat.succ_add_eq_add_succ i c).trans hi))
end
section
open PySem PySem.W PySem.Builtin
theorem Ws{v:XC}{od:Obj}{m:List (Str×AV)}(hm:(d,pi (d7:=d7) w m od)∈st.led)(hv:(v,eO d)∈st.led)
  (h:∀(it:XC),(∀elts x1 pos,g5 d7 w B [(d,pi (d7:=d7) w m od)] k (.Tuple elts x1 pos) it (m.map fun e => .tup [.str e.1,e.2]) [(it,gG d od m.length 0)])->K (.ref it) ⟨st.loc,[(it,gG d od m.length 0)]++st.led⟩) :
  F1 d7 w A B d8 Val pyIter (.ref v) st K:=F1.of fun s Z S Q E hQ=>Val.eRef <| by
 refine ad (S.own _ hv) fun ov hov O3=>?_;subst O3;refine ad (S.own _ hm) fun os t7 h_=>av h_ fun e_ h_=>ef h_ fun es ep kvs a1 a2 a3 a4 a5 a6=>?_;subst e_;dsimp only at hov t7;have hl:=a6.length;refine wpAny_pyIter_items (knd:=XA d7 w) (d:=d) (kvs:=kvs) (ep:=ep) ⟨_,hov,rfl,rfl⟩ ⟨os,es,t7,a1,a2,a3,a4,a5⟩ ?_;rw[hl];have P:=S.tof1.push (o:={ cls:=.type "dict_itemiterator",data:=.fields #[.none,.bool false,.ref d,.int 0 0,.int m.length 0,.int ep 0,.none,.none]}) (ao:=gG d os m.length 0) rfl s.toks
  ⟨_,WW _ rfl,es,ep,.none,.none,a2,rfl⟩
 have hI:=fun elts x1 pos=>g5.items (d7:=d7) (w:=w) (B:=B) (d:=d) (it:=s.heap.objs.size) (od:=os) (m:=m) (k:=k) (elts:=elts) (x1:=x1) (pos:=pos) m.length 0 ⋯;rw[List.drop_zero] at hI;exact hQ _ _ _ _ _ (h _ hI) (S.after P.1 P.2) (.ref _) P.2.toF
theorem Vu{P:f9->Obj->Prop}{mm}{m:List (Str×AV)}{led:aa}(y7:(d==Ze)=false)(hm:(d,.obj P mm)∈led)(hP:∀Z o,P Z o->fX (XA d7 w) m Z o)
  (h:∀v,v∉keys led->R (.ref v) ⟨loc,(v,eO d)::led⟩):FC d7 w A B d8 (.blt "dict.items") [.ref d] [] ⟨loc,led⟩ R:=FC.b fun s Z S Q E hQ=>Vals.un <| Val.eRef <| Vals.un0 <| by
 refine ad (S.own _ hm) fun os t7 hp=>?_;dsimp only at t7;refine ef (hP _ _ hp) fun es ep kvs a1 a2 a3 a4 a5 a6=>?_;have hD:s.heap.DictOf (XA d7 w) d kvs:=⟨os,es,ep,t7,a1,a2,a3,a4,a5⟩;have PP:=S.tof1.push (o:={ cls:=.type "dict_items",data:=.fields #[.ref d]}) (ao:=eO d) rfl s.toks ⟨_,WW _ rfl,rfl⟩;refine call_meetsIn F.slot_dict_items hD.typeIs F.entry_dict_items (F.args_dict_items_1 _) (meets_dict_items (XA d7 w) d y7) ⟨⟨kvs,hD⟩,?_⟩;exact hQ _ _ _ _ _ (h _ S.tof1.lfresh) (S.after PP.1 PP.2) (.ref _) PP.2.toF
theorem VK{ks:List Str}{led':aa}(hx:x∉ks)(hsz:ks.length+1<scanBound)(U:Upd a (eY w ks) (eY w (ks++[x])) st.led led')(h:K .none ⟨st.loc,led'⟩) :
  FC d7 w A B d8 (.blt "set.add") [.ref a,.str x] [] st K:=FC.b fun s Z S Q E hQ=>Vals.un <| Val.eRef <| Vals.un <| Val.eStr fun O=>Vals.un0 <| by
 refine ad (S.own _ U.mem) fun o ho hP=>?_;dsimp only at ho;refine SG (Z:=Z) ho hP hx hsz fun h' o' y3 hg Ì=>?_;have P:=S.tof1.upd U (h':=h') (tk:=s.toks+1) (fun b ob hb e=>(y3.2 b hb).trans e) rfl rfl ⟨o',hg,Ì⟩;exact hQ _ _ _ Z _ h (S.after P.1 P.2) .none P.2.toF
noncomputable def cL(m:List (Str×AV))(k:Str):List (Str×AV):=m.filter fun kv=>decide (kv.1≠k)
theorem KV.without(h:KV Z l r)(k:Str):KV Z (cL l k) (PySem.without r k):=by
 unfold cL PySem.without;induction h with
 |nil=>exact .nil
 | @cons k' v x l r hv _ ih =>
  rw[List.filter_cons,List.filter_cons];dsimp only;split
  ·exact .cons hv ih
  ·exact ih
theorem TU{o i:Expr}{F6:Pos}{K:g6->St->Prop}
  (h:T d7 w A B d8 Val (Yw o d8) st fun v j9=>T d7 w A B d8 Val (Yw i d8) j9 fun u m5=>∃d m x led',v=.ref d/\u=.str x/\Upd d (au (XA d7 w) m) (au (XA d7 w) (cL m x)) m5.led led' /\
   (aI m x).isSome=true/\m.length<=XK/\K .next ⟨m5.loc,led'⟩):T d7 w A B d8 j5 (exec (.Delete [.Subscript o i F6] pos) d8) st K:=fun s Z S Q E hQ=>by
 refine wpAny_Delete (wpAny_deleteEach_cons (wpAny_delete_Subscript (h s Z S _ _ fun v vx s₁ Z1 j9 k₁ S1 V1 X1=>k₁ s₁ Z1 S1 _ _ fun u ux s2 Z2 m5 k2 S2 V2 X2=>?_)));refine WE k2 fun d m x led' O5 O6 U H1 hsz hk=>?_;clear k2;subst O5;subst O6;cases V1;(refine ak V2.inv fun t_ e_=>?_;subst e_)
 refine ad (lX S2.tof1 U.mem) fun kvs hD K8=>?_;refine wpAny_delItem_slot hD.typeIs (by decide) F.slot_dict_delitem ?_;refine call_meetsIn F.slot_dict_delitem hD.typeIs F.entry_dict_delitem (F.args_dict_delitem_2 _ _) (meets_dict_delitem_pairs (XA d7 w) d (k:=x) (yd.mpr rfl)) ⟨kvs,hD,by rw[K8.length];exact hsz,?_,fun h' Î C5=>?_⟩
 ·rcases K8.find x with ⟨e1,e2⟩ |⟨u',y',e1,e2,e3⟩
  ·rw[e1] at H1;cases H1
  ·rw[e2];rfl
 ·have P:=S2.tof1.upd U (h':=h') (tk:=s2.toks+1) (fun b ob hb e=>C5.extBut b ob hb e) rfl rfl (lW Î (K8.without x));refine wpAny_deleteEach_nil ?_;exact hQ .next .next _ Z2 _ hk (S2.after P.1 P.2) .next ((X1.trans X2).trans P.2.toF)
end
section
open PySem PySem.W PySem.Builtin
theorem Ca{x y z:α}{l:List α}:(x::y::z::l).Perm (z::y::x::l):=(List.perm_append_comm_assoc [x,y] [z] l).trans (.cons z (.swap y x l))
theorem T.pinU{rel:f9->α->β->Prop}{t:Sem β}{P:f9->Obj->Prop}{m}{led:aa}{K:α->St->Prop}(hm:(a,.obj P m)∈led)
  (h:∀o Z,P Z o->∃led',Upd a (.obj P m) (qN P m o) led led'/\T d7 w A B d8 rel t ⟨loc,led'⟩ K):T d7 w A B d8 rel t ⟨loc,led⟩ K:=fun s Z S Q E hQ=>by
 refine ad (S.own _ hm) fun o ho hP=>?_;dsimp only at ho;refine ad (h o Z hP) fun led' U k=>?_;have X:=S.tof1.upd U (h':=s.heap) (tk:=s.toks) (fun b ob hb e=>e) rfl rfl ⟨o,ho,rfl,hP⟩;exact k s Z (S.after X.1 X.2) Q E fun v x s' Z' e9 kk S' V X'=>hQ v x s' Z' e9 kk S' V (X.2.toF.trans X')
theorem T.unpinU{rel:f9->α->β->Prop}{t:Sem β}{P:f9->Obj->Prop}{m}{led led':aa}{K:α->St->Prop}(U:Upd a (qN P m o) (.obj P m) led led')
  (h:T d7 w A B d8 rel t ⟨loc,led'⟩ K):T d7 w A B d8 rel t ⟨loc,led⟩ K:=fun s Z S Q E hQ=>by
 refine ad (S.own _ U.mem) fun o' ho hP=>?_;dsimp only at ho;have X:=S.tof1.upd U (h':=s.heap) (tk:=s.toks) (fun b ob hb e=>e) rfl rfl ⟨o',ho,hP.2⟩;exact h s Z (S.after X.1 X.2) Q E fun v x s' Z' e9 kk S' V X'=>hQ v x s' Z' e9 kk S' V (X.2.toF.trans X')
theorem Hi{ks:List Str}{led:aa}(hm:(a,eY w ks)∈led):ds B (.ref a) led "set" := fun s Z u V S=>by
 (have e_:=V.inv;subst e_)
 obtain⟨o,ho,es,ep,t,rfl,_⟩:=S.own _ hm;dsimp only at ho;exact⟨⟨_,ho,rfl⟩,fun b e=>by cases e;exact bb _ ho rfl⟩
theorem KV.keys(h:KV Z l r):r.map (·.1)=l.map (·.1):=by
 induction h with
 |nil=>rfl
 |cons v _ ih=>rw[WY,WY,ih]
theorem RT{m:List (Str×AV)}(h:fX (XA d7 w) m Z o):(m.map (·.1)).Nodup:=by
 refine ef h fun es ep kvs a b c d e f=>?_;clear h;exact(f.keys)▸e
theorem QM(m:List (Str×AV))(x k:Str):aI (cL m x) k=if k=x then none else aI m k:=by
 unfold aI cL;induction m with
 |nil=>simp
 |cons p r ih =>
  rw[List.filter_cons];by_cases e:p.1=x
  ·rw[if_neg (by simp[e]),ih,Za];by_cases q:k=x
   ·rw[if_pos q,if_pos q]
   ·rw[if_neg q,if_neg q]
    have : ¬ p.1=k:=fun z=>q (z▸e);simp[this]
  ·rw[if_pos (by simp[e]),Za,Za];by_cases q:p.1=k
   ·have : ¬ k=x:=fun z=>e (q▸z);simp[q,this]
   ·simp only[q,decide_false];exact ih
theorem DQ(xs:List Str):∀(m:List (Str×AV)) (k:Str),aI (xs.foldl cL m) k=if k∈xs then none else aI m k:=by
 induction xs with
 |nil=>intro m k;simp
 |cons x xs ih =>
  intro m k;rw[Yh,ih,QM];by_cases q:k∈xs
  ·simp[q]
  ·by_cases e:k=x <;> simp[q,e]
noncomputable def bW(nt:Nat)(es:bq):List Str:=(es.filter fun e=>decide (nt<e.2.2.length)).map (·.1)
theorem GA(m:List (Str×AV))(x:Str):(cL m x).length<=m.length:=List.length_filter_le ..
theorem Qg(xs:List Str):∀(m:List (Str×AV)),(xs.foldl cL m).length<=m.length:=by
 induction xs with
 |nil=>intro m;exact Xy _
 |cons x xs ih=>intro m;exact XQ (ih _) (GA m x)
theorem LW{nt:Nat}{es:bq}(h:((bf es).map (·.1)).Nodup):(bW nt es).Nodup:=by
 have e:(bf es).map (·.1)=es.map (·.1):=by simp[bf]
 rw[e] at h;unfold bW;exact(List.Sublist.map _ (List.filter_sublist ..)).nodup h
theorem LR{nt:Nat}{es:bq}{k:Str}(h:k∈bW nt es):(aI (bf es) k).isSome=true:=by
 refine ad (Xu.mp h) fun e he O3=>?_;subst O3;have he:=YZ.mp he;unfold aI;rw[Option.isSome_map,List.find?_isSome];exact bb (e.1,.lst e.2.2) (Xm (f:=fun e:Str×XC×List AV=>(e.1,AV.lst e.2.2)) he.1) (by simp)
theorem QR{m:List (Str×AV)}(h:(m.map (·.1)).Nodup){k:Str}(hm:(k,v)∈m):aI m k=some v:=by
 unfold aI;induction m with
 |nil=>cases hm
 |cons p r ih =>
  rw[WY,Xj] at h;rw[Za];rcases WT.mp hm with e |hm
  ·subst e;simp
  ·have : ¬ p.1=k:=fun z=>h.1 (z▸Xm (f:=fun p:Str×AV=>p.1) hm);simp only[this,decide_false];exact ih h.2 hm
theorem QQ{es:bq}{b xs:List Str}(h:cx es=dY (dZ [] 0 b))(hb:200<=b.length)(L_:((bf es).map (·.1)).Nodup)(hx:xs.Perm (bW (b.length / 100+1) es))(k:Str) :
  (aI (xs.foldl cL (bf es)) k).getD (.lst [])=.lst (cH (bd b k)):=by
 have hT:t5 (dZ [] 0 b) b:=by simpa using t5.chain b t5.nil
 have hf:=DP h k;rw[hT k] at hf;have j3:(cH (ce b k)).length=(ce b k).length:=by simp[cH]
 have hk:k∈xs↔jU b k=true:=by
  rw[hx.mem_iff];unfold jU;rw[decide_eq_true hb,Bool.true_and,decide_eq_true_eq];constructor
  ·intro hm;refine ad (Xu.mp hm) fun e he O3=>?_;subst O3;refine av (YZ.mp he) fun he hl=>?_;have hl:=of_decide_eq_true hl
   have:=QR L_ (k:=e.1) (v:=.lst e.2.2) (Xm (f:=fun e:Str×XC×List AV=>(e.1,AV.lst e.2.2)) he);rw[hf] at this;split at this
   ·cases this
   ·rw[c7] at this;injection this with this
    injection this with this
    exact(j3)▸(Eq.symm (this))▸hl
  ·intro hl;have t0 : ¬ ce b k=[]:=fun q=>by rw[q] at hl;simp at hl
   rw[if_neg t0,c7] at hf;unfold aI at hf;rw[Yt] at hf;refine ad hf fun p hp hv=>?_;clear hf;have hpm:=List.mem_of_find?_eq_some hp;have hpk:=List.find?_some hp;refine ad (Xu.mp hpm) fun e he O3=>?_;subst O3;have hek:e.1=k:=by simpa using hpk
   have hv:AV.lst e.2.2=.lst (cH (ce b k)):=hv;injection hv with hv
   exact Xu.mpr ⟨e,YZ.mpr ⟨he,by exact(Eq.symm (hv))▸(Eq.symm (j3))▸decide_eq_true hl⟩,hek⟩
 rw[DQ];unfold bd;by_cases q:k∈xs
 ·rw[if_pos q,if_pos (hk.mp q)];rfl
 ·rw[if_neg q,if_neg (fun z=>q (hk.mpr z)),hf];by_cases q:ce b k=[]
  ·rw[if_pos q,q];rfl
  ·rw[if_neg q];rfl
end
noncomputable abbrev fi(va:AV)(b:List Str):List (Str×AV) :=
 [(qA,.none),(di,va),(cZ,.lst (b.map .str)),(vW,.bool true),(vV,.none),(Bt,.none),(Bs,.none)]
noncomputable abbrev tu(d dj jk pp:XC)(b:List Str)(nt:Nat)(vi ve vx vz:AV):List (Str×AV) :=
 [(q6,.inst 242 d),(mJ,vi),(Br,ve),(Bq,vx),(cZ,.lst (b.map .str)),(qy,.ref dj),(Bo,.ref jk),(qA,.none),(Bm,.ref pp),(jB,.int b.length),(Bl,.int nt),(Bk,vz)]
noncomputable abbrev fh(va:AV)(b:List Str)(dj jk pp:XC):List (Str×AV):=fi va b++[(qy,.ref dj),(Bp,.ref jk),(Bn,.ref pp)]
theorem Iu:Slot "set" JH "set.add" := by
 rw[show (JH:Str)=WR "add" from by decide +kernel];exact F.slot_set_add
theorem Hj{m:List (Str×AV)}{od:Obj}{led:aa}(hm:(d,pi (d7:=af) w m od)∈led):ds B (.ref d) led "dict" := fun s Z u V S=>by
 cases V
 refine ad (S.own _ hm) fun o ho h_=>av h_ fun e_ h_=>ef h_ fun es ep kvs a b c e f g=>?_;subst e_;dsimp only at ho;have hD:s.heap.DictOf (XA af w) d kvs:=⟨o,es,ep,ho,a,b,c,e,f⟩;exact⟨hD.typeIs,hD.mapOf.noDict⟩
theorem BW(nt:Nat)(p:bq)(e:Str×XC×List AV):bW nt (p++[e])=bW nt p++(if nt<e.2.2.length then [e.1] else []):=by
 unfold bW;rw[List.filter_append,Xr];congr 1
 by_cases h:nt<e.2.2.length <;> simp[h]
theorem LV{nt:Nat}{p r:bq}{e:Str×XC×List AV}(h:((bf (p++e::r)).map (·.1)).Nodup):e.1∉bW nt p:=fun q=>by
 refine ad (Xu.mp q) fun e' he hk=>?_;have he:=(YZ.mp he).1;have e2:(bf (p++e::r)).map (·.1)=p.map (·.1)++(e.1::r.map (·.1)):=by simp[bf,Function.comp_def]
 rw[e2,List.nodup_append] at h;exact h.2.2 _ (Xm (f:=fun e:Str×XC×List AV=>e.1) he) e.1 (WM ..) hk
theorem LX(nt:Nat)(p:bq):(bW nt p).length<=p.length:=by
 unfold bW;rw[WP];exact List.length_filter_le ..
noncomputable abbrev dP(w:Xo)(m:List (Str×AV))(od:Obj):i9:=pi (d7:=af) w m od
theorem xG{dj:XC}(h:aj w dj=none):(dj==Ze)=false:=beq_eq_false_iff_ne.mpr fun q=>by
 have:(aj w Ze).isSome=true:=@_;rw[← q,h] at this;cases this
structure L8 (b pre rest:List Str) (es:bq):Prop where
 e:b=pre++rest
 es:cx es=dY (dZ [] 0 pre)
section
variable{b pre rest:List Str}{es r6 A2:bq}{js:List AV}{a':XC}
theorem L8.room(h:L8 b pre rest es):es.length<=b.length:=by
 have h1:=congrArg ZP h.es;simp only[cx,dY,WP] at h1;have h2:=EA pre [] 0;simp only[Xp] at h2;rw[h.e,WV];omega
theorem L8.step(h:L8 b pre (y::rest) es)(N0:∀v,eb (cx es) y v=cx (r6++(y,a',js++[v])::A2)):L8 b (pre++[y]) rest (r6++(y,a',js++[.int pre.length])::A2) :=
 ⟨by rw[h.e,Xv];rfl,by rw[Ey,Nat.zero_add,Ed,← h.es,N0]⟩
theorem L8.lens(h:L8 b pre rest es){e:Str×XC×List AV}(he:e∈es):e.2.2.length<=pre.length:=by
 have hm:(e.1,e.2.2)∈dY (dZ [] 0 pre):=by rw[← h.es];exact Xm (f:=fun e:Str×XC×List AV=>(e.1,e.2.2)) he
 refine ad (Xu.mp hm) fun e' ñ q=>?_;have h1:=Ez pre [] 0 0 (fun O h=>by cases h) e' ñ;have h2:=congrArg (fun p=>p.2.length) q;simp only[cH,WP] at h1 h2;omega
theorem L8.lenjs(h:L8 b pre (y::rest) es)(N0:∀v,eb (cx es) y v=cx (r6++(y,a',js++[v])::A2)):js.length<=b.length:=by
 have:=(h.step N0).lens (e:=(y,a',js++[.int pre.length])) (Xx _ (WM ..));have e:=(h.step N0).e;rw[e,WV];simp only[WV,Zj] at this ⊢;omega
end
section
variable(w:Xo)(d dj:XC)(va:AV)(b:List Str)(led:aa)
noncomputable abbrev Og(vi ve vx bj ju ij po nn nt vz:AV):List (Str×AV) :=
 [(q6,.inst 242 d),(mJ,vi),(Br,ve),(Bq,vx),(cZ,.lst (b.map .str)),(qy,bj),(Bo,ju),(qA,ij),(Bm,po),(jB,nn),(Bl,nt),(Bk,vz)]
noncomputable abbrev Ee(p:Str×Nat):AV:=.tup [.int p.2,.str p.1]
def JB(gs:List (Str×Nat))(P:St->Prop):Prop:=∀pre rest es,gs=rest.zipIdx pre.length->L8 b pre rest es->P ⟨Og d b .any .any .any (.ref dj) .any .any .any .any .any .any,(dj,au (XA af w) (cO es))::(eu es++(d,aX (fi va b++[(qy,.ref dj)]))::led)⟩
end
theorem zf{p:XC×i9}{l:aa}(h:p∈l):n7 [p] l:=fun q hq=>Xi.mp hq▸h
theorem Rk(l:List Str)(n:Nat):tO n (l.map .str)=(l.zipIdx n).map Ee:=by
 induction l generalizing n with
 |nil=>rfl
 |cons x l ih=>exact congrArg _ (ih (n+1))
theorem Gf{p:Str×Nat}{gs:List (Str×Nat)}{rest:List Str}(e:p::gs=rest.zipIdx n):∃r,rest=p.1::r/\n=p.2/\gs=r.zipIdx (n+1):=by
 cases rest with
 |nil=>cases e
 |cons y r=>cases e;exact⟨r,rfl,rfl,rfl⟩
theorem L8.all{b pre rest:List Str}{es:bq}(h:L8 b pre rest es)(e:[]=rest.zipIdx n):L8 b b [] es:=by
 cases rest with
 |nil =>
  have q:=h.e;rw[Yi] at q;exact q▸h
 |cons y r=>cases e
section
variable(w:Xo)(d dj jk pp:XC)(va:AV)(b:List Str)(es:bq)(od:Obj)(nt:Nat)(led:aa)
noncomputable abbrev DU(e:Str×XC×List AV):AV:=.tup [.str e.1,.lst e.2.2]
def JY(r:bq)(P:St->Prop):Prop:=∀p vv,es=p++r->P ⟨tu d dj jk pp b nt .any .any .any .any,(vv,eO dj)::(pp,eY w (bW nt p))::(jk,bV)::(dj,dP w (bf es) od)::(d,aX (fh va b dj jk pp))::led⟩
def KY(P:St->Prop):Prop:=∀vv ks,ks=bW nt es->P ⟨tu d dj jk pp b nt .any .any .any .any,(vv,eO dj)::(pp,eY w ks)::(jk,bV)::(dj,dP w (bf es) od)::(d,aX (fh va b dj jk pp))::led⟩
end
section
variable(w:Xo)(d dj jk pp vv:XC)(va:AV)(b:List Str)(m:List (Str×AV))(ks:List Str)(os:Obj)(nt:Nat)(led:aa)
def JZ(r:List Str)(P:St->Prop):Prop:=∀p M,M=p.foldl cL m->(p++r).Perm ks->P ⟨tu d dj jk pp b nt .any .any .any .any,(vv,eO dj)::(pp,gq w ks os)::(jk,bV)::(dj,au (XA af w) M)::(d,aX (fh va b dj jk pp))::led⟩
end
theorem Qf{p:List Str}{M m:List (Str×AV)}(e:M=p.foldl cL m):cL M y=(p++[y]).foldl cL m:=by rw[e,List.foldl_append];rfl
theorem L8.item{b:List Str}{es p r:bq}{ya:XC}{js:List AV}(h:L8 b b [] es)(e:es=p++(y,ya,js)::r):js.length<=b.length/\p.length<b.length:=by
 have h1:=h.lens (e:=(y,ya,js)) (e▸Xx _ (WM ..));have h2:=h.room;rw[e,WV,WU] at h2;exact⟨h1,by omega⟩
theorem LS{nt:Nat}{p:bq}{ya:XC}{js:List AV}(h:nt<js.length):bW nt p++[y]=bW nt (p++[(y,ya,js)]):=by rw[BW,if_pos h]
theorem LU{nt:Nat}{p:bq}{ya:XC}{js:List AV}(h : ¬ nt<js.length):bW nt p=bW nt (p++[(y,ya,js)]):=by rw[BW,if_neg h,Yi]
theorem Qe{es:bq}{b p:List Str}{M:List (Str×AV)}(e:M=p.foldl cL (bf es))(h:L8 b b [] es)(hb:b.length<4000):M.length<=XK:=by
 subst e;have h1:=Qg p (bf es);have h2:(bf es).length=es.length:=WP ..;have h3:=h.room;rw[Yq];omega
theorem Qd{nt:Nat}{es:bq}{p r ks:List Str}{M:List (Str×AV)}(e:M=p.foldl cL (bf es))(hk:ks=bW nt es)(L_:((bf es).map (·.1)).Nodup)(h:(p++y::r).Perm ks):(aI M y).isSome=true:=by
 subst e;subst hk;have hnod:=h.nodup_iff.mpr (LW L_);rw[DQ,if_neg fun q=>(List.nodup_append.mp hnod).2.2 _ q y (WM ..) rfl];exact LR (h.mem_iff.mp (Xx _ (WM ..)))
theorem Wh{a c r:Int}(h0:c≠0)(h2:c.natAbs<1073741824)(e:a.fdiv c=r)(h:K (.int r) st):F2 d7 w A B d8 Val (binaryOp .FloorDiv) (.int a) (.int c) st K :=
 FO h0 h2 (e.symm▸h)
theorem Ss{va:AV}{b:List Str}{led:aa}(hA:g7 A 20)(hb:b.length<4000) :
  TC af w A (aj w) (.ref 188) [.inst 242 d] [] ((d,aX (fi va b))::led) fun v led'=>v=.none/\∃dj jk pp mm,led'=(d,aX (fi va b++[(qy,.ref dj),(Bp,.ref jk),(Bn,.ref pp)]))::(dj,au (XA af w) mm)::(jk,bV)::led
   /\ (dj==Ze)=false/\∀k,(aI mm k).getD (.lst [])=.lst (cH (bd b k)):=by
 refine TC.weak (dD [(q6,.inst 242 d),(mJ,.any),(Br,.any),(Bq,.any),(cZ,.any),(qy,.any),(Bo,.any),(qA,.any),(Bm,.any),(jB,.any),(Bl,.any),(Bk,.any)] (bG w) hA.lt (fun O=>@_) @_ @_ (Qx _) fun L hL=>?_);have f8:=hA.deeper (k:=17) (d8:=ba (az (gz w.params)) L 188 187);have hh:=f8.h;have hG:=((((((gk w (A.deeper _) (az (gz w.params)) L 188 187 @_ @_ hh).g (lU w) @_ @_).g (PS w) @_ @_).g (PK w) @_ @_).m ⟨JN,1, "list.append"⟩ F.plainAttrs_list mE F.type_list_append).m ⟨JP,2, "dict.setdefault"⟩ F.plainAttrs_dict Io F.type_dict_setdefault);refine aC (aD hG 20 (f7.mk (dG (aS _) @_ (WM ..) (v:=.lst (b.map .str)) @_ rfl ?_)));refine aC (fu rfl rfl rfl (za (knd:=XA af w) fun dj hdj hdB=>dd (ae hG 5 (ee (m':=fi va b++[(qy,.ref dj)]) (aS _) @_ (.there .here) rfl (Yo rfl) (bp (aR rfl ?_))))));have y7:=xG hdB;refine aC (yU (k:=5) Ee (JB w d dj va b led) (f8.mono ⋯) (ae hG 20 (f7.mk (VD fun e it=>Wt (k:=5) fun hI => .mk hI (Rk b 0▸.mk (fun O y=>y [] b [] rfl ⟨rfl,rfl⟩) @_)))) ?_ ?_ fun O=>@_)
 ·intro gl p ps pre rest es e h;refine aU (Gf e) fun r e1 e2 e3=>?_;have h:=e1▸h;have hr:=h.room;refine dv hh @_ @_ @_ (cz _ rfl _ _ rfl rfl ?_);simp only[WZ,Xv];refine bv hG 40 ⟨qe (knd:=XA _ _) (WM ..),f7.mk (ec rfl fun a ha=>f7.mk (Vh y7 (by rw[Yq];omega) fun r6 a' js A2 N0=>?_))⟩;have hj:=h.lenjs N0;refine⟨bS (xs:=js) (.tail _ (Xx _ (.head _))),f7.mk (fz (xs:=js) (.there (.skip .here)) (by rw[Yq];omega) ?_)⟩;refine .nextE (l:=(dj,au (XA af w) (cO (r6++(p.1,a',js++[.int p.2])::A2)))::(eu (r6++(p.1,a',js++[.int p.2])::A2)++(d,aX (fi va b++[(qy,.ref dj)]))::led)) (by simp[cO,eu]) (.mk (fun O y=>y (pre++[p.1]) r _ (e3.trans (by rw[WV];rfl)) (e2▸h.step N0)) @_)
 ·intro pre rest es e h;have h:=h.all e;refine T.freezes (knd:=XA af w) es ?_;refine aC (fu rfl rfl rfl (ae hG 20 (f7.mk (Vl fun jk hjk=>dd (ae hG 5 (ee (m':=fi va b++[(qy,.ref dj),(Bp,.ref jk)]) (aS _) @_ (.there (.there .here)) rfl (Yo rfl) (bp (aR rfl ?_))))))));refine aC (aD hG 20 (f7.mk (dG (aS _) @_ (by repeat constructor) (v:=.none) @_ rfl ?_)));refine aC (aD hG 20 ?_);refine aC (fu rfl rfl rfl (ae hG 20 (f7.mk (Vk fun pp hpp=>dd (ae hG 5 (ee (m':=fh va b dj jk pp) (aS _) @_ (.there (.there (.there .here))) rfl (Yo rfl) (bp (aR rfl ?_))))))));refine aC (aD hG 20 (f7.mk (gP .frz (by rw[WP];omega) ?_)));rw[WP];refine bv hG 20 (f7.mk (pB (ae hG 5 (f7.mk (dG (aS _) @_ (by repeat constructor) (v:=.bool true) @_ rfl (uH ?_))))));refine Ma (Q:=True) (bh (fun c=>?_) fun c=>?_)
  ·have h200:200<=b.length:=by omega
   refine f7.mk (Wh (c:=100) (a:=b.length) (r:=(b.length / 100:Nat)) (by decide) (by decide) (by rw[Int.fdiv_eq_ediv_of_nonneg _ (by decide)];omega) ?_);refine f7.mk (T.pinU (a:=dj) (P:=fX (XA af w) (bf es)) (m:=pj) (by repeat constructor) fun od Z H2=>⟨_,by repeat constructor,?_⟩);have L_:=RT H2;refine T.join (KY w d dj jk pp va b es od (b.length / 100+1) led) (uo (N:=[(dj,dP w (bf es) od)]) (k:=5) DU (JY w d dj jk pp va b es od (b.length / 100+1) led) (fun O O O O h=>h) (f8.mono ⋯) ?_ ?_ (fun gs e9 h=>h (fun st=>n7 _ st.led) fun p vv O=>zf (by repeat constructor)) (fun p vv e => .mk (fun O y=>y vv _ (congrArg (bW _) (show p=es from(e.trans (Yi p)).symm))) @_) (fun O=>@_)) fun vv ks hks=>?_
   ·exact ut (T' := "dict") (id := "dict.items") @_ @_ @_ F.plainAttrs_dict Iq F.type_dict_items (ae hG 5 ⟨Hj (by repeat constructor),cp @_ gE (bD hG 5 (Vu y7 (P:=qM (fX (XA af w) (bf es)) od) (mm:=BZ pj) (m:=bf es) (by repeat constructor) (fun Z o h=>h.2) fun vv hvv=>Ws (d:=dj) (od:=od) (m:=bf es) (k:=5) (by repeat constructor) (by repeat constructor) fun it hI => .mk (hI _ _ _) ((show ((bf es).map fun e=>AV.tup [.str e.1,e.2])=es.map DU from YF)▸.mk (fun O y=>y [] vv rfl) @_)))⟩)
   ·intro gl x r p vv hp;refine av (h.item hp) fun hj hp2=>?_;have hj:x.2.2.length<=b.length:=hj;have hpk:=LX (b.length / 100+1) p;refine dv hh @_ @_ @_ (cz _ rfl _ _ rfl rfl ?_);refine bv hG 20 (f7.mk (gP .frz ⋯ (bh (fun c=>?_) fun c=>?_)))
    ·refine f7.mk (ut (T' := "set") (id := "set.add") @_ @_ @_ F.plainAttrs_set Iu F.type_set_add (ae hG 5 ⟨Hi (ks:=bW (b.length / 100+1) p) (by repeat constructor),cp @_ gE (bD hG 5 (VK (ks:=bW (b.length / 100+1) p) (LV (r:=r) (e:=x) (hp▸L_)) (by show _<4096;omega) (by repeat constructor) ?_))⟩));refine .next (l:=(vv,eO dj)::(pp,eY w (bW (b.length / 100+1) p++[x.1]))::(jk,bV)::(dj,dP w (bf es) od)::(d,aX (fh va b dj jk pp))::led) ?_;rw[LS (ya:=x.2.1) (js:=x.2.2) ⋯];exact .mk (fun O q=>q (p++[x]) vv (by rw[Xv];exact hp)) @_
    ·refine .next (l:=(vv,eO dj)::(pp,eY w (bW (b.length / 100+1) p))::(jk,bV)::(dj,dP w (bf es) od)::(d,aX (fh va b dj jk pp))::led) ?_;rw[LU (ya:=x.2.1) (y:=x.1) (js:=x.2.2) ⋯];exact .mk (fun O q=>q (p++[x]) vv (by rw[Xv];exact hp)) @_
   ·refine f7.mk ?_;refine T.unpinU (a:=dj) (o:=od) (P:=fX (XA af w) (bf es)) (m:=pj) (by repeat constructor) ?_;refine T.pinU (a:=pp) (P:=fE w ks) (m:=vJ) (by repeat constructor) fun os Z t7=>⟨_,by repeat constructor,?_⟩;refine T.join (fun P=>∀p M,M=p.foldl cL (bf es)->p.Perm ks->P ⟨tu d dj jk pp b (b.length / 100+1) .any .any .any .any,(vv,eO dj)::(pp,gq w ks os)::(jk,bV)::(dj,au (XA af w) M)::(d,aX (fh va b dj jk pp))::led⟩) (uo (N:=[(pp,gq w ks os)]) (k:=5) AV.str (JZ w d dj jk pp vv va b (bf es) ks os (b.length / 100+1) led) (fun O O O O h=>h) (f8.mono ⋯) ?_ ?_ (fun gs e9 h=>h (fun st=>n7 _ st.led) fun p M O O=>zf (by repeat constructor)) (fun p M e hp => .mk (fun O y=>y p M e (Yi p▸hp)) @_) (fun O=>@_)) fun p M e hp=>?_
    ·exact ae hG 20 (Wp (k:=5) (ks:=ks) (o:=os) (by repeat constructor) fun it xs gl hp hI => .mk (hI _ _) (.mk (fun O y=>y [] _ rfl hp) @_))
    ·intro gl y r p M e hp;refine bp (aR rfl (bv hG 20 (f7.mk (TU (ae hG 20 (ae hG 20 ⟨dj,M,y,_,rfl,rfl,by repeat constructor,Qd e hks L_ hp,Qe e h hb,.next (l:=(vv,eO dj)::(pp,gq w ks os)::(jk,bV)::(dj,au (XA af w) (cL M y))::(d,aX (fh va b dj jk pp))::led) (.mk (fun O q=>q (p++[y]) _ (Qf e) (by rw[Xv];exact hp)) @_)⟩))))))
    ·refine⟨(d,aX (fh va b dj jk pp))::(dj,au (XA af w) M)::(jk,bV)::led,⟨[(vv,eO dj),(pp,gq w ks os)],.cons _ (.cons _ Ca)⟩,rfl,dj,jk,pp,_,rfl,y7,e▸QQ h.es h200 L_ (hks▸hp)⟩
  ·refine⟨(d,aX (fh va b dj jk pp))::(dj,au (XA af w) (bf es))::(jk,bV)::led,⟨[(pp,eY w [])],.cons _ Ca⟩,rfl,dj,jk,pp,_,rfl,y7,QS h.es ⋯⟩
def ml(w:Xo)(d:XC)(a b:List Str)(led led':aa):Prop:=∃dj jk pp mm,led'=(d,aX (fi (.lst (a.map .str)) b++[(qy,.ref dj),(Bp,.ref jk),(Bn,.ref pp)]))::(dj,au (XA af w) mm)::(jk,bV)::led
   /\ (dj==Ze)=false/\∀k,(aI mm k).getD (.lst [])=.lst (cH (bd b k))
theorem ID{a b:List Str}{led:aa}(hA:g7 A 30)(hb:b.length<4000) :
  TC af w A (aj w) (.ref 181) [.inst 242 d,.lst (b.map .str)] [] ((d,aX [(qA,.none),(di,.lst (a.map .str)),(cZ,.none),(vW,.bool true),(vV,.none),(Bt,.none)])::led) fun v led'=>v=.none/\ml w d a b led led':=by
 refine TC.weak (dD [(cZ,.lst (b.map .str)),(q6,.inst 242 d)] (bG w) hA.lt (fun O O=>@_) @_ @_ (Qy _) fun L hL=>?_);have f8:=hA.deeper (k:=27) (d8:=ba (az (gA w.params)) L 181 180);have hG:=gk w (A.deeper _) (az (gA w.params)) L 181 180 @_ @_ f8.h;refine bv hG 60 (f7.mk (dG (aS _) @_ (WM ..) (v:=.none) @_ rfl ?_));refine f7.mk (cX rfl rfl rfl (ae hG 5 (dd (ae hG 5 (ee (m':=[(qA,.none),(di,.lst (a.map .str)),(cZ,.lst (b.map .str)),(vW,.bool true),(vV,.none),(Bt,.none)]) (aS _) @_ .here rfl (Yo rfl) (?_))))));refine f7.mk (fu rfl rfl rfl (ae hG 5 (dd (ae hG 5 (ee (m':=[(qA,.none),(di,.lst (a.map .str)),(cZ,.lst (b.map .str)),(vW,.bool true),(vV,.none),(Bt,.none)]) (aS _) @_ .here rfl (Yo rfl) (dd (ae hG 5 (ee (m':=[(qA,.none),(di,.lst (a.map .str)),(cZ,.lst (b.map .str)),(vW,.bool true),(vV,.none),(Bt,.none)]) (aS _) @_ .here rfl (Yo rfl) (?_)))))))));refine f7.mk (cX rfl rfl rfl (ae hG 5 (dd (ae hG 5 (ee (m':=fi (.lst (a.map .str)) b) (aS _) @_ .here rfl (Yo rfl) (?_))))));refine f7.mk (gK (name:=vU) (C:=242) (f:=188) @_ @_ @_ (aS _) @_ @_ (ae hG 5 (.mk (WM ..) @_ (cp @_ (bK @_) (bD hG 10 (fy (Ss (f8.mono ⋯) hb) fun v led' h=>?_))))));exact ed _ (.refl _) rfl h.2
theorem IC{a b:List Str}{led:aa}(hA:g7 A 40)(hb:b.length<4000) :
  TC af w A (aj w) (.ref 167) [.inst 242 d,.lst (a.map .str),.lst (b.map .str)] [] ((d,aX [(qA,.none),(di,.none),(cZ,.none),(vW,.bool true)])::led) fun v led'=>v=.none/\ml w d a b led led':=by
 refine TC.weak (dD [(cZ,.lst (b.map .str)),(di,.lst (a.map .str)),(q6,.inst 242 d)] (bG w) hA.lt (fun O O O=>@_) @_ @_ (QA _) fun L hL=>?_);have f8:=hA.deeper (k:=37) (d8:=ba (az (gC w.params)) L 167 166);have hG:=gk w (A.deeper _) (az (gC w.params)) L 167 166 @_ @_ f8.h;refine bv hG 60 (f7.mk (gK (name:=jD) (C:=242) (f:=174) @_ @_ @_ (aS _) @_ @_ (ae hG 5 (.mk (WM ..) @_ (cp @_ (bK @_) (bD hG 10 (fy (IE (f8.mono ⋯) rfl (Yo rfl)) fun v led' h=>?_)))))));refine av h fun O1 O2=>?_;clear h;subst O1;subst O2;refine f7.mk (gK (name:=jC) (C:=242) (f:=181) @_ @_ @_ (aS _) @_ @_ (ae hG 5 (.mk (WM ..) @_ (cp @_ (bK @_) (bD hG 10 (fy (K0:=fun v led'=>v=.none/\ml w d a b led led') (ID (f8.mono ⋯) hb) fun v led' h=>?_))))));exact ed _ (.refl _) rfl h.2
theorem init{a b:List Str}{led:aa}(hA:g7 A 50)(hb:b.length<4000) :
  TC af w A (aj w) (.ref 160) [.inst 242 d,.none,.lst (a.map .str),.lst (b.map .str)] [] ((d,aX [])::led) fun v led'=>v=.none/\ml w d a b led led':=by
 refine TC.weak (zd (binds:=[(q6,.inst 242 d),(qA,.none),(di,.lst (a.map .str)),(cZ,.lst (b.map .str)),(vW,.bool true)]) (bG w) (QB _) hA.lt (Binds.of4 fun Z v1 v2 v3 v4 h1 h2 h3 h4=>⟨_,@_,.cons h1 (.cons h2 (.cons h3 (.cons h4 (.cons (.bool true) .nil))))⟩) @_ fun L hL=>?_);have f8:=hA.deeper (k:=47) (d8:=ba (az (gD w.params)) L 160 159);have hG:=gk w (A.deeper _) (az (gD w.params)) L 160 159 @_ @_ f8.h;simp only[Xw,XG,Xe,WZ];refine bv hG 60 (f7.mk (cX rfl rfl rfl (ae hG 5 (dd (ae hG 5 (ee (m':=[(qA,.none)]) (aS _) @_ .here rfl (Yo rfl) (?_)))))));refine f7.mk (fu rfl rfl rfl (ae hG 5 (dd (ae hG 5 (ee (m':=[(qA,.none),(di,.none)]) (aS _) @_ .here rfl (Yo rfl) (dd (ae hG 5 (ee (m':=[(qA,.none),(di,.none),(cZ,.none)]) (aS _) @_ .here rfl (Yo rfl) (?_)))))))));refine f7.mk (cX rfl rfl rfl (ae hG 5 (dd (ae hG 5 (ee (m':=[(qA,.none),(di,.none),(cZ,.none),(vW,.bool true)]) (aS _) @_ .here rfl (Yo rfl) (?_))))));refine f7.mk (gK (name:=jE) (C:=242) (f:=167) @_ @_ @_ (aS _) @_ @_ (ae hG 5 (.mk (WM ..) @_ (cp @_ (bK @_) (bD hG 10 (fy (IC (f8.mono ⋯) hb) fun v led' h=>?_))))));exact ed _ (.refl _) rfl h.2
theorem NO{a b:List Str}{led:aa}(hA:g7 A 60)(hb:b.length<4000) :
  TC af w A (aj w) (.ref 242) [.none,.lst (a.map .str),.lst (b.map .str)] [] led fun v led'=>∃d,v=.inst 242 d/\ml w d a b led led' :=
 Uw (k:=59) (hA.mono ⋯) @_ @_ @_ fun d A' f8 hd=>(init (f8.mono ⋯) hb).mono fun v l h=>⟨h.1,d,rfl,h.2⟩
theorem NQ{a b:List Str}{led:aa}{P:AV->aa->Prop}
  (k:∀d dj jk pp mm,(dj==Ze)=false->(∀k,(aI mm k).getD (.lst [])=.lst (cH (bd b k)))->P (.inst 242 d) ((d,aX (fi (.lst (a.map .str)) b++[(qy,.ref dj),(Bp,.ref jk),(Bn,.ref pp)]))::(dj,au (XA af w) mm)::(jk,bV)::led))
  (v:AV) (led':aa) (h:∃d,v=.inst 242 d/\ml w d a b led led'):P v led' :=
 ad h fun d e h=>cA h fun dj jk pp mm el y7 T7=>e▸el▸k d dj jk pp mm y7 T7
theorem CB(w:Xo):W0 af w (KB w.params) 135:=⟨@_,@_,@_,@_,@_⟩
set_option backward.match.sparseCases false in
noncomputable def Cb(P:WQ):XC:=match findCls (KB P) (.ref 135) (.type "type") "__new__" with |some (.get _ (.ref p) _ _)=>p |_=>0
noncomputable def Jv(P:WQ):List Value:=((recIn (KB P) (Cb P) "staticmethod").getD []).tail
noncomputable def Nd(w:Xo):List Value:=(XW (KB w.params) ⟨af,w.params⟩ (mroOf (.ref 135))).getD []
theorem NJ(w:Xo):Q1 af w (KB w.params) 135 82 :=
 ⟨⟨iS w.params,EC (iS w.params),@_,@_⟩,@_,@_,⟨Nd w,@_,@_⟩,@_,@_,⟨Cb w.params,Jv w.params,@_,@_⟩,@_,@_,@_⟩
theorem MW{x y z:Int}{led:aa}(hA:g7 A 20) :
  TC af w A (aj w) (.ref 82) [.ref 135,.int x,.int y,.int z] [] led fun v led'=>v=.mat 135 [.int x,.int y,.int z]/\led'=led:=by
 refine dD [(ib,.int z),(cZ,.int y),(di,.int x),(Bx,.ref 135)] (bG w) hA.lt (fun O O O O=>@_) @_ @_ (Ql _) fun L hL=>?_;have hG:=(gk w (A.deeper (ba (az (fJ w.params)) L 82 81)) (az (fJ w.params)) L 82 81 @_ @_ hA.h).g (Dq w) @_ @_;refine bv hG 60 (f7.mk (Fe (name:=jJ) (T' := "tuple") (id := "tuple.__new__") @_ @_ @_ (by decide +kernel) @_ @_ @_ @_ @_ (ae hG 5 ⟨rfl,cp @_ gE (bD hG 20 (Fw (CB w) (by decide:3<=XK) (fun O=>@_) ?_))⟩)));exact⟨rfl,rfl⟩
theorem NP{x y z:Int}{led:aa}(hA:g7 A 30) :
  TC af w A (aj w) (.ref 135) [.int x,.int y,.int z] [] led fun v led'=>v=.mat 135 [.int x,.int y,.int z]/\led'=led :=
 Uq (k:=29) (xs:=[.int x,.int y,.int z]) (hA.mono ⋯) (NJ w) fun A' f8=>(MW (f8.mono ⋯)).mono fun v l h=>⟨h.1,rfl,h.2⟩
section
variable{a b:List Str}{alo g4 f2 f6:Nat}
def pF(s:ab)(ti tj tk:Int):Prop:=ti=s.1/\tj=s.2.1/\tk=s.2.2
structure J3 (a b:List Str) (alo g4 f2 f6 i0:Nat) (s:(Int->Nat)×ab) (m:List (Int×AV)) (ti tj tk:Int):Prop where
 g1:alo<=i0
 g2:i0<=g4
 inv:p9 alo f2 f6 i0 s
 fold:ej (aQ a b) f2 f6 (Yk i0 (g4-i0)) s=ej (aQ a b) f2 f6 (Yk alo (g4-alo)) (fun O=>0,(alo,f2,0))
 rel:G4 m s.1
 e:pF s.2 ti tj tk
theorem J3.start(h1:alo<=g4)(h3:f2<=f6):J3 a b alo g4 f2 f6 alo (fun O=>0,(alo,f2,0)) [] alo f2 0:=⟨Xy _,h1,p9.start h3,rfl,G4.nil,rfl,rfl,rfl⟩
structure G8 (b:List Str) (alo f2 f6 i0:Nat) (s:(Int->Nat)×ab) (la:Str) (js:List Nat) (s2:(Int->Nat)×ab) (m2:List (Int×AV)) (ti tj tk:Int):Prop where
 sort:js.Pairwise (· < ·)
 lt:∀j∈js,j<b.length
 inv:p9 alo f2 f6 (i0+1) s2
 fold:(within f2 f6 js).foldl (dc s.1 i0) s2=eZ (bd b la) f2 f6 i0 s
 rel:G4 m2 s2.1
 len:m2.length+js.length<=b.length
 e:pF s2.2 ti tj tk
structure I3 (b:List Str) (alo f2 f6 i0:Nat) (s:(Int->Nat)×ab) (la:Str) (m2:List (Int×AV)) (ti tj tk:Int):Prop where
 rel:G4 m2 (eZ (bd b la) f2 f6 i0 s).1
 inv:p9 alo f2 f6 (i0+1) (eZ (bd b la) f2 f6 i0 s)
 e:pF (eZ (bd b la) f2 f6 i0 s).2 ti tj tk
theorem xA{a b:Nat}(q : ¬ (a:Int)<b):b<=a:=Nat.not_lt.mp fun h=>q (Int.ofNat_lt.mpr h)
theorem Cj{a b:Nat}(q : ¬ (a:Int)<=b):b<a:=Nat.not_le.mp fun h=>q (Int.ofNat_le.mpr h)
theorem On{x m b:Nat}(hl:x<=m+1)(hn:m+(j+1)<=b):x+j<=b:=XQ (Nat.add_le_add_right hl _) (XQ (Nat.le_of_eq (Nat.succ_add_eq_add_succ ..)) hn)
theorem Ar{m:Nat}(h:m<n):n-m=n-(m+1)+1:=(Nat.succ_pred_eq_of_pos (Nat.sub_pos_of_lt h)).symm
theorem Aq{D:Nat}(h:D<=i):(i:Int)-((D:Int)+1)+1=((i-D:Nat):Int):=by rw[Int.ofNat_sub h,← Int.sub_sub,Int.sub_add_cancel]
variable{i0:Nat}{s s2:(Int->Nat)×ab}{m m2:List (Int×AV)}{ti tj tk:Int}{la:Str}{js:List Nat}
theorem J3.inn(h:J3 a b alo g4 f2 f6 i0 s m ti tj tk):G8 b alo f2 f6 i0 s la (bd b la) (fun O=>0,s.2) [] ti tj tk :=
 ⟨Dj b la,fun j hj=>Pa hj,h.inv.row,rfl,G4.nil,by simpa using Pb b la,h.e⟩
theorem G8.low(h:G8 b alo f2 f6 i0 s la (j::js) s2 m2 ti tj tk)(q:(j:Int)<f2):G8 b alo f2 f6 i0 s la js s2 m2 ti tj tk :=
 ⟨(ZB.mp h.sort).2,fun j' L5=>h.lt j' (WO _ L5),h.inv,by rw[← h.fold,GC (Int.ofNat_lt.mp q)],h.rel,XQ (Nat.add_le_add_left (Nat.le_succ _) _) h.len,h.e⟩
theorem G8.done(h:G8 b alo f2 f6 i0 s la js s2 m2 ti tj tk)(q:within f2 f6 js=[]):I3 b alo f2 f6 i0 s la m2 ti tj tk:=by
 have f:=h.fold;rw[q] at f;have f:s2=_:=f;exact⟨f▸h.rel,f▸h.inv,f▸h.e⟩
theorem G8.out(h:G8 b alo f2 f6 i0 s la (j::js) s2 m2 ti tj tk)(q:(f6:Int)<=j):I3 b alo f2 f6 i0 s la m2 ti tj tk:=h.done (GB h.sort (Int.ofNat_le.mp q))
theorem G8.room(h:G8 b alo f2 f6 i0 s la (j::js) s2 m2 ti tj tk):m2.length<=b.length:=XQ (Nat.le_add_right _ _) h.len
theorem G8.go(h:G8 b alo f2 f6 i0 s la (j::js) s2 m2 ti tj tk)(r:J3 a b alo g4 f2 f6 i0 s m à Þ W4)(q : ¬ (j:Int)<f2)(q' : ¬ (f6:Int)<=j){ui uj uk:Int}(hu:pF (dc s.1 i0 s2 j).2 ui uj uk) :
  G8 b alo f2 f6 i0 s la js (dc s.1 i0 s2 j) (ei m2 (j:Int) (.int (((s.1 ((j:Int)-1):Nat):Int)+1))) ui uj uk:=by
 have f:=h.fold;rw[GD (xA q) (Cj q'),Yh] at f;exact⟨(ZB.mp h.sort).2,fun j' L5=>h.lt j' (WO _ L5),r.inv.step h.inv r.g1 (xA q) (Cj q'),f,h.rel.store (j:Int) (s.1 ((j:Int)-1)+1),On (HM ..) h.len,hu⟩
theorem G8.hit(h:G8 b alo f2 f6 i0 s la (j::js) s2 m2 ti tj tk)(r:J3 a b alo g4 f2 f6 i0 s m à Þ W4)(q : ¬ (j:Int)<f2)(q' : ¬ (f6:Int)<=j)(hk:tk<((s.1 ((j:Int)-1):Nat):Int)+1) :
  G8 b alo f2 f6 i0 s la js (dc s.1 i0 s2 j) (ei m2 (j:Int) (.int (((s.1 ((j:Int)-1):Nat):Int)+1))) (i0-(((s.1 ((j:Int)-1):Nat):Int)+1)+1) (j-(((s.1 ((j:Int)-1):Nat):Int)+1)+1) (((s.1 ((j:Int)-1):Nat):Int)+1):=by
 refine av (r.inv.len r.g1 (j:=j) (xA q)) fun e1 e2=>?_;refine h.go r q q' ?_;unfold dc;rw[if_pos (Int.ofNat_lt.mp (h.e.2.2▸hk))];exact⟨Aq (XQ e1 (Nat.sub_le ..)),Aq (XQ e2 (Nat.sub_le ..)),rfl⟩
theorem G8.miss(h:G8 b alo f2 f6 i0 s la (j::js) s2 m2 ti tj tk)(r:J3 a b alo g4 f2 f6 i0 s m à Þ W4)(q : ¬ (j:Int)<f2)(q' : ¬ (f6:Int)<=j)(hk : ¬ tk<((s.1 ((j:Int)-1):Nat):Int)+1) :
  G8 b alo f2 f6 i0 s la js (dc s.1 i0 s2 j) (ei m2 (j:Int) (.int (((s.1 ((j:Int)-1):Nat):Int)+1))) ti tj tk:=by
 refine h.go r q q' ?_;unfold dc;rw[if_neg fun c=>hk (h.e.2.2▸Int.ofNat_lt.mpr c)];exact h.e
theorem J3.next(r:J3 a b alo g4 f2 f6 i0 s m à Þ W4)(hi:i0<g4)(P7:a[i0]?=some la)(h:I3 b alo f2 f6 i0 s la m2 ti tj tk):J3 a b alo g4 f2 f6 (i0+1) (eZ (bd b la) f2 f6 i0 s) m2 ti tj tk:=by
 refine⟨Nat.le_succ_of_le r.g1,hi,h.inv,?_,h.rel,h.e⟩;rw[← r.fold,Ar hi,Zw];show _=ej _ _ _ _ (eZ (aQ a b i0) f2 f6 i0 s);rw[show aQ a b i0=bd b la by unfold aQ;rw[P7];rfl]
structure l9 (b:List Str) (z:Int) (y:Str):Prop where
 at':(b.map AV.str)[z.toNat]?=some (.str y)
 raw:b[z.toNat]?=some y
 pos:0<=z
 lt:z<b.length
theorem ON{b:List Str}{z:Int}(h0:0<=z)(h1:z<b.length):∃y,l9 b z y:=by
 have hl:z.toNat<b.length:=(Int.toNat_lt h0).mpr h1;exact⟨b[z.toNat],by rw[XM,Xs hl];rfl,Xs hl,h0,h1⟩
structure Lf (e:Nat->Nat->Bool) (alo g4 f2 f6:Nat) (t:ab) (ti tj tk:Int) (n:Nat):Prop where
 run:∃i j k:Nat,ti=i/\tj=j/\tk=k/\n=i/\alo<=i/\f2<=j/\i+k<=g4/\j+k<=f6/\bB e alo f2 i j k=t
structure Lx (alo g4 f2 f6:Nat) (t:ab) (ti tj tk:Int):Prop where
 e:pF t ti tj tk
 h1:alo<=t.1
 h2:f2<=t.2.1
 h3:t.1+t.2.2<=g4
 h4:t.2.1+t.2.2<=f6
variable{t:ab}
theorem J3.lf(r:J3 a b alo g4 f2 f6 g4 s m ti tj tk):Lf (aB a b) alo g4 f2 f6 (bB (aB a b) alo f2 s.2.1 s.2.2.1 s.2.2.2) ti tj tk s.2.1 :=
 ⟨_,_,_,r.e.1,r.e.2.1,r.e.2.2,rfl,r.inv.b1,r.inv.b3,r.inv.b2,r.inv.b4,rfl⟩
theorem oY{b:List Str}(h:j<b.length):∃y,l9 b (j:Int) y :=
 ⟨b[j],by rw[XJ,XM,Xs h];rfl,Xs h,Int.natCast_nonneg j,Int.ofNat_lt.mpr h⟩
theorem iu(j:Nat):((j+1:Nat):Int)-1=j:=Int.add_sub_cancel j 1
theorem l9.nat(h:l9 b (j:Int) y):b[j]?=some y:=h.raw
theorem oT{m l:Nat}(h:j+1+k<=m)(hl:m<=l):j<l:=Nat.lt_of_lt_of_le (Nat.lt_of_lt_of_le (Zv j) (XQ (Nat.le_add_right _ k) h)) hl
theorem oQ{m:Nat}(q:(m:Int)<((0:Nat):Int)):P:=absurd (Int.ofNat_lt.mp q) (Nat.not_lt_zero m)
theorem Lf.item(h:Lf e alo g4 f2 f6 t ti tj tk n)(hb:f6<=b.length)(q:(f2:Int)<tj):∃y,l9 b (tj-1) y:=by
 refine pO h.run fun i j k e1 e2 e3 O7 O8 O9 O10 h4 O12=>?_;clear O12;subst e2;cases j with
 |zero=>exact oQ q
 |succ j=>rw[iu];exact oY (oT h4 hb)
theorem Lf.itemA(h:Lf e alo g4 f2 f6 t ti tj tk n)(ha:g4<=a.length)(q:(alo:Int)<ti):∃y,l9 a (ti-1) y:=by
 refine pO h.run fun i j k e1 e2 e3 O7 O8 O9 h3 O11 O12=>?_;clear O12;subst e1;cases i with
 |zero=>exact oQ q
 |succ i=>rw[iu];exact oY (oT h3 ha)
theorem Lf.go(h:Lf (aB a b) alo g4 f2 f6 t ti tj tk n)(q1:(alo:Int)<ti)(q2:(f2:Int)<tj)(ix:l9 a (ti-1) x)(iy:l9 b (tj-1) y)(hc:(x==y)=true) :
  (ti-1).toNat<n/\Lf (aB a b) alo g4 f2 f6 t (ti-1) (tj-1) (tk+1) (ti-1).toNat:=by
 refine pO h.run fun i j k e1 e2 e3 e4 h1 h2 h3 h4 hr=>?_;subst e1;subst e2;subst e3;subst e4;cases n with
 |zero=>exact oQ q1
 |succ i =>
  cases j with
  |zero=>exact oQ q2
  |succ j =>
   rw[iu] at ix iy;rw[iu,iu];have c1:=Int.ofNat_lt.mp q1;have c2:=Int.ofNat_lt.mp q2;exact⟨Zv i,i,j,k+1,rfl,rfl,rfl,rfl,Nat.le_of_lt_succ c1,Nat.le_of_lt_succ c2,by rw[← Nat.add_assoc,Nat.add_right_comm];exact h3,by rw[← Nat.add_assoc,Nat.add_right_comm];exact h4,
    by rw[← hr,Rg c1 c2 ((tK ix.nat iy.nat).trans hc)]⟩
theorem Lf.stop(h:Lf (aB a b) alo g4 f2 f6 t ti tj tk n)(q : ¬ ((alo:Int)<ti/\(f2:Int)<tj/\∀x y,l9 a (ti-1) x->l9 b (tj-1) y->(x==y)=true))(ha:g4<=a.length)(hb:f6<=b.length) :
  Lx alo g4 f2 f6 t ti tj tk:=by
 refine pO h.run fun i j k e1 e2 e3 e4 h1 h2 h3 h4 hr=>?_;subst e1;subst e2;subst e3;subst e4;have f:bB (aB a b) alo f2 n j k=(n,j,k):=by
  by_cases c1:alo<n
  ·by_cases c2:f2<j
   ·cases n with
    |zero=>exact absurd c1 (Nat.not_lt_zero _)
    |succ i =>
     cases j with
     |zero=>exact absurd c2 (Nat.not_lt_zero _)
     |succ j =>
      have ia:=oT h3 ha;have jb:=oT h4 hb;refine Rd ?_;rw[tK (Xs ia) (Xs jb)];refine Bool.eq_false_iff.mpr fun hc=>q ⟨Int.ofNat_lt.mpr c1,Int.ofNat_lt.mpr c2,fun x y ix iy=>?_⟩;rw[iu] at ix iy;have hx:=ix.nat;have hy:=iy.nat;rw[Xs ia] at hx;rw[Xs jb] at hy;cases hx;cases hy;exact hc
   ·exact Re c2
  ·exact Rf c1
 rw[f] at hr;subst hr;exact⟨⟨rfl,rfl,rfl⟩,h1,h2,h3,h4⟩
structure Rt (e:Nat->Nat->Bool) (g4 f6:Nat) (t:ab) (tk:Int) (n:Nat):Prop where
 run:∃k:Nat,tk=k/\n=g4-(t.1+k)/\t.1+k<=g4/\t.2.1+k<=f6/\cj e g4 f6 t.1 t.2.1 (g4-(t.1+k)) k=cj e g4 f6 t.1 t.2.1 (g4-(t.1+t.2.2)) t.2.2
structure Rx (e:Nat->Nat->Bool) (g4 f6:Nat) (t:ab) (tk:Int):Prop where
 e:tk=(cj e g4 f6 t.1 t.2.1 (g4-(t.1+t.2.2)) t.2.2:Nat)
 h3:t.1+tk<=g4
 h4:t.2.1+tk<=f6
 h5:0<=tk
theorem Lx.rt(h:Lx alo g4 f2 f6 t ti tj tk):Rt e g4 f6 t tk (g4-(t.1+t.2.2)):=⟨t.2.2,h.e.2.2,rfl,h.h3,h.h4,rfl⟩
theorem Rt.item(h:Rt e g4 f6 t tk n)(l:Lx alo g4 f2 f6 t ti tj W4)(hb:f6<=b.length)(q:tj+tk<f6):∃y,l9 b (tj+tk) y:=by
 refine ad h.run fun k e1 O3=>?_;clear O3;rw[l.e.2.1,e1] at q ⊢;exact oY (Nat.lt_of_lt_of_le (Int.ofNat_lt.mp q) hb)
theorem Rt.itemA(h:Rt e g4 f6 t tk n)(l:Lx alo g4 f2 f6 t ti tj W4)(ha:g4<=a.length)(q:ti+tk<g4):∃y,l9 a (ti+tk) y:=by
 refine ad h.run fun k e1 O3=>?_;clear O3;rw[l.e.1,e1] at q ⊢;exact oY (Nat.lt_of_lt_of_le (Int.ofNat_lt.mp q) ha)
theorem Rt.go(h:Rt (aB a b) g4 f6 t tk n)(l:Lx alo g4 f2 f6 t ti tj W4)(q1:ti+tk<g4)(q2:tj+tk<f6)(ix:l9 a (ti+tk) x)(iy:l9 b (tj+tk) y)(hc:(x==y)=true) :
  n-1<n/\Rt (aB a b) g4 f6 t (tk+1) (n-1):=by
 refine zB h.run fun k e1 e2 h1 h2 hr=>?_;rw[l.e.1,e1] at q1 ix;rw[l.e.2.1,e1] at q2 iy;subst e1;subst e2;have c1:t.1+k<g4:=Int.ofNat_lt.mp q1;have c2:t.2.1+k<f6:=Int.ofNat_lt.mp q2;have e:=Ar c1;rw[e] at hr ⊢;exact⟨Zv _,k+1,rfl,rfl,c1,c2,by rw[← hr,QZ c1 c2 ((tK (l9.nat (b:=a) ix) (l9.nat iy)).trans hc)];rfl⟩
theorem Rt.stop(h:Rt (aB a b) g4 f6 t tk n)(l:Lx alo g4 f2 f6 t ti tj W4)(q : ¬ (ti+tk<g4/\tj+tk<f6/\∀x y,l9 a (ti+tk) x->l9 b (tj+tk) y->(x==y)=true)) :
  Rx (aB a b) g4 f6 t tk:=by
 refine zB h.run fun k e1 e2 h1 h2 hr=>?_;rw[l.e.1,l.e.2.1,e1] at q;have f:cj (aB a b) g4 f6 t.1 t.2.1 (g4-(t.1+k)) k=k :=
  QX fun⟨c1,c2,c3⟩=>q ⟨Int.ofNat_lt.mpr c1,Int.ofNat_lt.mpr c2,fun x y ix iy=>(tK (l9.nat (b:=a) ix) (l9.nat iy)).symm.trans c3⟩
 rw[f] at hr;subst e1;exact⟨by rw[hr],Int.ofNat_le.mpr h1,Int.ofNat_le.mpr h2,Int.natCast_nonneg k⟩
theorem J3.last(r:J3 a b alo g4 f2 f6 g4 s m ti tj tk):bQ (aB a b) (aQ a b) alo g4 f2 f6=((bB (aB a b) alo f2 s.2.1 s.2.2.1 s.2.2.2).1,(bB (aB a b) alo f2 s.2.1 s.2.2.1 s.2.2.2).2.1,
  cj (aB a b) g4 f6 (bB (aB a b) alo f2 s.2.1 s.2.2.1 s.2.2.2).1 (bB (aB a b) alo f2 s.2.1 s.2.2.1 s.2.2.2).2.1 (g4-((bB (aB a b) alo f2 s.2.1 s.2.2.1 s.2.2.2).1+(bB (aB a b) alo f2 s.2.1 s.2.2.1 s.2.2.2).2.2)) (bB (aB a b) alo f2 s.2.1 s.2.2.1 s.2.2.2).2.2):=by
 have f:=r.fold;rw[Nat.sub_self] at f;have f:s=_:=f;unfold bQ;rw[← f]
theorem Lx.item(l:Lx alo g4 f2 f6 t ti tj tk)(hb:f6<=b.length)(q:(f2:Int)<tj):∃y,l9 b (tj-1) y:=by
 rw[l.e.2.1] at q ⊢;have h4:=l.h4;revert h4 q;cases t.2.1 with
 |zero=>exact fun q O=>oQ q
 |succ j=>rw[iu];exact fun O h4=>oY (oT h4 hb)
theorem Rx.item(x:Rx e g4 f6 t tk)(l:Lx alo g4 f2 f6 t ti tj W4)(hb:f6<=b.length)(q:tj+tk<f6):∃y,l9 b (tj+tk) y :=
 ON (Int.add_nonneg (l.e.2.1▸Int.natCast_nonneg _) x.h5) (Int.lt_of_lt_of_le q (Int.ofNat_le.mpr hb))
theorem J3.res(r:J3 a b alo g4 f2 f6 g4 s m à Þ W4)(l:Lx alo g4 f2 f6 (bB (aB a b) alo f2 s.2.1 s.2.2.1 s.2.2.2) ti tj tk'')(x:Rx (aB a b) g4 f6 (bB (aB a b) alo f2 s.2.1 s.2.2.1 s.2.2.2) tk)(c:XC) :
  AV.mat c [.int ti,.int tj,.int tk]=.mat c [.int (bQ (aB a b) (aQ a b) alo g4 f2 f6).1,.int (bQ (aB a b) (aQ a b) alo g4 f2 f6).2.1,.int (bQ (aB a b) (aQ a b) alo g4 f2 f6).2.2]:=by
 rw[r.last,l.e.1,l.e.2.1,x.e]
end
noncomputable abbrev ja(a b:List Str)(dj jk pp:XC)(vm vo:AV):List (Str×AV) :=
 [(qA,.none),(di,.lst (a.map .str)),(cZ,.lst (b.map .str)),(vW,.bool true),(vV,vm),(Bt,vo),(Bs,.none),(qy,.ref dj),(Bp,.ref jk),(Bn,.ref pp)]
noncomputable abbrev er(d dj jk d0:XC)(a b:List Str)(alo g4 f2 f6:Nat)(vi vg vn:AV)(ti tj tk:Int):List (Str×AV) :=
 [(vQ,.int f6),(vR,.int f2),(vS,.int g4),(vT,.int alo),(q6,.inst 242 d),(mJ,vi),(Bc,vg),(Bb,vn),(qx,.any),(q1,.any),(di,.lst (a.map .str)),(cZ,.lst (b.map .str)),(qy,.ref dj),
  (Bj,.bm "set.__contains__" (.ref jk)),(Bf,.int tk),(Bg,.int tj),(Bh,.int ti),(Be,.ref d0),(Bd,.lst [])]
noncomputable abbrev Dd(i:Nat):AV:=.int (i:Int)
section
variable(w:Xo)(d dj jk:XC)(a b:List Str)(alo g4 f2 f6:Nat)(m0:aa)
def JI(is:List Nat)(P:St->Prop):Prop:=∀i0 s m d0 ti tj tk,is=Yk i0 (g4-i0)->J3 a b alo g4 f2 f6 i0 s m ti tj tk->(d0==Ze)=false ->
 P ⟨er d dj jk d0 a b alo g4 f2 f6 .any .any .any ti tj tk,(d0,au (ZM af w) m)::m0⟩
variable(i0:Nat)(s:(Int->Nat)×ab)(m:List (Int×AV))(la:Str)(d0 d1:XC)(o8:aa)
def JJ(js:List Nat)(P:St->Prop):Prop:=∀s2 m2 ti tj tk,G8 b alo f2 f6 i0 s la js s2 m2 ti tj tk ->
 P ⟨er d dj jk d0 a b alo g4 f2 f6 (.int i0) (.bm "dict.get" (.ref d0)) (.ref d1) ti tj tk,(d1,au (ZM af w) m2)::(d0,au (ZM af w) m)::o8⟩
end
theorem Jl(h:i<=n)(e:[]=Yk i (n-i)):i=n:=Nat.le_antisymm h (Nat.le_of_sub_eq_zero (List.range'_eq_nil_iff.mp e.symm))
theorem vP{is:List Nat}(e:j::is=Yk i (n-i)):i=j/\j<n/\is=Yk (j+1) (n-(j+1)) :=
 have h:=List.range'_eq_cons_iff.mp e.symm
 ⟨h.1,h.1▸Nat.lt_of_sub_pos h.2.1,h.2.2.trans (congrArg (Yk (j+1)) (h.1▸(Nat.sub_sub ..)))⟩
theorem SU(alo g4:Nat):cD (alo:Int) (g4:Int)=cH (Yk alo (g4-alo)):=AR alo g4
theorem gQ{b:List Str}{z:Int}(i:l9 b z y)(hb:b.length<10^6)(h:K (.str y) st):F2 d7 w A B d8 Val getItem (.lst (b.map .str)) (.int z) st K :=
 fA .frz i.pos (by have:=i.lt;omega) i.at' h
theorem QL{dj jk pp:XC}{vm vo:AV}{a b:List Str}{mm:List (Str×AV)}{led:aa}{g4:Nat}(hA:g7 A 60)(ha:a.length<10^6)(hb:b.length<10^6)
  (h1:alo<=g4) (h2:g4<=a.length) (h3:f2<=f6) (h4:f6<=b.length) (y7:(dj==Ze)=false) (T7:∀k,(aI mm k).getD (.lst [])=.lst (cH (bd b k))) :
  TC af w A (aj w) (.ref 196) [.inst 242 d,.int alo,.int g4,.int f2,.int f6] [] ((d,aX (ja a b dj jk pp vm vo))::(dj,au (XA af w) mm)::(jk,bV)::led) fun v led' =>
   v=.mat 135 [.int (bQ (aB a b) (aQ a b) alo g4 f2 f6).1,.int (bQ (aB a b) (aQ a b) alo g4 f2 f6).2.1,.int (bQ (aB a b) (aQ a b) alo g4 f2 f6).2.2] /\
   led'=((d,aX (ja a b dj jk pp vm vo))::(dj,au (XA af w) mm)::(jk,bV)::led):=by
 refine TC.weak (dD [(vQ,.int f6),(vR,.int f2),(vS,.int g4),(vT,.int alo),(q6,.inst 242 d),(mJ,.any),(Bc,.any),(Bb,.any),(qx,.any),(q1,.any),(di,.any),(cZ,.any),(qy,.any),(Bj,.any),(Bf,.any),(Bg,.any),(Bh,.any),(Be,.any),(Bd,.any)] (bG w) hA.lt (fun O O O O O=>@_) @_ @_ (Qw _) fun L hL=>?_);have f8:=hA.deeper (k:=57) (d8:=ba (az (fK w.params)) L 196 195);have hh:=f8.h;have hG:=(((((gk w (A.deeper _) (az (fK w.params)) L 196 195 @_ @_ hh).g (Dz w) @_ @_).g (Dr w) @_ @_)).f (f:=135) (bK @_)).m ⟨Jy,2, "dict.get"⟩ F.plainAttrs_dict Ir F.type_dict_get;generalize A7:((d,aX (ja a b dj jk pp vm vo))::(dj,au (XA af w) mm)::(jk,bV)::led)=m0;have é:(d,aX (ja a b dj jk pp vm vo))∈m0:=A7▸WM ..;have hmj:(dj,au (XA af w) mm)∈m0:=A7▸WO _ (WM ..);have W7:(jk,bV)∈m0:=A7▸WO _ (WO _ (WM ..));clear A7;generalize ba (az (fK w.params)) L 196 195=d8 at hG f8 hh ⊢;generalize A.deeper d8=A1 at hG f8 hh ⊢;refine bv hG 100 ?_;refine f7.mk (dG (aS _) @_ é (v:=.lst (a.map .str)) @_ rfl ?_);refine f7.mk (dG (aS _) @_ é (v:=.lst (b.map .str)) @_ rfl ?_);refine f7.mk (dG (aS _) @_ é (v:=.ref dj) @_ rfl ?_);refine f7.mk (dG (aS _) @_ é (v:=.ref jk) @_ rfl ?_);refine f7.mk (Wx W7 ?_);refine f7.mk (za (knd:=ZM af w) fun d0 hd0 hB0=>?_);refine f7.mk (ec rfl fun nn M3=>?_);refine f7.mk (T.freeze (a:=nn) (xs:=[]) (g9:=er d dj jk d0 a b alo g4 f2 f6 .any .any .any alo f2 0) (by repeat constructor) ?_);refine pv (k:=5) Dd (JI w d dj jk a b alo g4 f2 f6 m0) (f8.mono ⋯) (ae hG 60 (f7.mk (Vo (Wr (k:=5) ⋯ ⋯ ⋯ ⋯ fun it gl hI => .mk hI (SU alo g4▸.mk (fun O y=>y _ _ _ d0 _ _ _ rfl (J3.start h1 h3) (xG hB0)) @_))))) ?_ ?_ fun O=>@_
 ·intro gl i0 is j0 s m d0 ti tj tk e r hd;have hi:=(vP e).2.1;have r:=(vP e).1▸r;have e:=(vP e).2.2;refine ak (⟨_,Xs (Nat.lt_of_lt_of_le hi h2)⟩:∃la,a[i0]?=some la) fun la P7=>⟨rfl,bv hG 60 ?_⟩;refine f7.mk (Ww (knd:=ZM af w) (WM ..) ?_);refine f7.mk (za (knd:=ZM af w) fun d1 hd1 Ï=>?_);refine f7.mk (T.joinW (fun P=>∀m2 ti tj tk,I3 b alo f2 f6 i0 s la m2 ti tj tk->P ⟨er d dj jk d0 a b alo g4 f2 f6 (.int i0) (.bm "dict.get" (.ref d0)) (.ref d1) ti tj tk,(d1,au (ZM af w) m2)::(d0,au (ZM af w) m)::(m0++gl)⟩) ?_ fun m2 ti tj tk h=>⟨(d1,au (ZM af w) m2)::(m0++gl),⟨[(d0,au (ZM af w) m)],YW _ _ _⟩,.next (l:=(d1,au (ZM af w) m2)::m0) (.mk (fun O y=>y _ _ _ d1 _ _ _ e (r.next hi P7 h) (xG Ï)) @_)⟩);refine pv (k:=5) Dd (JJ w d dj jk a b alo g4 f2 f6 i0 s m la d0 d1 (m0++gl)) (f8.mono ⋯) ?_ ?_ (fun O O O O O h => .mk (fun O y=>y _ _ _ _ (h.done rfl)) @_) fun O=>@_
  ·refine ae hG 60 ⟨qe (knd:=XA _ _) (WO _ (WO _ (Yc _ hmj))),?_⟩;refine f7.mk (fA .frz ⋯ ⋯ (x:=.str la) (by simp[P7]) ?_);exact f7.mk (Vv y7 (tw la) (WO _ (WO _ (Yc _ hmj))) (T7 la) (gh (k:=5) fun it gl' hI => .mk hI (.mk (fun O y=>y _ _ _ _ _ r.inn) @_)))
  ·intro gl' j js s2 m2 ti tj tk h;refine⟨rfl,bv hG 60 (bh (fun ó => .cont (l:=(d1,_)::(d0,au (ZM af w) m)::(m0++gl)) (.mk (fun O y=>y _ _ _ _ _ (h.low ó)) @_)) fun ó=>bh (fun ò => .brk (l:=(d1,_)::(d0,au (ZM af w) m)::(m0++gl)) (.mk (fun O y=>y _ _ _ _ (h.out ò)) @_)) fun ò=>?_)⟩;refine f7.mk (fu rfl rfl rfl (ae hG 60 (f7.mk (VH (knd:=ZM af w) (m:=m) hd (CR _) (WO _ (WM ..)) (r.rel _) (bp (aR rfl (zy (ae hG 20 (ae hG 20 ?_)))))))));exact VM (knd:=ZM af w) (m:=m2) (k:=(j:Int)) .here (CR _) (XQ h.room (by rw[Yq];omega)) (bh (fun hc3 => .next (l:=(d1,_)::(d0,au (ZM af w) m)::(m0++gl)) (.mk (fun O y=>y _ _ _ _ _ (h.hit r ó ò hc3)) @_)) fun hc3 => .next (l:=(d1,_)::(d0,au (ZM af w) m)::(m0++gl)) (.mk (fun O y=>y _ _ _ _ _ (h.miss r ó ò hc3)) @_))
 ·intro i0 s m d0 ti tj tk e r _;have r:=Jl r.g2 e▸r;refine f7.mk (T.drop (T.join (KL (er d dj jk d0 a b alo g4 f2 f6 .any .any .any) m0 (Lx alo g4 f2 f6 (bB (aB a b) alo f2 s.2.1 s.2.2.1 s.2.2.2))) ?_ fun ti tj W4 l=>?_))
  ·refine me (JL (er d dj jk d0 a b alo g4 f2 f6 .any .any .any) m0 (Lf (aB a b) alo g4 f2 f6 _)) (fun n ti tj tk h=>?_) (JL.mk r.lf);refine bZ hG 60 (bh (fun q1=>bh (fun q2=>?_) fun q2=>KL.mk (h.stop (fun c=>q2 c.2.1) h2 h4)) fun q1=>KL.mk (h.stop (fun c=>q1 c.1) h2 h4));refine(h.item h4 q2).elim fun y iy=>(h.itemA h2 q1).elim fun x ix=>?_;refine f7.mk (gQ iy hb (f7.mk (uE W7 (f7.mk (gQ ix ha (f7.mk (gQ iy hb ?_)))))));refine cE (fun hc=>bv hG 60 ⟨_,(h.go q1 q2 ix iy hc).1,JL.mk (h.go q1 q2 ix iy hc).2⟩) fun hc=>KL.mk (h.stop (fun c=>?_) h2 h4);exact XL (hc.symm.trans (c.2.2 x y ix iy))
  ·refine f7.mk (T.join (KL (fun O O tk=>er d dj jk d0 a b alo g4 f2 f6 .any .any .any ti tj tk) m0 fun O O tk=>Rx (aB a b) g4 f6 (bB (aB a b) alo f2 s.2.1 s.2.2.1 s.2.2.2) tk) ?_ fun O O tk x=>?_)
   ·refine me (JL (fun O O tk=>er d dj jk d0 a b alo g4 f2 f6 .any .any .any ti tj tk) m0 (fun O O tk=>Rt (aB a b) g4 f6 _ tk)) (fun n O O tk h=>?_) (JL.mk (ti:=0) (tj:=0) l.rt);refine bZ hG 60 (bh (fun q1=>bh (fun q2=>?_) fun q2=>Nx.mk (fun O y=>y 0 0 _ (h.stop l fun c=>q2 c.2.1)) @_) fun q1=>Nx.mk (fun O y=>y 0 0 _ (h.stop l fun c=>q1 c.1)) @_);refine(h.item l h4 q2).elim fun y iy=>(h.itemA l h2 q1).elim fun x ix=>?_;refine f7.mk (gQ iy hb (f7.mk (uE W7 (f7.mk (gQ ix ha (f7.mk (gQ iy hb ?_)))))));refine cE (fun hc=>bv hG 60 ⟨_,(h.go l q1 q2 ix iy hc).1,JL.mk (ti:=0) (tj:=0) (h.go l q1 q2 ix iy hc).2⟩) fun hc=>Nx.mk (fun O q=>q 0 0 _ (h.stop l fun c=>?_)) @_;exact XL (hc.symm.trans (c.2.2 x y ix iy))
   ·refine f7.mk (T.join (fun P=>P ⟨er d dj jk d0 a b alo g4 f2 f6 .any .any .any ti tj tk,m0⟩) ?_ ?_)
    ·refine me (fun O P=>P ⟨er d dj jk d0 a b alo g4 f2 f6 .any .any .any ti tj tk,m0⟩) (fun O=>?_) (n:=0) ⟨_,n0.self _,fun O y=>y⟩;refine bZ hG 60 (bh (fun q1=>bh (fun q2=>?_) fun q2=>Nx.id) fun q1=>Nx.id);exact(l.item h4 q2).elim fun y iy=>f7.mk (gQ iy hb (f7.mk (uE W7 Nx.id)))
    ·refine f7.mk (T.join (fun P=>P ⟨er d dj jk d0 a b alo g4 f2 f6 .any .any .any ti tj tk,m0⟩) ?_ ?_)
     ·refine me (fun O P=>P ⟨er d dj jk d0 a b alo g4 f2 f6 .any .any .any ti tj tk,m0⟩) (fun O=>?_) (n:=0) ⟨_,n0.self _,fun O y=>y⟩;refine bZ hG 60 (bh (fun q1=>bh (fun q2=>?_) fun q2=>Nx.id) fun q1=>Nx.id);exact(x.item l h4 q2).elim fun y iy=>f7.mk (gQ iy hb (f7.mk (uE W7 Nx.id)))
     ·refine f7.mk (fy (NP (f8.mono ⋯)) fun v led' h=>?_);exact ed _ (.refl _) (h.1.trans (r.res l x 135)) h.2
section
variable{N:aa}
def lL(f:AV)(it:XC)(Z:f9)(o:Obj):Prop:=∃tt fx,o={ cls:=.type "map",data:=.fields #[.ref tt,fx]}/\Z tt=some {cls:=.type "tuple",data:=.seq #[.ref it]}/\Val Z f fx
theorem tm{f:AV}(Z Z':f9)(o:Obj)(k:f9.le Z Z')(x:lL f it Z o):lL f it Z' o:=x.imp fun O h=>h.imp fun O h=>⟨h.1,k _ _ h.2.1,h.2.2.mono k⟩
noncomputable abbrev eK(m it:XC)(f:AV)(xs:List AV)(i:Nat)(N3:aa):aa:=(m,.obj (lL f it) tm)::(it,.obj (jf xs i) pg)::N3
theorem xR{f:AV}{m:XC}{N3 led:aa}(S:f1 B s Z (eK m it f xs i N3++led)):s.TypeIs (.ref m) "map" :=
 ad (S.own _ (WM ..)) fun om I_ h=>h.elim fun O h=>h.elim fun O h=>bb om I_ (h.1▸rfl)
theorem wu{a b:XC×i9}{l r:aa}:(a::b::(l++r)).Perm (l++a::b::r) :=
 (ZG a (YL (l₁:=l) (l₂:=r) (a:=b)).symm).trans (YL (l₁:=l) (l₂:=b::r) (a:=a)).symm
theorem g5.map{f:AV}{m:XC}{N3:aa}(j3:ys.length=xs.length)
  (hf:∀(i:Nat) x y,xs[i]?=some x->ys[i]?=some y->∀A',g7 A' k->∀led,n7 N led->TC d7 w A' B f [x] [] (N3++led) fun v led'=>v=y/\led'=N3++led) :
  ∀(d i:Nat),i+d=xs.length->g5 d7 w B N (k+1) mz m (ys.drop i) (eK m it f xs i N3):=by
 intro d;induction d with
 |zero =>
  intro i hi;have hi:i=ys.length:=((Nat.add_zero i).symm.trans hi).trans j3.symm;subst hi;rw[List.drop_length];intro A hA led hN s Z S Q E hQ;refine ad (S.own _ (WM ..)) fun om I_ h_=>br h_ fun tt fx e_ ä M7=>?_;subst e_;refine ad (S.own _ (WO _ (WM ..))) fun oi G6 h_=>jp h_ fun l items n hc hd hz hv=>?_;refine NM hA.h I_ (S.frozen _ _ ä) ⟨oi,G6,hc,hd⟩ ⟨_,S.frozen _ _ hz,rfl,n,rfl⟩ ((List.getElem?_toArray ..).trans (YQ (j3▸Nat.le_of_eq hv.length))) fun h' hx=>?_;have P:=f1.stepE (gl:=eK m it f xs ys.length N3) (s':={ s with heap:=h' }) S (fun b o hb q=>hx b o (fun y=>hb (y▸WO _ (WM ..))) q) rfl rfl;exact hQ _ Z P.1 P.2
 |succ d ih =>
  intro i hi;have l8:i<xs.length:=hi▸Nat.lt_add_of_pos_right (Nat.succ_pos d);have Ρ:i<ys.length:=j3▸l8;rw[YH Ρ];intro A hA led hN s Z S Q E hQ;refine ad (S.own _ (WM ..)) fun om I_ h_=>br h_ fun tt fx e_ ä M7=>?_;subst e_;refine ad (S.own _ (WO _ (WM ..))) fun oi G6 h_=>jp h_ fun l items n hc hd hz hv=>?_;have hmi:m≠it:=fun q=>(Xj.mp S.nodup).1 (q▸WM ..);refine ad (hv.get (Xs l8)) fun u hu hV=>NK I_ (S.frozen _ _ ä) ⟨oi,G6,hc,hd⟩ ⟨_,S.frozen _ _ hz,rfl,n,rfl⟩ (x:=u) ((List.getElem?_toArray ..).trans hu) hmi fun h' C1 C5=>aU C1 fun m_ J' R5 U2=>?_;have P:=S.upd (led':=eK m it f xs (i+1) N3++led) (.there .here) (h':=h') (tk:=s.toks) (fun b ob hb e=>(C5.2 b hb).trans e) rfl rfl ⟨m_,J',l,items,n,R5,U2,hz,hv⟩;refine Zu (hf i _ _ (Xs l8) (Xs Ρ) A.in1 hA.in1 ((m,.obj (lL f it) tm)::(it,.obj (jf xs (i+1)) pg)::led) (fun p hp=>WO _ (WO _ (hN p hp))) _ Z fx [u] [] (P.1.perm (wu (l:=N3) (r:=led))) M7 (.cons hV .nil) .nil _
   fun v y s' Z' led' kk S' V X'=>?_)
  have k1:=kk.1;have k2:=kk.2;subst k1;subst k2;exact WN (hQ s' Z' y (eK m it f xs (i+1) N3) (S'.perm (wu (l:=N3) (r:=led)).symm) V (P.2.trans ((dM (wu (a:=(m,i9.obj (lL f it) tm)) (b:=(it,i9.obj (jf xs (i+1)) pg)) (l:=N3) (r:=led)))▸X'))
   (ih (i+1) ((Nat.succ_add_eq_add_succ i d).trans hi)))
theorem xO{m:XC}{f:AV}{N3 led:aa}(S:f1 B s Z (eK m it f xs i N3++led))(h:Q (.ref m) s):Xq (Xn d7 w) A (pyIter (.ref m)) Q E s:=by
 refine ad (S.own _ (WM ..)) fun om I_ h_=>br h_ fun tt fx e_ ä M7=>?_;subst e_;have hT:s.TypeIs (.ref m) "map" := ⟨_,I_,rfl⟩;refine wpAny_pyIter_slot hT AE (XO AE hT Rr ?_ (Tb _));show Xq _ _ (ret (.ref m)) _ _ s;exact WN ⟨_,rfl, "map",_,hT,mD.lookup,h⟩
theorem zm{f:AV}{led:aa}(h:∀m it,R (.ref m) ⟨loc,eK m it f xs 0 []++led⟩):FC d7 w A B d8 (.typ "map") [f,.lst xs] [] ⟨loc,led⟩ R:=FC.t fun s Z S Q E hQ=>Vals.un <| fun fv h0=>Vals.un <| fun O h1=>Vals.un0 <| by
 refine bC (lQ h1) fun a items n qv e hv=>?_;subst qv;have hl:s.heap.IsList a items.toArray:=⟨_,S.frozen _ _ e,rfl,n,rfl⟩;refine callType_new Sw (by decide) (Hm _ _) (MY _ _) (fun obj=>F.args_object_init_3 obj _ _) Rq
  (Meets.of_wp (S:=fun O R s=>s.heap.IsList a items.toArray/\R (.ok (.ret (.ref (s.heap.objs.size+2)))) {s with heap:=((s.heap.push {cls:=.type "list_iterator",data:=.fields #[.ref a,.int 0 0]}).push {cls:=.type "tuple",data:=.seq #[.ref s.heap.objs.size]}).push {cls:=.type "map",data:=.fields #[.ref (s.heap.objs.size+1),fv]} })
   fun d7 w A R s hs=>Jd hs.1 ⟨_,rfl,hs.2⟩) ⟨hl,?_⟩
 have P1:=S.tof1.push (o:={ cls:=.type "list_iterator",data:=.fields #[.ref a,.int 0 0]}) (ao:=.obj (jf xs 0) pg) rfl s.toks ⟨_,WW _ rfl,a,items,n,rfl,rfl,e,hv⟩;have P2:=P1.1.pushZ (o:={ cls:=.type "tuple",data:=.seq #[.ref s.heap.objs.size]}) rfl s.toks;have e1:(s.heap.push {cls:=.type "list_iterator",data:=.fields #[.ref a,.int 0 0]}).objs.size=s.heap.objs.size+1:=ZV ..;have e2:((s.heap.push {cls:=.type "list_iterator",data:=.fields #[.ref a,.int 0 0]}).push {cls:=.type "tuple",data:=.seq #[.ref s.heap.objs.size]}).objs.size=s.heap.objs.size+2:=by rw[ZV,e1]
 have P3:=P2.1.push (o:={ cls:=.type "map",data:=.fields #[.ref (s.heap.objs.size+1),fv]}) (ao:=.obj (lL f s.heap.objs.size) tm) rfl s.toks ⟨_,WW _ rfl,s.heap.objs.size+1,fv,rfl,by rw[← e1];exact f9.add_at ..,h0.mono (P1.2.le.trans P2.2.le)⟩;have X:=(P1.2.trans P2.2).trans P3.2;have hq:=hQ _ (.ref (((s.heap.push {cls:=.type "list_iterator",data:=.fields #[.ref a,.int 0 0]}).push {cls:=.type "tuple",data:=.seq #[.ref s.heap.objs.size]}).objs.size)) _ _ ⟨loc,eK _ s.heap.objs.size f xs 0 []++led⟩ (h _ _) (S.after P3.1 X) (.ref _) X.toF;refine⟨⟨_,by rw[← e2];exact WW _ rfl,rfl⟩,?_⟩;rw[← e2];exact hq
end
section
variable{K:Frag}
theorem Rm:entryFor table "tuple.__len__" = some Builtin.«tuple.__len__» := Zo @_
theorem Vs(z4:XW K ⟨d7,w.params⟩ (ZR (.ref C) (.type "tuple"))=some true)(hln:XW K ⟨d7,w.params⟩ (Yx (.ref C) "__len__")=some (some (.builtin "tuple.__len__")))
  (h1:xs.length<2^62) (h:R (.int xs.length) st):FC d7 w A (am K) d8 (.blt "len") [.mat C xs] [] st R:=FC.b fun s Z S Q E hQ=>Vals.un <| fun O hv0=>Vals.un0 <| by
 refine cA (tC hv0) fun a d items n qv e hv=>?_;clear hv0;subst qv;have X:=cP S.base S.frozen;have ha:=S.frozen _ _ e;have tl:Looks (Xn d7 w) s.heap (typeOf (.ref a)) (.ref C):=(Looks.ld ha).andThen .now;have j3:items.length=xs.length:=hv.length;refine Calls.call_function_entry kind_len plain_len entry_len (args_len1 _) ?_;unfold Builtin.«len»;refine WL (m:=oneArg "len" _) (WN ?_);refine WL ?_;unfold callSpecial? specialOf;refine WL (WL (tl.here (cr X hln ?_)));dsimp only;refine Xc ?_;refine WL (Yd (F.slot_tuple_len.bind _) ?_);refine WL (Zu (Zc F.slot_tuple_len.plain Rm (check_slot (i := "tuple.__len__") (owner := "tuple") (n := "__len__") (by decide +kernel) (by decide +kernel) (tl.andThen (ZO X z4)) (F.args_tuple_len_1 _) ?_)));show Xq _ _ (do retInt (← Builtin.Tuple.tupleItemsOf (.ref a)).size) _ _ s;unfold Builtin.Tuple.tupleItemsOf;refine WL (WL (YS ha rfl (WN ?_)));refine WL (wpAny_mkInt (WN ?_));refine WN ?_;dsimp only;refine WL (Xc (WN ?_));refine WL (wpAny_letGo ?_);have hz:((items.toArray.size:Nat):Int)=(xs.length:Int):=by simp[j3]
 show Xq _ _ (if ((items.toArray.size:Nat):Int)<0 then _ else _) _ _ _;refine aY ⋯ ?_;show Xq _ _ (if ((items.toArray.size:Nat):Int) ≥ 2^63 then _ else _) _ _ _;refine aY ⋯ ?_;refine WL (wpAny_mkInt (WN ⟨_,rfl,hQ _ _ _ Z st h (S.toks _) ?_ (.toks _)⟩));rw[hz];exact .int _ _
theorem Wv{p f:XC}{rest:List Value}{led:aa}{E0:Bool}(hr:readsIn K C (.type "type")=true)
  (e:findCls K (.ref C) (.type "type") name=some (.get (.builtin "classmethod.__get__") (.ref p) .none (.ref C))) (hp:recIn K p "classmethod" = some (.ref f::rest))
  (h:∀q,R (.ref q) ⟨loc,(q,.raw (methodObj (.ref f) (.ref C)))::led⟩):F1 d7 w A (am K) d8 Val (fun x=>getAttr x name E0) (.ref C) ⟨loc,led⟩ R:=F1.of fun s Z S Q E hQ=>Val.eRef <| by
 have X:=cP S.base S.frozen;refine cls_bind X hr e (Zu (cm_get (s:={ s with toks:=s.toks+1}) X hp (handed_on rfl ?_)));have P:=S.tof1.push (o:=methodObj (.ref f) (.ref C)) (ao:=.raw (methodObj (.ref f) (.ref C))) rfl (s.toks+1) (WW _ rfl);exact hQ _ _ _ _ _ (h _) (S.after P.1 P.2) (.ref _) P.2.toF
theorem Uo{q f:XC}{led:aa}{R:AV->aa->Prop}(hm:(q,.raw (methodObj (.ref f) (.ref C)))∈led)(h:TC d7 w A B (.ref f) (.ref C::args) [] led R):TC d7 w A B (.ref q) args [] led R:=fun s Z fx xs ks S hf hx hk Q hQ=>by
 cases hf
 cases hk
 have hq:s.heap.get? q=some (methodObj (.ref f) (.ref C)):=S.own _ hm;refine codeAny_of_tree ?_;show Xq _ A.in1 (callAny (.ref q) ⟨xs,[]⟩) _ _ s;dsimp only[callAny];refine WL (wpAny_load hq ?_);dsimp only;refine KFB.if_so (by decide) ?_;refine WN ⟨rfl,?_⟩;exact h s Z (.ref f) (.ref C::xs) [] S (.ref f) (.cons (.ref C) hx) .nil Q hQ
end
theorem xN(w:Xo):Q0 af w (KB w.params) 135:=⟨@_,@_⟩
noncomputable def wx(P:WQ):XC:=match findCls (KB P) (.ref 135) (.type "type") hU with |some (.get _ (.ref p) _ _)=>p |_=>0
noncomputable def Jw(P:WQ):List Value:=((recIn (KB P) (wx P) "classmethod").getD []).tail
theorem QV(P:WQ):findCls (KB P) (.ref 135) (.type "type") hU=some (.get (.builtin "classmethod.__get__") (.ref (wx P)) .none (.ref 135)):=@_
theorem Ps(P:WQ):recIn (KB P) (wx P) "classmethod" = some (.ref 89::Jw P):=@_
theorem NN{x y z:Int}{led:aa}(hA:g7 A 20) :
  TC af w A (aj w) (.ref 89) [.ref 135,.tup [.int x,.int y,.int z]] [] led fun v led'=>v=.mat 135 [.int x,.int y,.int z]/\led'=led:=by
 refine dD [(Bv,.tup [.int x,.int y,.int z]),(Bw,.ref 135),(wb,.any)] (bG w) hA.lt (fun O O=>@_) @_ @_ (Qk _) fun L hL=>?_;have hG:=((gk w (A.deeper (ba (az (fH w.params)) L 89 88)) (az (fH w.params)) L 89 88 @_ @_ hA.h).g (Dq w) @_ @_).g (lU w) @_ @_;refine bv hG 60 (f7.mk (Fe (name:=jJ) (T' := "tuple") (id := "tuple.__new__") @_ @_ @_ (by decide +kernel) @_ @_ @_ @_ @_ (ae hG 5 ⟨rfl,cp @_ gE (bD hG 20 (Fw (CB w) (by decide:3<=XK) (fun O=>@_) ?_))⟩)));exact f7.mk (Vs @_ @_ (by decide:3<2^62) ⟨rfl,rfl⟩)
theorem OV{s:(Int->Nat)×ab}(h:p9 alo f2 f6 i s)(hi:alo<=i)(js:List Nat):∀(s2:(Int->Nat)×ab),(∀j∈js,f2<=j/\j<f6)->p9 alo f2 f6 (i+1) s2->p9 alo f2 f6 (i+1) (js.foldl (dc s.1 i) s2):=by
 induction js with
 |nil=>exact fun O O h2=>h2
 |cons j js ih=>exact fun s2 hj h2=>ih _ (fun j' h'=>hj j' (WO _ h')) (h.step h2 hi (hj j (WM ..)).1 (hj j (WM ..)).2)
theorem zO{js:List Nat}(h:j∈within f2 f6 js):f2<=j/\j<f6:=by
 have:=(YZ.mp h).2;simpa using this
theorem AP{s:(Int->Nat)×ab}(js:List Nat)(h:p9 alo f2 f6 i s)(hi:alo<=i):p9 alo f2 f6 (i+1) (eZ js f2 f6 i s) :=
 OV h hi _ _ (fun j hj=>zO hj) h.row
theorem AL{idx:Nat->List Nat}(n:Nat):∀(i:Nat) (s:(Int->Nat)×ab),alo<=i->p9 alo f2 f6 i s->p9 alo f2 f6 (i+n) (ej idx f2 f6 (Yk i n) s):=by
 induction n with
 |zero=>exact fun O O O h=>h
 |succ n ih=>exact fun i s hi h=>(Nat.succ_add_eq_add_succ i n)▸ih (i+1) (eZ (idx i) f2 f6 i s) (Nat.le_succ_of_le hi) (AP (idx i) h hi)
def LB(alo f2 i j:Nat)(t:ab):Prop:=alo<=t.1/\f2<=t.2.1/\t.1+t.2.2=i/\t.2.1+t.2.2=j
theorem Ri(i:Nat):∀(j k:Nat),alo<=i->f2<=j->LB alo f2 (i+k) (j+k) (bB e alo f2 i j k):=by
 induction i with
 |zero=>exact fun j k h1 h2=>⟨h1,h2,rfl,rfl⟩
 |succ i ih =>
  intro j k h1 h2;cases j with
  |zero=>exact⟨h1,h2,rfl,rfl⟩
  |succ j=>exact iteInduction (motive:=LB alo f2 (i+1+k) (j+1+k)) (fun hc=>(Nat.succ_add_eq_add_succ i k).symm▸(Nat.succ_add_eq_add_succ j k).symm▸ih j (k+1) (Nat.le_of_lt_succ (of_decide_eq_true (Bool.and_eq_true_iff.mp hc).1)) (Nat.le_of_lt_succ (of_decide_eq_true (Bool.and_eq_true_iff.mp (Bool.and_eq_true_iff.mp hc).2).1))) fun O=>⟨h1,h2,rfl,rfl⟩
theorem Rb{g4:Nat}(f:Nat):∀(k:Nat),i+k<=g4->j+k<=f6->k<=cj e g4 f6 i j f k/\i+cj e g4 f6 i j f k<=g4/\j+cj e g4 f6 i j f k<=f6:=by
 induction f with
 |zero=>exact fun k h1 h2=>⟨Xy _,h1,h2⟩
 |succ f ih =>
  intro k h1 h2;exact iteInduction (motive:=fun x=>k<=x/\i+x<=g4/\j+x<=f6) (fun hc=>(ih (k+1) (of_decide_eq_true (Bool.and_eq_true_iff.mp hc).1) (of_decide_eq_true (Bool.and_eq_true_iff.mp (Bool.and_eq_true_iff.mp hc).2).1)).imp_left Nat.le_of_succ_le) fun O=>⟨Xy _,h1,h2⟩
def cn(fl:Nat->Nat->Nat->Nat->ab):Prop:=∀alo g4 f2 f6,alo<=g4->f2<=f6->alo<=(fl alo g4 f2 f6).1/\(fl alo g4 f2 f6).1+(fl alo g4 f2 f6).2.2<=g4/\f2<=(fl alo g4 f2 f6).2.1/\(fl alo g4 f2 f6).2.1+(fl alo g4 f2 f6).2.2<=f6
theorem fU(e:Nat->Nat->Bool)(idx:Nat->List Nat):cn (bQ e idx):=fun alo g4 f2 f6 h1 h2=>by
 have hs:=AL (idx:=idx) (f6:=f6) (g4-alo) alo (fun O=>0,(alo,f2,0)) (Xy _) (p9.start h2);rw[Nat.add_sub_cancel' h1] at hs;unfold bQ;dsimp only;generalize (ej idx f2 f6 (Yk alo (g4-alo)) (fun O=>0,(alo,f2,0)))=s at hs;obtain⟨D,si,sj,sk⟩:=s;have q:=Ri (e:=e) si sj sk hs.b1 hs.b3;have c2:=hs.b2;have c4:=hs.b4;dsimp only at c2 c4 q ⊢;generalize bB e alo f2 si sj sk=u at q;have f:=Rb (e:=e) (g4:=g4) (f6:=f6) (i:=u.1) (j:=u.2.1) (g4-(u.1+u.2.2)) u.2.2 (q.2.2.1▸c2) (q.2.2.2▸c4);exact⟨q.1,f.2.1,q.2.1,f.2.2⟩
noncomputable def ci(fl:Nat->Nat->Nat->Nat->ab):Nat->Nat->Nat->Nat->Nat->List ab
 |0,_,_,_,_=>[]
 |f+1,alo,g4,f2,f6 =>
  let r:=fl alo g4 f2 f6
  if r.2.2=0 then [] else
   (if alo<r.1/\f2<r.2.1 then ci fl f alo r.1 f2 r.2.1 else [])++r::(if r.1+r.2.2<g4/\r.2.1+r.2.2<f6 then ci fl f (r.1+r.2.2) g4 (r.2.1+r.2.2) f6 else [])
theorem Cy{fl:Nat->Nat->Nat->Nat->ab}(ok:cn fl){g4:Nat}(h1:alo<=g4)(h2:f2<=f6)(h3:g4<=alo):∀f,ci fl f alo g4 f2 f6=[]
 |0=>rfl
 |f+1=>if_pos (Nat.le_zero.mp (Nat.le_of_add_le_add_left (XQ (ok alo g4 f2 f6 h1 h2).2.1 (XQ h3 (ok alo g4 f2 f6 h1 h2).1))))
theorem tz{c:Prop}[Decidable c]{x y:List α}(h:x=y):(if c then x else [])=if c then y else []:=h▸rfl
theorem EK{x y u v:List α}{t:α}(h:x=y)(h':u=v):x++t::u=y++t::v:=h▸h'▸rfl
theorem yr{g4 f:Nat}(a2:i+k<=g4)(hk : ¬ k=0)(h:g4<=alo+(f+1)):i<=alo+f:=Nat.le_of_lt_succ (Nat.lt_of_lt_of_le (Nat.lt_of_lt_of_le (Nat.lt_add_of_pos_right (Nat.pos_of_ne_zero hk)) a2) h)
theorem yq{g4 f:Nat}(a1:alo<=i)(hk : ¬ k=0)(h:g4<=alo+(f+1)):g4<=i+k+f:=XQ h (XQ (Nat.le_of_eq (Nat.add_right_comm alo f 1)) (Nat.add_le_add_right (Nat.add_le_add a1 (Nat.pos_of_ne_zero hk)) f))
noncomputable def xL(fl:Nat->Nat->Nat->Nat->ab)(f alo g4 f2 f6:Nat)(r:ab):List ab :=
 if r.2.2=0 then [] else (if alo<r.1/\f2<r.2.1 then ci fl f alo r.1 f2 r.2.1 else [])++r::(if r.1+r.2.2<g4/\r.2.1+r.2.2<f6 then ci fl f (r.1+r.2.2) g4 (r.2.1+r.2.2) f6 else [])
theorem NB{fl:Nat->Nat->Nat->Nat->ab}{f g g4:Nat}{r:ab}(hl : ¬ r.2.2=0->ci fl f alo r.1 f2 r.2.1=ci fl g alo r.1 f2 r.2.1)(hr : ¬ r.2.2=0->ci fl f (r.1+r.2.2) g4 (r.2.1+r.2.2) f6=ci fl g (r.1+r.2.2) g4 (r.2.1+r.2.2) f6):xL fl f alo g4 f2 f6 r=xL fl g alo g4 f2 f6 r :=
 if hk:r.2.2=0 then (if_pos hk).trans (if_pos hk).symm else (if_neg hk).trans ((EK (tz (hl hk)) (tz (hr hk))).trans (if_neg hk).symm)
theorem xM{fl:Nat->Nat->Nat->Nat->ab}(ok:cn fl)(f:Nat):∀(g alo g4 f2 f6:Nat),alo<=g4->f2<=f6->g4<=alo+f->g4<=alo+g->ci fl f alo g4 f2 f6=ci fl g alo g4 f2 f6:=by
 induction f with
 |zero=>exact fun g alo g4 f2 f6 h1 h2 h3 O=>(Cy ok h1 h2 h3 g).symm
 |succ f ih =>
  intro g alo g4 f2 f6 h1 h2 h3 h4;cases g with
  |zero=>exact Cy ok h1 h2 h4 _
  |succ g =>
   have a:=ok alo g4 f2 f6 h1 h2;exact NB (fun hk=>ih g _ _ _ _ a.1 a.2.2.1 (yr a.2.1 hk h3) (yr a.2.1 hk h4)) fun hk=>ih g _ _ _ _ a.2.1 a.2.2.2 (yq a.1 hk h3) (yq a.1 hk h4)
theorem oS{fl:Nat->Nat->Nat->Nat->ab}(ok:cn fl){P:Nat->Nat->Nat->Nat->List ab->Prop}(nil:∀alo g4 f2 f6,alo<=g4->f2<=f6->P alo g4 f2 f6 [])
  (node:∀alo g4 f2 f6 i j k l r,alo<=g4->f2<=f6->fl alo g4 f2 f6=(i,j,k+1)->alo<=i->i+(k+1)<=g4->f2<=j->j+(k+1)<=f6->P alo i f2 j l->P (i+(k+1)) g4 (j+(k+1)) f6 r->P alo g4 f2 f6 (l++(i,j,k+1)::r))
  (f:Nat):∀alo g4 f2 f6:Nat,alo<=g4->f2<=f6->P alo g4 f2 f6 (ci fl f alo g4 f2 f6):=by
 induction f with
 |zero=>exact nil
 |succ f ih =>
  intro alo g4 f2 f6 h1 h2;have a:=ok alo g4 f2 f6 h1 h2;have n:=node alo g4 f2 f6;show P _ _ _ _ (xL fl f alo g4 f2 f6 (fl alo g4 f2 f6));generalize fl alo g4 f2 f6=r at a n;obtain⟨i,j,k⟩:=r;cases k with
  |zero=>exact nil _ _ _ _ h1 h2
  |succ k=>exact n i j k _ _ h1 h2 rfl a.1 a.2.1 a.2.2.1 a.2.2.2 (iteInduction (motive:=P alo i f2 j) (fun O=>ih _ _ _ _ a.1 a.2.2.1) fun O=>nil _ _ _ _ a.1 a.2.2.1) (iteInduction (motive:=P (i+(k+1)) g4 (j+(k+1)) f6) (fun O=>ih _ _ _ _ a.2.1 a.2.2.2) fun O=>nil _ _ _ _ a.2.1 a.2.2.2)
noncomputable abbrev cJ:=Nat×Nat×Nat×Nat
noncomputable def aW(fl:Nat->Nat->Nat->Nat->ab)(q:cJ):List ab:=ci fl (q.2.1-q.1) q.1 q.2.1 q.2.2.1 q.2.2.2
def yR(la lb:Nat)(q:cJ):Prop:=q.1<=q.2.1/\q.2.1<=la/\q.2.2.1<=q.2.2.2/\q.2.2.2<=lb
theorem Cu{fl:Nat->Nat->Nat->Nat->ab}{q:cJ}(hk:(fl q.1 q.2.1 q.2.2.1 q.2.2.2).2.2=0):aW fl q=[]:=by
 unfold aW;cases q.2.1-q.1 with
 |zero=>rfl
 |succ g=>exact if_pos hk
theorem gV(n m:Nat):n<=m+(n-m):=Nat.sub_le_iff_le_add'.mp (Xy _)
theorem Cv{fl:Nat->Nat->Nat->Nat->ab}(ok:cn fl){q:cJ}(h1:q.1<=q.2.1)(h2:q.2.2.1<=q.2.2.2)(hk:(fl q.1 q.2.1 q.2.2.1 q.2.2.2).2.2≠0) :
  aW fl q=(if q.1<(fl q.1 q.2.1 q.2.2.1 q.2.2.2).1/\q.2.2.1<(fl q.1 q.2.1 q.2.2.1 q.2.2.2).2.1 then aW fl (q.1,(fl q.1 q.2.1 q.2.2.1 q.2.2.2).1,q.2.2.1,(fl q.1 q.2.1 q.2.2.1 q.2.2.2).2.1) else [])++fl q.1 q.2.1 q.2.2.1 q.2.2.2 ::
   (if (fl q.1 q.2.1 q.2.2.1 q.2.2.2).1+(fl q.1 q.2.1 q.2.2.1 q.2.2.2).2.2<q.2.1/\(fl q.1 q.2.1 q.2.2.1 q.2.2.2).2.1+(fl q.1 q.2.1 q.2.2.1 q.2.2.2).2.2<q.2.2.2 then aW fl ((fl q.1 q.2.1 q.2.2.1 q.2.2.2).1+(fl q.1 q.2.1 q.2.2.1 q.2.2.2).2.2,q.2.1,(fl q.1 q.2.1 q.2.2.1 q.2.2.2).2.1+(fl q.1 q.2.1 q.2.2.1 q.2.2.2).2.2,q.2.2.2) else []):=by
 obtain⟨alo,g4,f2,f6⟩:=q;dsimp only at *;have a:=ok alo g4 f2 f6 h1 h2;unfold aW;dsimp only;refine(xM ok _ (g4-alo+1) alo g4 f2 f6 h1 h2 (gV g4 alo) (Nat.le_succ_of_le (gV g4 alo))).trans ?_;refine(if_neg hk).trans ?_;exact EK (tz (xM ok _ _ _ _ _ _ a.1 a.2.2.1 (yr a.2.1 hk (Nat.le_succ_of_le (gV g4 alo))) (gV _ alo))) (tz (xM ok _ _ _ _ _ _ a.2.1 a.2.2.2 (yq a.1 hk (Nat.le_succ_of_le (gV g4 alo))) (gV g4 _)))
noncomputable def cI(s:ab×List ab)(t:ab):ab×List ab :=
 if s.1.1+s.1.2.2=t.1/\s.1.2.1+s.1.2.2=t.2.1 then ((s.1.1,s.1.2.1,s.1.2.2+t.2.2),s.2) else (t,if s.1.2.2=0 then s.2 else s.2++[s.1])
noncomputable def fq(s:ab×List ab):List ab:=if s.1.2.2=0 then s.2 else s.2++[s.1]
noncomputable def aP(fl:Nat->Nat->Nat->Nat->ab)(la lb:Nat):List ab:=fq ((aW fl (0,la,0,lb)).foldl cI ((0,0,0),[]))++[(la,lb,0)]
def zh(alo g4 f2 f6:Nat)(t:ab):Prop:=alo<=t.1/\t.1+t.2.2<=g4/\f2<=t.2.1/\t.2.1+t.2.2<=f6/\0<t.2.2
theorem ta{P:α->Prop}{l r:List α}{x:α}(hl:∀t∈l,P t)(hx:P x)(hr:∀t∈r,P t)(t:α)(h:t∈l++x::r):P t :=
 (XR.mp h).elim (hl t) fun h=>(WT.mp h).elim (fun e=>e▸hx) (hr t)
theorem Cx{fl:Nat->Nat->Nat->Nat->ab}(ok:cn fl):∀(f alo g4 f2 f6:Nat),alo<=g4->f2<=f6->∀t∈ci fl f alo g4 f2 f6,zh alo g4 f2 f6 t :=
 oS ok (P:=fun alo g4 f2 f6 L=>∀t∈L,zh alo g4 f2 f6 t) (fun O O O O O O=>cw) fun alo g4 f2 f6 i j k l r O O O a1 a2 a3 a4 hl hr =>
  ta (fun t h=>⟨(hl t h).1,XQ (hl t h).2.1 (XQ (Nat.le_add_right ..) a2),(hl t h).2.2.1,XQ (hl t h).2.2.2.1 (XQ (Nat.le_add_right ..) a4),(hl t h).2.2.2.2⟩) ⟨a1,a2,a3,a4,Nat.succ_pos _⟩
   fun t h=>⟨XQ (XQ a1 (Nat.le_add_right ..)) (hr t h).1,(hr t h).2.1,XQ (XQ a3 (Nat.le_add_right ..)) (hr t h).2.2.1,(hr t h).2.2.2⟩
def yS(s t:ab):Prop:=s.1+s.2.2<=t.1/\s.2.1+s.2.2<=t.2.1
theorem Cw{fl:Nat->Nat->Nat->Nat->ab}(ok:cn fl)(f alo g4 f2 f6:Nat)(h1:alo<=g4)(h2:f2<=f6):(ci fl f alo g4 f2 f6).Pairwise yS :=
 (oS ok (P:=fun alo g4 f2 f6 L=>(∀t∈L,zh alo g4 f2 f6 t)/\L.Pairwise yS) (fun O O O O O O=>⟨cw,.nil⟩) (fun alo g4 f2 f6 i j k l r O O O a1 a2 a3 a4 hl hr =>
  ⟨ta (fun t h=>⟨(hl.1 t h).1,XQ (hl.1 t h).2.1 (XQ (Nat.le_add_right ..) a2),(hl.1 t h).2.2.1,XQ (hl.1 t h).2.2.2.1 (XQ (Nat.le_add_right ..) a4),(hl.1 t h).2.2.2.2⟩) ⟨a1,a2,a3,a4,Nat.succ_pos _⟩
   fun t h=>⟨XQ (XQ a1 (Nat.le_add_right ..)) (hr.1 t h).1,(hr.1 t h).2.1,XQ (XQ a3 (Nat.le_add_right ..)) (hr.1 t h).2.2.1,(hr.1 t h).2.2.2⟩,
  List.pairwise_append.mpr ⟨hl.2,ZB.mpr ⟨fun t h=>⟨(hr.1 t h).1,(hr.1 t h).2.2.1⟩,hr.2⟩,fun s hs=>ta (x:=(i,j,k+1)) (l:=[]) cw ⟨(hl.1 s hs).2.1,(hl.1 s hs).2.2.2.1⟩
   fun t h=>⟨XQ (hl.1 s hs).2.1 (XQ (Nat.le_add_right ..) (hr.1 t h).1),XQ (hl.1 s hs).2.2.2.1 (XQ (Nat.le_add_right ..) (hr.1 t h).2.2.1)⟩⟩⟩) f alo g4 f2 f6 h1 h2).2
theorem ND{fl:Nat->Nat->Nat->Nat->ab}(ok:cn fl):∀(f alo g4 f2 f6:Nat),alo<=g4->f2<=f6->(ci fl f alo g4 f2 f6).length+alo<=g4 :=
 oS ok (P:=fun alo g4 O O L=>L.length+alo<=g4) (fun O O O O h O=>(Nat.zero_add _).symm▸h) fun alo g4 f2 f6 i j k l r O O O a1 a2 a3 a4 hl hr=>by
  rw[WV,WU];clear a1 a2 a3 a4;omega
theorem Cz{fl:Nat->Nat->Nat->Nat->ab}(ok:cn fl)(f alo g4 f2 f6:Nat)(h1:alo<=g4)(h2:f2<=f6):(ci fl f alo g4 f2 f6).length<=g4-alo:=Nat.le_sub_of_add_le (ND ok f alo g4 f2 f6 h1 h2)
noncomputable def em(qs:List cJ):Nat:=(qs.map fun q=>2 * (q.2.1-q.1)+1).sum
theorem AY(qs:List cJ):qs.length<=em qs:=by
 unfold em;induction qs with
 |nil=>exact Xk _
 |cons q qs ih=>rw[WY,List.sum_cons,WU];omega
theorem Jx(qs:List cJ)(q:cJ):em (qs++[q])=em qs+(2 * (q.2.1-q.1)+1):=by
 unfold em;rw[Xr,List.sum_append];simp
theorem Ba(qs rs:List cJ):em (qs++rs)=em qs+em rs:=by
 unfold em;rw[Xr,List.sum_append]
theorem Mg{ms qs lw rw T:List ab}{t:ab}(h:((ms++qs)++(lw++t::rw)).Perm T):((ms++[t])++((qs++lw)++rw)).Perm T:=by
 refine List.Perm.trans (List.perm_iff_count.mpr fun x=>?_) h;simp only[List.count_append,List.count_cons,List.count_nil];omega
theorem DL{c:Prop}[Decidable c](f:α->List β)(x:α):(if c then [x] else []).flatMap f=if c then f x else []:=by
 split <;> simp
theorem Nz{fl:Nat->Nat->Nat->Nat->ab}(ok:cn fl){q:cJ}(h1:q.1<=q.2.1)(h2:q.2.2.1<=q.2.2.2):(aW fl q).Pairwise fun s t=>s.1<t.1 :=
 (Cw ok (q.2.1-q.1) q.1 q.2.1 q.2.2.1 q.2.2.2 h1 h2).imp_of_mem fun{s t} hs _ h=>by
  exact Nat.lt_of_lt_of_le (Nat.lt_add_of_pos_right (Cx ok _ _ _ _ _ h1 h2 s hs).2.2.2.2) h.1
theorem yO(s:ab×List ab)(t:ab):(cI s t).2.length<=s.2.length+1:=by
 unfold cI;split
 ·exact Nat.le_succ _
 ·dsimp only;split
  ·exact Nat.le_succ _
  ·simp
section
open PySem PyProof.Rows
section
variable{a0:Array Keyed}{key:Keyed->Nat}
def gb(d7:Xh)(w:Xo)(A:Xg)(E:Value->WS->Prop)(s:WS)(a0:Array Keyed)(key:Keyed->Nat):Prop :=
 ∀x∈a0.toList,∀y∈a0.toList,∀(Q:Option Bool->SortSt->Prop) (st:SortSt),kindOf st=oneType'->Q (some (decide (key x<key y))) st->wpS (Xn d7 w) A E s (lt' x y) Q st
noncomputable def aK(key:Keyed->Nat)(xs:Array Keyed)(i:Nat):Nat:=match xs[i]? with
 |some p=>key p
 |none=>0
theorem pE{xs ys:Array Keyed}(h:xs[i]?=ys[j]?):aK key xs i=aK key ys j:=by unfold aK;rw[h]
def Up(key:Keyed->Nat)(xs:Array Keyed)(k:Nat):Prop:=∀i j,i<j->j<k->aK key xs i<aK key xs j
def C8(key:Keyed->Nat)(xs:Array Keyed)(k:Nat):Prop:=∀i j,i<j->j<k->aK key xs j<aK key xs i
def eA(key:Keyed->Nat)(xs:Array Keyed):Prop:=∀i j,i<j->j<xs.size->aK key xs i≠aK key xs j
theorem EL{xs:Array Keyed}:eA key xs↔(xs.toList.map key).Nodup:=by
 have hk:∀i (h:i<xs.size),aK key xs i=key xs[i]:=fun i h=>by unfold aK;rw[getElem?_pos xs i h]
 have hm:∀i (h:i<(xs.toList.map key).length),∃h':i<xs.size,(xs.toList.map key)[i]=aK key xs i:=fun i h =>
  have h':i<xs.size:=Nat.lt_of_lt_of_eq h (WP _)
  ⟨h',(List.getElem_map key).trans (hk i h').symm⟩
 have hs:(xs.toList.map key).length=xs.size:=WP _;refine⟨fun h=>List.pairwise_iff_getElem.mpr fun i j hi hj A9=>?_,fun h i j A9 hj=>?_⟩
 ·exact ak (hm i hi) fun h1 e1=>ak (hm j hj) fun h2 e2=>e1▸e2▸h i j A9 h2
 ·exact ak (hm i (hs▸Nat.lt_trans A9 hj)) fun h1 e1=>ak (hm j (hs▸hj)) fun h2 e2=>e1▸e2▸List.pairwise_iff_getElem.mp h i j _ _ A9
theorem SBase.apart{st:SortSt}(h:SBase a0 st)(hd:eA key a0):eA key (arrOf st):=by
 rw[EL] at hd ⊢;exact((Zt.mp h.perm).map key).nodup_iff.mpr hd
theorem mw{st:SortSt}{Q:Option Bool->SortSt->Prop}(hL:gb d7 w A E s a0 key)(hB:SBase a0 st)(hi:i<a0.size)(hj:j<a0.size)
  (h:Q (some (decide (aK key (arrOf st) i<aK key (arrOf st) j))) st):wpS (Xn d7 w) A E s (ltAt' i j) Q st:=by
 have hi':i<(arrOf st).size:=by rw[hB.size];exact hi
 have L5:j<(arrOf st).size:=by rw[hB.size];exact hj
 have mi:(arrOf st)[i]∈a0.toList:=(Zt.mp hB.perm).mem_iff.mp (by simp);have mj:(arrOf st)[j]∈a0.toList:=(Zt.mp hB.perm).mem_iff.mp (by simp);have e1:(arrOf st)[i]?=some (arrOf st)[i]:=getElem?_pos _ i hi';have e2:(arrOf st)[j]?=some (arrOf st)[j]:=getElem?_pos _ j L5;unfold aK at h;rw[e1,e2] at h;rw[ltAt'_eq];refine wpS_bind (wpS_get ?_);show wpS _ _ _ _ (do let x ← elem' (arrOf st) i;let y ← elem' (arrOf st) j;lt' x y) Q st;rw[elem'_eq,elem'_eq,e1,e2];exact wpS_bind (wpS_pure (wpS_bind (wpS_pure (hL _ mi _ mj _ _ hB.kind h))))
theorem UP{xs:Array Keyed}{R4 d:Nat}(hs:R4<xs.size)(hd:d<=R4)(k:Nat) :
  aK key (bubble xs R4 d) k=if k=R4-d then aK key xs R4 else if R4-d<k/\k<=R4 then aK key xs (k-1) else aK key xs k:=by
 by_cases h1:k=R4-d
 ·rw[if_pos h1];exact pE ((getElem?_bubble hs d hd k).trans (if_pos h1))
 ·rw[if_neg h1];by_cases h2:R4-d<k/\k<=R4
  ·rw[if_pos h2];exact pE ((getElem?_bubble hs d hd k).trans ((if_neg h1).trans (if_pos h2)))
  ·rw[if_neg h2];exact pE ((getElem?_bubble hs d hd k).trans ((if_neg h1).trans (if_neg h2)))
theorem Fo{xs:Array Keyed}(hj:j<=xs.size)(k:Nat):aK key (mirror xs i j ((j-i) / 2)) k=if i<=k/\k<j then aK key xs (i+j-1-k) else aK key xs k:=by
 by_cases h1:i<=k/\k<j
 ·rw[if_pos h1];exact pE ((getElem?_mirror_all hj k).trans (if_pos h1))
 ·rw[if_neg h1];exact pE ((getElem?_mirror_all hj k).trans (if_neg h1))
theorem GS{f g:Nat->Nat}{l x:Nat}(lo:∀i,i<l->g i=f i)(at_:g l=x)(hi:∀i,l<=i->i<k->g (i+1)=f i)(hu:∀i j,i<j->j<k->f i<f j)
  (h1:∀i,i<l->f i<x) (h2:∀i,l<=i->i<k->x<f i) (hl:l<=k) (i j:Nat) (A9:i<j) (hj:j<k+1):g i<g j:=by
 have up:∀m,l<m->m<k+1->∃n,m=n+1/\l<=n/\n<k:=fun m a b=>by
  cases m with
  |zero=>exact absurd a (Nat.not_lt_zero _)
  |succ n=>exact⟨n,rfl,Nat.le_of_lt_succ a,Nat.lt_of_succ_lt_succ b⟩
 refine(Nat.lt_trichotomy i l).elim (fun a=>?_) fun a=>a.elim (fun a=>?_) fun a=>?_
 ·rw[lo i a];refine(Nat.lt_trichotomy j l).elim (fun b=>?_) fun b=>b.elim (fun b=>?_) fun b=>?_
  ·rw[lo j b];exact hu i j A9 (Nat.lt_of_lt_of_le b hl)
  ·rw[b,at_];exact h1 i a
  ·exact aU (up j b hj) fun n e c d=>e▸(hi n c d).symm▸hu i n (Nat.lt_of_lt_of_le a c) d
 ·subst a;rw[at_];exact aU (up j A9 hj) fun n e c d=>e▸(hi n c d).symm▸h2 n c d
 ·exact aU (up i a (Nat.lt_trans A9 hj)) fun m e c d=>aU (up j (Nat.lt_trans a A9) hj) fun n e' c' d'=>by
   subst e;subst e';rw[hi m c d,hi n c' d'];exact hu m n (Nat.lt_of_succ_lt_succ A9) d'
theorem Up.bubble{xs:Array Keyed}{l:Nat}(hk:k<xs.size)(hl:l<=k)(hu:Up key xs k)(h1:∀i,i<l->aK key xs i<aK key xs k)(h2:∀i,l<=i->i<k->aK key xs k<aK key xs i):Up key (bubble xs k (k-l)) (k+1):=by
 have e:=fun m=>UP (key:=key) hk (Nat.sub_le k l) m;rw[Nat.sub_sub_self hl] at e;refine GS (f:=aK key xs) (x:=aK key xs k) (l:=l) (fun i a=>?_) ((e l).trans (if_pos rfl)) (fun i a b=>?_) hu h1 h2 hl
 ·exact(e i).trans ((if_neg (Ys a)).trans (if_neg fun q=>Nat.lt_asymm a q.1))
 ·exact(e (i+1)).trans ((if_neg (Nat.ne_of_gt (Nat.lt_succ_of_le a))).trans (if_pos ⟨Nat.lt_succ_of_le a,b⟩))
structure W3 (f:Nat->Nat) (x k m l r:Nat):Prop where
 le:l<=r
 rk:r<=k
 rm:r<=l+m
 lo:∀i,i<l->f i<x
 hi:∀i,r<=i->i<k->x<f i
theorem iV{l r:Nat}(h:l<r):l<=(l+r) / 2/\(l+r) / 2<r :=
 ⟨(Nat.le_div_iff_mul_le (Nat.succ_pos 1)).mpr (Nat.mul_two l▸Nat.add_le_add_left (YO h) l),Nat.div_lt_of_lt_mul (Nat.two_mul r▸Nat.add_lt_add_right h r)⟩
theorem W3.low{f:Nat->Nat}{x m l r:Nat}(h:W3 f x k (m+1) l r)(l8:l<r)(hu:∀i j,i<j->j<k->f i<f j)(hc:x<f ((l+r) / 2)):W3 f x k m l ((l+r) / 2) :=
 ⟨(iV l8).1,XQ (YO (iV l8).2) h.rk,Nat.le_of_lt_succ (Nat.lt_of_lt_of_le (iV l8).2 h.rm),h.lo,fun i a b=>(Nat.eq_or_lt_of_le a).elim (fun e=>e▸hc) fun a=>Nat.lt_trans hc (hu _ _ a b)⟩
theorem W3.high{f:Nat->Nat}{x m l r:Nat}(h:W3 f x k (m+1) l r)(l8:l<r)(hu:∀i j,i<j->j<k->f i<f j)(hc:f ((l+r) / 2)<x):W3 f x k m ((l+r) / 2+1) r :=
 ⟨(iV l8).2,h.rk,XQ h.rm (Nat.succ_add_eq_add_succ l m▸Nat.add_le_add_right (Nat.succ_le_succ (iV l8).1) m),fun i a=>(Nat.eq_or_lt_of_le (Nat.le_of_lt_succ a)).elim (fun e=>e▸hc) fun a=>Nat.lt_trans (hu _ _ a (Nat.lt_of_lt_of_le (iV l8).2 h.rk)) hc,h.hi⟩
theorem W3.fin{f:Nat->Nat}{x m l r:Nat}(h:W3 f x k m l r)(G7:r<=l)(m':Nat):W3 f x k m' l r:=⟨h.le,h.rk,XQ G7 (Nat.le_add_right ..),h.lo,h.hi⟩
theorem Gv{st:SortSt}{ok:Nat}{Q:Bool->SortSt->Prop}(hL:gb d7 w A E s a0 key)(hd:eA key a0)(hn:n<=a0.size)(I6:1<=ok)(hokn:ok<=n)(hB:SBase a0 st)(hs:Up key (arrOf st) ok)
  (h:∀e9,SBase a0 e9->Up key (arrOf e9) n->Q true e9):wpS (Xn d7 w) A E s (binarySort' 0 n ok) Q st:=by
 rw[binarySort'_eq,Nat.max_eq_left I6];refine wpS_bind (wpS_mono (wpS_forRange (β:=Option Bool×Unit) (fun k c e9=>c=(none,())/\SBase a0 e9/\Up key (arrOf e9) k) (Q:=fun c e9=>c=(none,())/\SBase a0 e9/\Up key (arrOf e9) n) ?_ (fun c e9 Y=>Nat.max_eq_right hokn▸Y) ⟨rfl,hB,hs⟩)
  fun c e9 Y=>cB Y fun e P9 hu=>by subst e;exact wpS_pure (h e9 P9 hu))
 intro k c e9 hk1 hk2 Y;refine cB Y fun e P9 hu=>?_;clear Y;subst e;have U':=SBase.apart P9 hd;have hk:=Nat.lt_of_lt_of_le hk2 hn;refine wpS_bind (wpS_mono (wpS_forRange (β:=Option Bool×Nat×Nat) (fun t c l7=>∃l r,c=(none,l,r)/\l7=e9/\W3 (aK key (arrOf e9)) (aK key (arrOf e9) k) k (k-t) l r)
  (Q:=fun c l7=>∃l r,c=(none,l,r)/\l7=e9/\W3 (aK key (arrOf e9)) (aK key (arrOf e9) k) k 0 l r) ?_ ?_ ?_) ?_)
 ·intro t c l7 ht1 ht2 Y;refine br Y fun l r e e' b=>?_;clear Y;subst e;subst e';dsimp only;rw[show k-t=k-(t+1)+1 from(Nat.succ_pred_eq_of_pos (Nat.sub_pos_of_lt ht2)).symm] at b;split
  ·rename_i G7
   exact wpS_pure ⟨l,r,rfl,rfl,b.fin G7 0⟩
  ·rename_i l8
   have l8:=Nat.not_le.mp l8;have hm:=iV l8;have W7:=Nat.lt_of_lt_of_le hm.2 b.rk;rw[Nat.zero_add,Nat.zero_add];refine wpS_bind (mw hL P9 hk (Nat.lt_trans W7 hk) ?_);by_cases hc:aK key (arrOf l7) k<aK key (arrOf l7) ((l+r) / 2)
   ·rw[decide_eq_true hc];exact wpS_pure ⟨l,_,rfl,rfl,b.low l8 hu hc⟩
   ·rw[decide_eq_false hc];exact wpS_pure ⟨_,r,rfl,rfl,b.high l8 hu (Nat.lt_of_le_of_ne (Nat.not_lt.mp hc) (U' _ _ W7 (P9.size.symm▸hk)))⟩
 ·exact fun c l7 Y=>br Y fun l r e e' b=>⟨l,r,e,e',Nat.sub_eq_zero_of_le (Nat.le_max_right 0 k)▸b⟩
 ·exact⟨0,k,rfl,rfl,Xk _,Xy _,Nat.le_of_eq (Nat.zero_add _).symm,fun O=>nofun,fun i a b=>absurd b (Nat.not_lt.mpr a)⟩
 ·intro c l7 Y;refine br Y fun l r e e' b=>?_;clear Y;subst e;subst e';have q:=Nat.le_antisymm b.le b.rm;subst q;dsimp only;rw[moveDown'_eq,Nat.zero_add,Nat.zero_add];exact wpS_bind (wpS_modify (wpS_pure ⟨rfl,P9.setArr (bubble_perm ..),Up.bubble (P9.size.symm▸hk) b.rk hu b.lo b.hi⟩))
end
end
section
open PySem PyProof.Rows
section
variable{a0:Array Keyed}{key:Keyed->Nat}
theorem Up.one{xs:Array Keyed}:Up key xs 1:=fun i j h1 h2=>absurd h1 (Nat.lt_one_iff.mp h2▸Nat.not_lt_zero i)
theorem Up.more{xs:Array Keyed}{x:Nat}(hu:Up key xs (x+1))(h:aK key xs x<aK key xs (x+1)):Up key xs (x+2):=fun i j A9 hj =>
 (Nat.lt_succ_iff_lt_or_eq.mp hj).elim (hu i j A9) fun e=>by
  subst e;exact(Nat.lt_succ_iff_lt_or_eq.mp A9).elim (fun a=>Nat.lt_trans (hu i x a (Zv x)) h) fun a=>a▸h
theorem C8.more{xs:Array Keyed}{x:Nat}(hu:C8 key xs (x+1))(h:aK key xs (x+1)<aK key xs x):C8 key xs (x+2):=fun i j A9 hj =>
 (Nat.lt_succ_iff_lt_or_eq.mp hj).elim (hu i j A9) fun e=>by
  subst e;exact(Nat.lt_succ_iff_lt_or_eq.mp A9).elim (fun a=>Nat.lt_trans h (hu i x a (Zv x))) fun a=>a▸h
theorem Ct(h1:i<j)(h2:j<n):0+n-1-j<0+n-1-i/\0+n-1-i<n:=by
 rw[Nat.zero_add];exact⟨Nat.sub_lt_sub_left (Nat.lt_sub_of_add_lt (Nat.lt_of_le_of_lt h1 h2)) h1,Nat.lt_of_le_of_lt (Nat.sub_le ..) (Nat.sub_one_lt (Nat.ne_of_gt (Nat.zero_lt_of_lt h2)))⟩
theorem C8.mirror{xs:Array Keyed}(hn:n<=xs.size)(h:C8 key xs n):Up key (mirror xs 0 n ((n-0) / 2)) n:=fun i j A9 hj=>by
 rw[Fo hn,Fo hn,if_pos ⟨Xk _,Nat.lt_trans A9 hj⟩,if_pos ⟨Xk _,hj⟩];exact h _ _ (Ct A9 hj).1 (Ct A9 hj).2
theorem zK{st:SortSt}{a p7:Nat}{Q:AscSt->SortSt->Prop}(hL:gb d7 w A E s a0 key)(hd:eA key a0)(hn:p7<=a0.size)(ha:1<=a)(han:a<=p7)(hB:SBase a0 st)(hs:Up key (arrOf st) a)
  (h:∀n,a<=n->n<=p7->Up key (arrOf st) n->(n=p7∨aK key (arrOf st) n<aK key (arrOf st) (n-1))->Q (none,n) st):wpS (Xn d7 w) A E s (ascLoop a p7) Q st:=by
 have U':=SBase.apart hB hd;unfold ascLoop;refine wpS_forRange (fun x c e9=>c=(none,x)/\e9=st/\Up key (arrOf st) x) ?_ ?_ ⟨rfl,rfl,hs⟩
 ·intro x c e9 h1 h2 Y6;refine cB Y6 fun e e' hu=>?_;clear Y6;subst e;subst e';cases x with
  |zero=>exact absurd (XQ ha h1) (Nat.not_succ_le_zero 0)
  |succ x =>
   have hx:=Nat.lt_of_lt_of_le h2 hn;refine wpS_bind (mw hL hB hx (Nat.lt_of_succ_lt hx) ?_);rw[Nat.add_sub_cancel];dsimp only;by_cases hc:aK key (arrOf e9) (x+1)<aK key (arrOf e9) x
   ·rw[decide_eq_true hc];exact wpS_pure (h (x+1) h1 (YO h2) hu (.inr hc))
   ·rw[decide_eq_false hc];exact wpS_pure ⟨rfl,rfl,hu.more (Nat.lt_of_le_of_ne (Nat.not_lt.mp hc) (U' x (x+1) (Zv x) (hB.size.symm▸hx)))⟩
 ·intro c e9 Y3;refine cB Y3 fun e e' hu=>?_;rw[Nat.max_eq_right han] at e hu;subst e;subst e';exact h p7 han (Xy _) hu (.inl rfl)
theorem Gp{st:SortSt}{p7:Nat}{Q:Option Nat->SortSt->Prop}(hL:gb d7 w A E s a0 key)(hd:eA key a0)(hn:p7<=a0.size)(h1:1<=n)(M3:n<=p7)(hB:SBase a0 st)(hs:C8 key (arrOf st) n)
  (h:∀m e9,SBase a0 e9->1<=m->m<=p7->Up key (arrOf e9) m->Q (some m) e9):wpS (Xn d7 w) A E s (tail3 n p7) Q st:=by
 unfold tail3;have P9:SBase a0 (setArr st (mirror (arrOf st) 0 n ((n-0) / 2))):=hB.setArr (mirror_perm _ _ _ _);exact wpS_bind (wpS_reverse (wpS_bind (zK hL hd hn h1 M3 P9 (C8.mirror (hB.size.symm▸XQ M3 hn) hs) fun m a b c O=>wpS_pure (h m _ P9 (XQ h1 a) b c))))
theorem Gs{st:SortSt}{p7:Nat}{Q:DescSt->SortSt->Prop}(hL:gb d7 w A E s a0 key)(hd:eA key a0)(hn:p7<=a0.size)(h1:1<=n)(M3:n<=p7)(hB:SBase a0 st)(hs:C8 key (arrOf st) n)
  (h:∀m,n<=m->m<=p7->C8 key (arrOf st) m->Q (none,m,0) st):wpS (Xn d7 w) A E s (descLoop n p7) Q st:=by
 have U':=SBase.apart hB hd;unfold descLoop;refine wpS_forRange (fun x c e9=>c=(none,x,0)/\e9=st/\C8 key (arrOf st) x) ?_ ?_ ⟨rfl,rfl,hs⟩
 ·intro x c e9 h2 h3 Y6;refine cB Y6 fun e e' hu=>?_;clear Y6;subst e;subst e';cases x with
  |zero=>exact absurd (XQ h1 h2) (Nat.not_succ_le_zero 0)
  |succ x =>
   have hx:=Nat.lt_of_lt_of_le h3 hn;refine wpS_bind (mw hL hB hx (Nat.lt_of_succ_lt hx) ?_);rw[Nat.add_sub_cancel];dsimp only;by_cases hc:aK key (arrOf e9) (x+1)<aK key (arrOf e9) x
   ·rw[decide_eq_true hc,if_pos rfl,if_neg (Zh 0)];exact wpS_pure ⟨rfl,rfl,hu.more hc⟩
   ·rw[decide_eq_false hc,if_neg XL];refine wpS_bind (mw hL hB (Nat.lt_of_succ_lt hx) hx ?_);rw[decide_eq_true (Nat.lt_of_le_of_ne (Nat.not_lt.mp hc) (U' x (x+1) (Zv x) (hB.size.symm▸hx)))];exact wpS_pure (h (x+1) h2 (YO h3) hu)
 ·intro c e9 Y3;refine cB Y3 fun e e' hu=>?_;rw[Nat.max_eq_right M3] at e hu;subst e;subst e';exact h p7 M3 (Xy _) hu
theorem Gr{st:SortSt}{p7:Nat}{Q:Option Nat->SortSt->Prop}(hL:gb d7 w A E s a0 key)(hd:eA key a0)(hn:p7<=a0.size)(M3:n+1<=p7)(hB:SBase a0 st)(hs:C8 key (arrOf st) (n+1))
  (h:∀m e9,SBase a0 e9->1<=m->m<=p7->Up key (arrOf e9) m->Q (some m) e9):wpS (Xn d7 w) A E s (descPart n p7) Q st:=by
 unfold descPart;refine wpS_bind (wpS_lift (YA ⟨rfl,wpS_bind (Gs hL hd hn (Nat.succ_pos n) M3 hB hs fun m a b c=>?_)⟩));dsimp only;rw[if_neg (Zh 0)];exact Gp hL hd hn (XQ (Nat.succ_pos n) a) b hB c h
theorem Gu{st:SortSt}{p7:Nat}{Q:Option Nat->SortSt->Prop}(hL:gb d7 w A E s a0 key)(hd:eA key a0)(hn:p7<=a0.size)(h1:1<=p7)(hB:SBase a0 st)
  (h:∀m e9,SBase a0 e9->1<=m->m<=p7->Up key (arrOf e9) m->Q (some m) e9):wpS (Xn d7 w) A E s (countRun' 0 p7) Q st:=by
 rw[countRun0_eq];refine wpS_bind (zK hL hd hn (Xy _) h1 hB Up.one fun n a b c e=>?_);dsimp only;by_cases M3:n=p7
 ·rw[if_pos (beq_iff_eq.mpr M3)];exact wpS_pure (h n st hB a b c)
 ·rw[if_neg fun q=>M3 (beq_iff_eq.mp q)];have l8:=e.resolve_left M3;have H4:=Nat.lt_of_lt_of_le (Nat.lt_of_le_of_ne b M3) hn;by_cases ë:n > 1
  ·rw[if_pos ë];have h0:=Nat.sub_lt (Nat.lt_of_lt_of_le Nat.one_pos a) Nat.one_pos;refine wpS_bind (mw hL hB (Nat.lt_of_le_of_lt (Xk _) H4) (Nat.lt_trans h0 H4) ?_);rw[decide_eq_true (c 0 (n-1) (Nat.sub_pos_of_lt ë) h0)];exact wpS_pure (h n st hB a b c)
  ·rw[if_neg ë];have q:=Nat.le_antisymm (Nat.not_lt.mp ë) a;subst q;exact Gr hL hd hn (Nat.lt_of_le_of_ne b M3) hB (C8.more (fun i j h1 h2=>absurd h1 (Nat.lt_one_iff.mp h2▸Nat.not_lt_zero i)) l8) h
def I4(key:Keyed->Nat)(a0:Array Keyed)(st:SortSt):Prop:=(arrOf st).Perm a0/\failedOf st=none/\pendingOf st=#[(0,a0.size,0)]/\Up key (arrOf st) a0.size
theorem I4.of{st:SortSt}(hB:SBase a0 st)(hs:Up key (arrOf st) a0.size):I4 key a0 (setPending st ((pendingOf st).push (0,a0.size,0))):=⟨hB.perm,hB.failed,by
 show (pendingOf st).push (0,a0.size,0)=_;rw[hB.pend];rfl,hs⟩
theorem Nf(h2:2<=n)(h64:n<64):minRun' n n 0=n:=by
 cases n with
 |zero=>omega
 |succ f=>rw[minRun'_succ,if_pos h64]
theorem Gq{st:SortSt}{Q:Unit->SortSt->Prop}(hL:gb d7 w A E s a0 key)(hd:eA key a0)(hB:SBase a0 st)(h2:2<=a0.size)(h64:a0.size<64)
  (h:∀e9,(arrOf e9).Perm a0->failedOf e9=none->Up key (arrOf e9) a0.size->Q () e9):wpS (Xn d7 w) A E s sortRuns' Q st:=by
 rw[sortRuns'_eq];refine wpS_bind (wpS_get ?_);rw[hB.size];dsimp only;rw[Nf h2 h64];refine wpS_bind (wpS_mono (wpS_forRange (Q:=fun c e9=>c=(none,a0.size)/\I4 key a0 e9)
  (fun x c e9=>(c=(none,0)/\x=0/\SBase a0 e9)∨(c=(none,a0.size)/\1<=x/\I4 key a0 e9)) ?_ ?_ (.inl ⟨rfl,rfl,hB⟩)) ?_)
 ·rintro x c e9 _ hx (⟨rfl,rfl,P9⟩ |⟨rfl,hx1,hO⟩)
  ·dsimp only;rw[if_neg (Nat.not_le.mpr (Nat.lt_of_lt_of_le (by decide) h2)),Nat.sub_zero,Nat.min_self];refine wpS_bind (Gu hL hd (Xy _) (XQ (by decide) h2) P9 fun m aE Ï m1 m2 J8=>?_);dsimp only;by_cases l8:m<a0.size
   ·rw[if_pos l8];refine wpS_bind (wpS_lift (YA ⟨rfl,wpS_bind (Gv hL hd (Xy _) m1 m2 Ï J8 fun aq hB2 r_=>?_)⟩));rw[if_neg (by decide)];refine wpS_bind (wpS_get ?_);rw[show (pendingOf aq).back?=none from by rw[hB2.pend];rfl];exact wpS_bind (wpS_modify (wpS_pure (.inr ⟨congrArg (Prod.mk none) (Nat.zero_add _),Nat.succ_pos _,.of hB2 r_⟩)))
   ·rw[if_neg l8]
    have:m=a0.size:=Nat.le_antisymm m2 (Nat.not_lt.mp l8);subst this;refine wpS_bind (wpS_get ?_);rw[show (pendingOf aE).back?=none from by rw[Ï.pend];rfl];exact wpS_bind (wpS_modify (wpS_pure (.inr ⟨congrArg (Prod.mk none) (Nat.zero_add _),Nat.succ_pos _,.of Ï J8⟩)))
  ·dsimp only;rw[if_pos (Xy _)];exact wpS_pure ⟨rfl,hO⟩
 ·rintro c e9 (⟨_,hx,_⟩ |⟨hc,_,hO⟩)
  ·exact absurd ((Nat.max_eq_right (Xk _)).symm.trans hx▸h2) (by decide)
  ·exact⟨hc,hO⟩
 ·intro c e9 Y3;refine av Y3 fun j_ hO=>?_;clear Y3;subst j_;dsimp only;refine wpS_bind (wpS_mono (wpS_forRange (Q:=fun c l7=>c=(none,())/\l7=e9) (fun O c l7=>c=(none,())/\l7=e9) ?_ (fun O O q=>q) ⟨rfl,rfl⟩) ?_)
  ·intro x c l7 _ _ Y6;refine av Y6 fun Y61 Y62=>?_;clear Y6;subst Y61;subst Y62;refine wpS_bind (wpS_get ?_);rw[if_pos (by rw[hO.2.2.1];exact Xy 1)];exact wpS_pure ⟨rfl,rfl⟩
  ·intro c l7 Y3;refine av Y3 fun j_ Û=>?_;clear Y3;subst j_;subst Û;exact wpS_pure (h _ hO.1 hO.2.1 hO.2.2.2)
end
end
section
open PySem PySem.W PyProof.Rows
structure W1 (d7:Xh) (w:Xo) (K:Frag) (C:XC):Prop where
 lt:XW K ⟨d7,w.params⟩ (Yx (.ref C) "__lt__")=some (some (.builtin "tuple.__lt__"))
 sub:XW K ⟨d7,w.params⟩ (ZR (.ref C) (.type "tuple"))=some true
theorem Hq(x y:Value):Builtin.«tuple.__lt__» ⟨[x,y],[]⟩=(do
  if !(← isInstance y (.type "tuple")) then return ← ret .notImplemented
  let xs ← Builtin.Tuple.tupleItemsOf x
  let ys ← Builtin.Tuple.tupleItemsOf y
  for (p,q) in xs.toList.zip ys.toList do
   if !(← eqBool p q) then
    rule "tuple.compare.by-the-first-pair-that-differs";return ← ret (← richCompare .Lt p q)
  ret (Builtin.Tuple.tupleCompareSizes .Lt xs.size ys.size)):=rfl
section
variable{K:Frag}
theorem NG{b e:XC}{i j k i' j' k':Int}{t1 t2 t3 u1 u2 u3:Tok}{m:Nat}{Q:Bool->WS->Prop}(ok:W1 d7 w K C)(X:K.In s.heap)(hu:A.units<cLine)
  (ha:s.heap.get? a=some {cls:=.ref C,dict:=some d,data:=.seq #[.int i t1,.int j t2,.int k t3] n})
  (hb:s.heap.get? b=some {cls:=.ref C,dict:=some e,data:=.seq #[.int i' u1,.int j' u2,.int k' u3] m})
  (t0:i=i'->j=j'/\k=k') (hQ:Q (decide (i<i')) s):Xq (Xn d7 w) A (oneLt' true (.ref a) (.ref b)) Q E s:=by
 have tl:Looks (Xn d7 w) s.heap (typeOf (.ref a)) (.ref C):=(Looks.ld ha).andThen .now;have tb:Looks (Xn d7 w) s.heap (typeOf (.ref b)) (.ref C):=(Looks.ld hb).andThen .now;have hc:Xq (Xn d7 w) A (call (.builtin "tuple.__lt__") [.ref a,.ref b]) (fun v s'=>v=.bool (decide (i<i'))/\s'=s) (fun O O=>False) s:=by
  refine Zu (Zc F.slot_tuple_lt.plain F.entry_tuple_lt (check_slot (i := "tuple.__lt__") (owner := "tuple") (n := "__lt__") (by decide +kernel) (by decide +kernel) (tl.andThen (ZO X ok.sub)) (F.args_tuple_lt_2 _ _) ?_));rw[Hq];refine WL ?_;unfold isInstance;refine WL (tb.here (cr X ok.sub ?_));refine Yj rfl ?_;refine WL (wpAny_tupleItemsOf ha rfl (WL (wpAny_tupleItemsOf hb rfl ?_)));dsimp only[ZA,List.zip_nil_right,List.forIn_cons,List.forIn_nil];refine WL (WL (WL (wpAny_eqBool_int ?_)));by_cases q:i=i'
  ·refine av (t0 q) fun O1 O2=>?_;subst O1;subst O2;subst q;simp only[beq_self_eq_true,Bool.not_true,XI,if_false];refine WN ?_;dsimp only;refine WL (WL (wpAny_eqBool_int ?_));simp only[beq_self_eq_true,Bool.not_true,XI,if_false];refine WN ?_;dsimp only;refine WL (WL (wpAny_eqBool_int ?_));simp only[beq_self_eq_true,Bool.not_true,XI,if_false];refine WN ?_;dsimp only;refine WN (WN ⟨?_,rfl⟩);rw[decide_eq_false ⋯];rfl
  ·have hq:(i==i')=false:=beq_eq_false_iff_ne.mpr q;simp only[hq,Bool.not_false,if_true];refine WL (YA (WL (PyProof.Rows.lt_int ?_)));exact WL (WN (WN (WN (WN ⟨rfl,rfl⟩))))
 rw[oneLt'_eq];dsimp only[if_true];refine WL (wpAny_cRoomFor hu ?_);dsimp only[callSpecialIfBound?,bindSpecialIfBound?];refine WL (Xc (WL ?_));unfold specialOf;refine WL (WL (tl.here (cr X ok.lt ?_)));dsimp only[F.slot_tuple_lt.bind];refine WL (wpAny_askSetting (wpAny_ite ?_));split
 ·refine WL (WN (WN ?_));refine WL (XU hc (fun v s' h'=>?_) fun O O h'=>h'.elim);refine av h' fun O1 O2=>?_;clear h';subst O1;subst O2;exact WN (wpAny_truthy_bool hQ)
 ·refine wpAny_tryCatch (WL (WN (WN ?_)));refine WL (XU hc (fun v s' h'=>?_) fun O O h'=>h'.elim);refine av h' fun O1 O2=>?_;clear h';subst O1;subst O2;exact WN (wpAny_truthy_bool hQ)
end
end
section
open PySem PySem.W PyProof.Rows
section
variable{key:Keyed->Nat}
def mn(a:XC)(h h':Heap):Prop:=∀b o,b≠a->h.get? b=some o->h'.get? b=some o
theorem Ia{h:Heap}{out:Array Value}:mn a h (sortedHeap h a vs out):=fun b o hb e=>by
 unfold sortedHeap;rw[Heap.get?_update_ne _ _ _ _ hb];refine WX _ (WX _ ?_);rw[Heap.get?_update_ne _ _ _ _ hb];exact e
theorem Oh{P:PySem.Fin->WS->Prop}(ho:s.heap.get? a=some (seqObj "list" vs.toArray n))(hsz:vs.length<64)(hd:eA key (pairsOf vs))
  (hL:∀h',mn a s.heap h'->gb d7 w A E {s with heap:=h' } (pairsOf vs) key)
  (hK:∀h',mn a s.heap h'->2<=vs.length->∀Q:SortKind->WS->Prop,Q oneType' { s with heap:=h' }->Xq (Xn d7 w) A (keyKind' vs.toArray) Q E {s with heap:=h' })
  (h:∀out:Array Keyed,out.Perm (pairsOf vs)->Up key out (pairsOf vs).size->P (.done (.ret .none)) {s with heap:=sortedHeap s.heap a vs (out.map (·.2))}) :
  Xq (Xn d7 w) A (Builtin.«list.sort» ⟨[.ref a],[]⟩) P E s:=by
 have l8:=XT ho;have hps:(pairsOf vs).size=vs.length:=pairsOf_size vs;rw[list_sort_plain];refine WL (listItems_at ho rfl (WL (listUpdate_at ho rfl ?_ (by rw[List.size_toArray,Yq];omega) (Xk _))));obtain⟨e,he⟩:∃e,(s.heap.update a (XS fun O=>(#[]:Array Value))).get? a=some (seqObj "list" #[] e):=⟨_,get?_update_seq ho _⟩;refine WL (seqEpoch_at he rfl (WL (wpAny_newTuple (WL (wpAny_newList (Xc ?_) (Xk _))) (by show vs.length<=_;rw[Yq];omega))));have hk:mn a s.heap (((s.heap.update a (XS fun O=>(#[]:Array Value))).push (seqObj "tuple" vs.toArray 0)).push (seqObj "list" #[] 0)):=fun b o hb q=>by
  refine WX _ (WX _ ?_);exact(Eq.symm (Heap.get?_update_ne _ _ _ _ hb))▸q
 have ñ:(((s.heap.update a (XS fun O=>(#[]:Array Value))).push (seqObj "tuple" vs.toArray 0)).push (seqObj "list" #[] 0)).get? a=some (seqObj "list" #[] e):=WX _ (WX _ he);show Xq (Xn d7 w) A _ P E {s with heap:=((s.heap.update a (XS fun O=>(#[]:Array Value))).push (seqObj "tuple" vs.toArray 0)).push (seqObj "list" #[] 0)};have fin:∀e9:SortSt,failedOf e9=none->(arrOf e9).Perm (pairsOf vs)->Up key (arrOf e9) (pairsOf vs).size ->
   Xq (Xn d7 w) A (do
    let Y0:=(← seqEpoch a) != e
    Builtin.List.listUpdate (.ref a) fun O=>(arrOf e9).map (·.2)
    if let some x:=failedOf e9 then rule "list.sort.comparison-raised";throw x
    if Y0 then rule "list.sort.modified";raiseError "ValueError" "list modified during sort"
    ret .none) P E {s with heap:=((s.heap.update a (XS fun O=>(#[]:Array Value))).push (seqObj "tuple" vs.toArray 0)).push (seqObj "list" #[] 0)}:=fun e9 hf hp hu=>by
  refine WL (seqEpoch_at ñ rfl (WL (listUpdate_at ñ rfl ?_ (Xk _) (by rw[Array.size_map,hp.size_eq,hps,Yq];omega))));rw[hf];simp only[bne_self_eq_false,XI,if_false];exact WN (h _ hp hu)
 dsimp only at fin ⊢;by_cases h2:vs.length<2
 ·have Ò:vs.toArray.size<2:=by exact(Eq.symm (List.size_toArray))▸h2
  rw[if_pos Ò,if_pos Ò];refine WL (WN ?_);rw[StateT.run_pure];exact WL (WN (fin (SortSt.mk' general' (pairsOf vs) #[] 7 none) rfl (Array.Perm.refl _) fun i j A9 hj=>by omega))
 ·have Ò : ¬ vs.toArray.size<2:=by exact(Eq.symm (List.size_toArray))▸h2
  rw[if_neg Ò,if_neg Ò];refine WL (hK _ hk ⋯ _ ?_);refine WL (XU (Gq (st:=SortSt.mk' oneType' (pairsOf vs) #[] 7 none) (Q:=fun O e9=>failedOf e9=none/\(arrOf e9).Perm (pairsOf vs)/\Up key (arrOf e9) (pairsOf vs).size)
   (hL _ hk) hd ⟨Array.Perm.refl _,rfl,rfl,rfl⟩ ⋯ ⋯ fun e9 a1 a2 a3=>⟨a2,a1,a3⟩) ?_ fun O O q=>q)
  intro Y1;obtain⟨⟨⟩,e9⟩:=Y1;intro s' Y3;refine uK Y3 fun j_ hf hp hu=>?_;clear Y3;subst j_;exact fin e9 hf hp hu
end
theorem wv(vs:List Value):(pairsOf vs).toList=vs.map fun v=>(v,v):=by
 rw[pairsOf_toList];induction vs with
 |nil=>rfl
 |cons v vs ih=>rw[ZA,WY,ih]
theorem Vals.mem(h:Vals Z xs vs):∀v∈vs,∃x∈xs,Val Z x v :=
 h.ind (P:=fun xs vs=>∀v∈vs,∃x∈xs,Val Z x v) cw fun h O t v hv=>(WT.mp hv).elim (fun e=>bb _ (WM ..) (e▸h)) fun hv=>ad (t v hv) fun x hx q=>bb x (WO _ hx) q
theorem Vals.mapcons{f:α->AV}{x:Value}{ts:List α}(h:Vals Z (ts.map f) (x::vs)):∃t ts',ts=t::ts'/\Val Z (f t) x/\Vals Z (ts'.map f) vs:=by
 cases ts with
 |nil=>exact nomatch h.inv
 |cons t ts=>exact br h.inv fun y ys e h1 h2=>uv t ts rfl ((Zb e).1▸h1) ((Zb e).2▸h2)
theorem Vals.perm{f:α->AV}{us:List Value}(p:vs.Perm us):∀ {ts:List α},Vals Z (ts.map f) vs->∃rs:List α,rs.Perm ts/\Vals Z (rs.map f) us:=by
 induction p with
 |nil=>exact fun h=>bb _ (.refl _) h
 |cons x p ih=>exact fun h=>br h.mapcons fun t ts e h1 h2=>ad (ih h2) fun rs pr hr=>bb (t::rs) (e▸pr.cons _) (.cons h1 hr)
 |swap x y l=>exact fun h=>br h.mapcons fun t ts e h1 h2=>br h2.mapcons fun r rs e' h3 h4=>bb (r::t::rs) (e▸e'▸.swap ..) (.cons h3 (.cons h1 h4))
 |trans p q ih1 ih2=>exact fun h=>ad (ih1 h) fun rs pr hr=>ad (ih2 hr) fun qs pq hq=>bb qs (pq.trans pr) hq
theorem Qa{ts:List ab}(hn:(ts.map (·.1)).Nodup):∀ {t r:ab},t∈ts->r∈ts->t.1=r.1->t=r:=by
 induction ts with
 |nil=>intro t r ht;cases ht
 |cons x xs ih =>
  intro t r ht hr e;rw[WY,Xj] at hn;rcases WT.mp ht with rfl |ht' <;> rcases WT.mp hr with rfl |hr'
  ·rfl
  ·exact absurd (e▸Xm hr') hn.1
  ·exact absurd (e▸Xm ht') hn.1
  ·exact ih hn.2 ht' hr' e
noncomputable def dT(C:XC)(t:ab):AV:=.mat C [.int t.1,.int t.2.1,.int t.2.2]
noncomputable def eM(Z:f9)(p:Keyed):Nat:=match p.1 with
 |.ref x=>match Z x with
  |some o=>match o.data with
   |Data.seq items _=>match items[0]? with
    |some (Value.int i _)=>i.toNat
    |_=>0
   |_=>0
  |none=>0
 |_=>0
theorem WF{α0:Sort _}{α1:Sort _}{α2:Sort _}{p0:α0->α1->α2->Prop}(h:∃a0 a1 a2,p0 a0 a1 a2)(c:∀a0 a1 a2,p0 a0 a1 a2->P):P:=h.elim fun a0 h=>h.elim fun a1 h=>h.elim fun a2 h=>c a0 a1 a2 h
theorem Vals.int3{i j k:Int}(vs:List Value)(h:Vals Z [.int i,.int j,.int k] vs):∃t1 t2 t3,vs=[.int i t1,.int j t2,.int k t3] :=
 Vals.un (P:=fun vs=>∃t1 t2 t3,vs=[.int i t1,.int j t2,.int k t3]) (Val.eInt fun t1=>Vals.un (Val.eInt fun t2=>Vals.un (Val.eInt fun t3=>Vals.un0 ⟨t1,t2,t3,rfl⟩))) vs h
theorem te{t:ab}{v:Value}(h:Val Z (dT C t) v):∃a d n t1 t2 t3,v=.ref a/\Z a=some {cls:=.ref C,dict:=some d,data:=.seq #[.int t.1 t1,.int t.2.1 t2,.int t.2.2 t3] n} :=
 cA (tC h) fun a d items n qv e hv=>WF (Vals.int3 items hv) fun t1 t2 t3 q=>⟨a,d,n,t1,t2,t3,qv,q▸e⟩
theorem xZ{t:ab}{v u:Value}(h:Val Z (dT C t) v):eM Z (v,u)=t.1:=by
 refine uJ (te h) fun a d n t1 t2 t3 O7 e=>?_;subst O7;unfold eM;dsimp only;rw[e];rfl
theorem CS(rs:List ab):∀ul:List Value,Vals Z (rs.map (dT C)) ul->ul.map (fun v=>eM Z (v,v))=rs.map (·.1):=by
 induction rs with
 |nil=>exact fun ul h=>Vals.un0 (P:=fun ul=>ul.map (fun v=>eM Z (v,v))=[]) rfl ul h
 |cons r rs ih=>exact fun ul h=>Vals.un (P:=fun ul=>ul.map (fun v=>eM Z (v,v))=r.1::rs.map (·.1)) (fun x h1 ys h2=>congr (congrArg List.cons (xZ h1)) (ih ys h2)) ul h
theorem ww{ts:List ab}{vl:List Value}(vs:Vals Z (ts.map (dT C)) vl){p:Keyed}(hp:p∈(pairsOf vl).toList):∃v t,p=(v,v)/\t∈ts/\Val Z (dT C t) v:=by
 rw[wv vl] at hp;exact ad (Xu.mp hp) fun v hv e=>ad (vs.mem v hv) fun x hx q=>ad (Xu.mp hx) fun t ht e'=>uv v t e.symm ht (e'▸q)
theorem Mi{ts:List ab}{vl:List Value}(vs:Vals Z (ts.map (dT C)) vl)(hn:(ts.map (·.1)).Nodup):eA (eM Z) (pairsOf vl):=by
 rw[EL,wv,YF];exact CS ts vl vs▸hn
theorem Ib{ts us:List ab}{vl:List Value}{out:Array Keyed}(vs:Vals Z (ts.map (dT C)) vl)(hp:us.Perm ts)(hs:us.Pairwise fun s t=>s.1<t.1)(s9:out.Perm (pairsOf vl))(hup:Up (eM Z) out (pairsOf vl).size) :
  Vals Z (us.map (dT C)) (out.map (·.2)).toList:=by
 have hl:=Zt.mp s9;have e1:(pairsOf vl).toList.map (·.2)=vl:=by rw[wv,YF];exact List.map_id vl
 have e2:(out.map (·.2)).toList=out.toList.map (·.2):=Array.toList_map;have e3:(out.toList.map (·.2)).map (fun v=>eM Z (v,v))=out.toList.map (eM Z):=by
  rw[YF];exact Zf fun p H_=>br (ww vs (hl.mem_iff.mp H_)) fun v t e O O=>e▸rfl
 rw[e2];refine ad (Vals.perm (f:=dT C) (e1▸hl.map (fun p:Keyed=>p.2)).symm vs) fun rs pr hr=>?_;have hk:=(CS rs _ hr).symm.trans e3;have hr':rs.Pairwise fun s t=>s.1<t.1:=by
  refine(List.pairwise_map (f:=fun t:ab=>t.1) (R:=(· < ·))).mp (hk▸(List.pairwise_map (f:=eM Z) (R:=(· < ·))).mpr (List.pairwise_iff_getElem.mpr fun i j hi hj A9=>?_));have q:=hup i j A9 (s9.size_eq▸hj);unfold aK at q;rw[getElem?_pos out i hi,getElem?_pos out j hj] at q;exact q
 exact List.Perm.eq_of_pairwise (le:=fun s t:ab=>s.1<t.1) (fun a b O O h1 h2=>absurd h1 (Nat.lt_asymm h2)) hr' hs (pr.trans hp.symm)▸hr
section
variable{K:Frag}
theorem Vg{ts us:List ab}{led led':aa}(ok:W1 d7 w K C)(hA:g7 A (k+10))(hp:us.Perm ts)(hs:us.Pairwise fun s t=>s.1<t.1)(hsz:ts.length<64)
  (U:Upd a (.list (ts.map (dT C))) (.list (us.map (dT C))) led led') (h:R .none ⟨loc,led'⟩):FC d7 w A (am K) d8 (.blt "list.sort") [.ref a] [] ⟨loc,led⟩ R:=FC.b fun s Z S Q E hQ=>Vals.un <| Val.eRef <| Vals.un0 <| by
 refine bt (S.own _ U.mem) fun arr n g vs=>?_;dsimp only at g;have hn:(ts.map (·.1)).Nodup:=by
  have:(us.map (·.1)).Nodup:=by
   rw[List.nodup_iff_pairwise_ne,List.pairwise_map];exact hs.imp fun h=>Ys h
  exact(hp.map _).nodup_iff.mp this
 generalize â:arr.toList=vl at vs;have harr:arr=vl.toArray:=by rw[← â]
 subst harr;have hvl:vl.length=ts.length:=vs.length.trans (WP _);have haZ:Z a=none:=S.apart _ U.mem;have J0:∀h',mn a s.heap h'->∀b o,Z b=some o->h'.get? b=some o:=fun h' hk b o e=>hk b o (fun q=>by rw[q,haZ] at e;cases e) (S.frozen b o e);refine XO slot_list_sort ⟨_,g,rfl⟩ entry_list_sort (Oh (key:=eM Z) g (hvl▸hsz) ?_ ?_ ?_ ?_) (args_list_sort _)
 ·exact Mi vs hn
 ·intro h' hk x hx y hy Q' st hkd hq;refine br (ww vs hx) fun v t O3 ht hv=>?_;subst O3;refine br (ww vs hy) fun u r O3 hr hu=>?_;subst O3;rw[xZ hv,xZ hu] at hq;refine uJ (te hv) fun a1 d1 n1 q1 q2 q3 O7 e1=>?_;subst O7;refine uJ (te hu) fun a2 d2 n2 p1 p2 p3 O7 e2=>?_;subst O7;rw[lt'_eq];refine wpS_bind (wpS_get ?_);dsimp only;rw[hkd,keyLt'_oneType];refine wpS_bind (wpS_lift (Zp (NG ok (cP S.base (J0 h' hk)) ?_ (J0 h' hk _ _ e1) (J0 h' hk _ _ e2) (fun q=>?_) ⟨rfl,?_⟩)))
  ·have:=hA.u;show A.units+1<cLine;omega
  ·have:t=r:=Qa hn ht hr (Int.ofNat.inj q);subst this;exact⟨rfl,rfl⟩
  ·have e:decide ((t.1:Int)<(r.1:Int))=decide (t.1<r.1):=decide_eq_decide.mpr Int.ofNat_lt;exact(Eq.symm (e))▸wpS_pure hq
 ·intro h' hk h2 Q' hq;refine kas_kind (T:=.ref C) h2 (fun v hv=>?_) rfl (by simp) hq;exact ad (vs.mem v hv) fun x hx q=>ad (Xu.mp hx) fun t ht O3=>by
   subst O3;exact uJ (te q) fun a1 d1 n1 q1 q2 q3 O7 e1=>by subst O7;exact(Looks.ld (J0 h' hk _ _ e1)).andThen .now
 ·intro out s9 hup;have hr:=Ib vs hp hs s9 hup;have B0:∃n',(sortedHeap s.heap a vl (out.map (·.2))).get? a=some {cls:=.type "list",data:=.seq (out.map (·.2)) n' }:=by
   obtain⟨e,he⟩:∃e,(s.heap.update a (XS fun O=>(#[]:Array Value))).get? a=some (seqObj "list" #[] e):=⟨_,get?_update_seq g _⟩;exact⟨_,get?_update_seq (WX _ (WX _ he)) _⟩
  refine ak B0 ?_;clear B0;intro n' B0;have hkp:mn a s.heap (sortedHeap s.heap a vl (out.map (·.2))):=Ia;generalize sortedHeap s.heap a vl (out.map (·.2))=h' at B0 hkp ⊢;generalize out.map (·.2)=ov at B0 hr;have hh:Holds Z {s with heap:=h',toks:=s.toks} a (.list (us.map (dT C))):=⟨ov,n',B0,hr⟩;have P:=S.tof1.upd U (h':=h') (tk:=s.toks) hkp rfl rfl hh;exact bb _ rfl (hQ .none .none _ Z ⟨loc,led'⟩ h (S.after P.1 P.2) .none P.2.toF)
end
end
noncomputable abbrev bU(t:ab):AV:=dT 135 t
theorem NI(w:Xo):W1 af w (KB w.params) 135:=⟨@_,@_⟩
theorem Vf{ts us:List ab}{led led':aa}(hA:g7 A (k+10))(hp:us.Perm ts)(hs:us.Pairwise fun s t=>s.1<t.1)(hsz:ts.length<64)
  (U:Upd a (.list (ts.map bU)) (.list (us.map bU)) led led') (h:K .none ⟨loc,led'⟩):FC af w A (aj w) d8 (.blt "list.sort") [.ref a] [] ⟨loc,led⟩ K:=Vg (NI w) hA hp hs hsz U h
section
noncomputable abbrev gT(q:cJ):AV:=.tup [.int (q.1:Nat),.int (q.2.1:Nat),.int (q.2.2.1:Nat),.int (q.2.2.2:Nat)]
noncomputable abbrev fC(t:ab):AV:=.mat 135 [.int (t.1:Nat),.int (t.2.1:Nat),.int (t.2.2:Nat)]
noncomputable abbrev vA(t:ab):AV:=.tup [.int (t.1:Nat),.int (t.2.1:Nat),.int (t.2.2:Nat)]
structure N4 (fl:Nat->Nat->Nat->Nat->ab) (la lb:Nat) (xs ws:List AV) (n:Nat):Prop where
 run:∃(ms:List ab) (qs:List cJ),xs=ms.map fC/\ws=qs.map gT/\em qs<=n/\n<=2 * la+1/\(∀q∈qs,yR la lb q)/\(ms++qs.flatMap (aW fl)).Perm (aW fl (0,la,0,lb))
structure V9 (fl:Nat->Nat->Nat->Nat->ab) (la lb:Nat) (xs ws:List AV) (q:cJ) (n:Nat):Prop where
 w:yR la lb q
 run:∃(ms:List ab) (qs:List cJ),xs=ms.map fC/\ws=qs.map gT/\em qs+(2 * (q.2.1-q.1)+1)<=n/\n<=2 * la+1/\(∀q∈qs,yR la lb q)/\((ms++qs.flatMap (aW fl))++aW fl q).Perm (aW fl (0,la,0,lb))
variable{fl:Nat->Nat->Nat->Nat->ab}{la lb n:Nat}{xs ws:List AV}{q:cJ}
theorem N4.start:N4 fl la lb [] [.tup [.int 0,.int la,.int 0,.int lb]] (2 * la+1) :=
 ⟨[],[(0,la,0,lb)],rfl,rfl,Xy _,Xy _,fun q hq=>by rw[Xi.mp hq];exact⟨Xk _,Xy _,Xk _,Xy _⟩,by rw[List.flatMap_cons,List.flatMap_nil,Yi];exact List.Perm.refl _⟩
theorem N4.room(h:N4 fl la lb xs ws n):ws.length<=2 * la+1:=by
 refine Ga h.run fun ms qs O3 O4 h1 h2 O7=>?_;clear O3;subst O4;clear O7;rw[WP];exact XQ (AY qs) (XQ h1 h2)
theorem N4.pop(h:N4 fl la lb xs ws n)(c:(!ws.isEmpty)=true):∃B_ q,ws=B_++[gT q]/\V9 fl la lb xs B_ q n:=by
 refine mr h.run fun ms qs O3 O4 h1 h2 h3 h4=>?_;subst O3;subst O4;rcases c9 qs with rfl |⟨qs',q,rfl⟩
 ·cases c
 rw[d3] at *;rw[Jx] at h1;refine⟨qs'.map gT,q,by rw[Xr];rfl,h3 q (Xx _ (List.mem_singleton_self _)),ms,qs',rfl,rfl,h1,h2,fun q hq=>h3 q (Yc _ hq),?_⟩;rw[List.flatMap_append,← Xv,List.flatMap_cons,List.flatMap_nil,Yi] at h4;exact h4
theorem N4.done(h:N4 fl la lb xs ws n)(c:(!ws.isEmpty)=false):ws=[]/\∃ms:List ab,xs=ms.map fC/\(aW fl (0,la,0,lb)).Perm ms:=by
 refine mr h.run fun ms qs O3 O4 O5 O6 O7 h4=>?_;subst O3;subst O4;clear O5;clear O6;clear O7;cases qs with
 |nil=>rw[List.flatMap_nil,Yi] at h4;exact⟨rfl,ms,rfl,h4.symm⟩
 |cons q qs=>cases c
theorem V9.room(ok:cn fl)(h:V9 fl la lb xs ws q n):ws.length<=2 * la/\xs.length<=la:=by
 refine mr h.run fun ms qs O3 O4 h1 h2 O7 h4=>?_;subst O3;subst O4;clear O7;have e:=h4.length_eq;have f:(ci fl (la-0) 0 la 0 lb).length<=la-0:=Cz ok (la-0) 0 la 0 lb (Xk _) (Xk _);have g:=AY qs;rw[WV,WV] at e;rw[WP,WP];exact⟨Nat.le_of_succ_le_succ (XQ (Nat.succ_le_succ (XQ g (Nat.le_add_right _ _))) (XQ h1 h2)),XQ (XQ (Nat.le_add_right _ _) (Nat.le_add_right _ _)) (XQ (Nat.le_of_eq e) f)⟩
theorem CD{a b:Nat}(h:a+(b+1)<=n):n-1<n:=Nat.sub_one_lt (Nat.ne_of_gt (Nat.lt_of_lt_of_le (Nat.succ_pos _) h))
theorem Om{a b:Nat}(h:a+(b+1)<=n):a<=n-1:=Nat.le_sub_one_of_lt (Nat.lt_of_le_of_lt (Nat.le_add_right _ b) h)
theorem V9.zero(h:V9 fl la lb xs ws q n)(c:(((fl q.1 q.2.1 q.2.2.1 q.2.2.2).2.2:Nat):Int)=0):n-1<n/\N4 fl la lb xs ws (n-1):=by
 refine mr h.run fun ms qs O3 O4 h1 h2 h3 h4=>?_;subst O3;subst O4;rw[Cu (Int.ofNat_eq_zero.mp c),Yi] at h4;exact⟨CD h1,ms,qs,rfl,rfl,Om h1,XQ (Nat.sub_le ..) h2,h3,h4⟩
noncomputable def eW(q:cJ)(r:ab):List AV:=if q.1<r.1/\q.2.2.1<r.2.1 then [gT (q.1,r.1,q.2.2.1,r.2.1)] else []
noncomputable def jw(q:cJ)(r:ab):List AV:=if r.1+r.2.2<q.2.1/\r.2.1+r.2.2<q.2.2.2 then [gT (r.1+r.2.2,q.2.1,r.2.1+r.2.2,q.2.2.2)] else []
variable{r:ab}
theorem GH(c1:(q.1:Int)<r.1)(c2:(q.2.2.1:Int)<r.2.1):eW q r=[gT (q.1,r.1,q.2.2.1,r.2.1)]:=if_pos ⟨Int.ofNat_lt.mp c1,Int.ofNat_lt.mp c2⟩
theorem GJ(c1 : ¬ (q.1:Int)<r.1):eW q r=[]:=if_neg fun h=>c1 (Int.ofNat_lt.mpr h.1)
theorem GI(c1 : ¬ (q.2.2.1:Int)<r.2.1):eW q r=[]:=if_neg fun h=>c1 (Int.ofNat_lt.mpr h.2)
theorem GE(c1:((r.1:Nat):Int)+(r.2.2:Nat)<(q.2.1:Nat))(c2:((r.2.1:Nat):Int)+(r.2.2:Nat)<(q.2.2.2:Nat)):jw q r=[.tup [.int ((r.1:Nat)+(r.2.2:Nat)),.int (q.2.1:Nat),.int ((r.2.1:Nat)+(r.2.2:Nat)),.int (q.2.2.2:Nat)]] :=
 if_pos ⟨Int.ofNat_lt.mp c1,Int.ofNat_lt.mp c2⟩
theorem GG(c1 : ¬ ((r.1:Nat):Int)+(r.2.2:Nat)<(q.2.1:Nat)):jw q r=[]:=if_neg fun h=>c1 (Int.ofNat_lt.mpr h.1)
theorem GF(c1 : ¬ ((r.2.1:Nat):Int)+(r.2.2:Nat)<(q.2.2.2:Nat)):jw q r=[]:=if_neg fun h=>c1 (Int.ofNat_lt.mpr h.2)
theorem GK:(eW q r).length<=1:=by unfold eW;split <;> exact Yo rfl
theorem Df{c:Prop}[Decidable c](f:α->β)(x:α):(if c then [x] else []).map f=if c then [f x] else []:=by split <;> rfl
theorem AZ{c:Prop}[Decidable c](q:cJ):em (if c then [q] else [])<=2 * (q.2.1-q.1)+1:=by
 split
 ·exact Xy _
 ·exact Xk _
theorem Iw{S X Y a b c:Nat}(h:S+(2 * (b-a)+1)<=n)(hx:X<=2 * (c-a)+1)(hy:Y<=2 * (b-(c+k))+1)(h1:a<=c)(h2:c+k<=b)(hk:k≠0):S+X+Y<=n-1:=by
 obtain⟨d,rfl⟩:=Nat.le.dest h1;obtain⟨e,rfl⟩:=Nat.le.dest h2;rw[Nat.add_sub_cancel_left] at hx hy;rw[Nat.add_assoc,Nat.add_assoc,Nat.add_sub_cancel_left] at h;refine Nat.le_sub_one_of_lt (Nat.lt_of_le_of_lt ?_ h);rw[Nat.add_assoc];refine Nat.add_le_add_left (XQ (Nat.add_le_add hx hy) ?_) S;rw[Nat.add_add_add_comm,← Nat.mul_add];exact Nat.mul_le_mul_left 2 (Nat.add_le_add_left (Nat.add_comm k e▸Nat.add_le_add_left (Nat.pos_of_ne_zero hk) e) d)
theorem V9.go(ok:cn fl)(h:V9 fl la lb xs ws q n)(c:(((fl q.1 q.2.1 q.2.2.1 q.2.2.2).2.2:Nat):Int)≠0) :
  n-1<n/\N4 fl la lb (xs++[fC (fl q.1 q.2.1 q.2.2.1 q.2.2.2)]) (ws++eW q (fl q.1 q.2.1 q.2.2.1 q.2.2.2)++jw q (fl q.1 q.2.1 q.2.2.1 q.2.2.2)) (n-1):=by
 have hk:(fl q.1 q.2.1 q.2.2.1 q.2.2.2).2.2≠0:=fun e=>c (by rw[e];rfl);refine uK h.w fun w1 w2 w3 w4=>?_;refine uK (ok q.1 q.2.1 q.2.2.1 q.2.2.2 w1 w3) fun b1 b2 b3 b4=>?_;have hs:=Cv (fl:=fl) ok w1 w3 hk;refine mr h.run fun ms qs O3 O4 h1 h2 h3 h4=>?_;subst O3;subst O4;rw[hs] at h4;clear hs;generalize fl q.1 q.2.1 q.2.2.1 q.2.2.2=r at *;refine⟨CD h1,ms++[r],(qs++if q.1<r.1/\q.2.2.1<r.2.1 then [(q.1,r.1,q.2.2.1,r.2.1)] else [])++(if r.1+r.2.2<q.2.1/\r.2.1+r.2.2<q.2.2.2 then [(r.1+r.2.2,q.2.1,r.2.1+r.2.2,q.2.2.2)] else []),?_,?_,?_,XQ (Nat.sub_le ..) h2,?_,?_⟩
 ·rw[Xr];rfl
 ·rw[Xr,Xr,Df,Df];rfl
 ·rw[Ba,Ba];have e1:=AZ (c:=q.1<r.1/\q.2.2.1<r.2.1) (q.1,r.1,q.2.2.1,r.2.1);have e2:=AZ (c:=r.1+r.2.2<q.2.1/\r.2.1+r.2.2<q.2.2.2) (r.1+r.2.2,q.2.1,r.2.1+r.2.2,q.2.2.2);exact Iw h1 e1 e2 b1 b2 hk
 ·intro x hx;rcases XR.mp hx with hx |hx
  ·rcases XR.mp hx with hx |hx
   ·exact h3 x hx
   ·split at hx
    ·rw[Xi.mp hx];exact⟨b1,XQ (XQ (Nat.le_add_right _ _) b2) w2,b3,XQ (XQ (Nat.le_add_right _ _) b4) w4⟩
    ·cases hx
  ·split at hx
   ·rw[Xi.mp hx];exact⟨b2,w2,b4,w4⟩
   ·cases hx
 ·rw[List.flatMap_append,List.flatMap_append,DL,DL];exact Mg h4
theorem V9.goR(ok:cn fl)(h:V9 fl la lb xs ws q n)(e:fl q.1 q.2.1 q.2.2.1 q.2.2.2=r)(c:((r.2.2:Nat):Int)≠0):n-1<n/\N4 fl la lb (xs++[fC r]) (ws++eW q r++jw q r) (n-1):=by
 subst e;exact h.go ok c
theorem V9.zeroR(h:V9 fl la lb xs ws q n)(e:fl q.1 q.2.1 q.2.2.1 q.2.2.2=r)(c:((r.2.2:Nat):Int)=0):n-1<n/\N4 fl la lb xs ws (n-1):=by
 subst e;exact h.zero c
structure F5 (us ts:List ab) (s:ab×List ab) (i j k:Int) (xs:List AV):Prop where
 e1:i=s.1.1
 e2:j=s.1.2.1
 e3:k=s.1.2.2
 e4:xs=s.2.map vA
 fold:ts.foldl cI s=us.foldl cI ((0,0,0),[])
 len:s.2.length+ts.length<=us.length
variable{us ts:List ab}{s:ab×List ab}{i j k:Int}{t:ab}
theorem F5.start:F5 us us ((0,0,0),[]) 0 0 0 []:=⟨rfl,rfl,rfl,rfl,rfl,Nat.le_of_eq (Nat.zero_add _)⟩
theorem F5.room(h:F5 us ts s i j k xs):xs.length<=us.length:=by
 rw[h.e4,WP];exact XQ (Nat.le_add_right _ _) h.len
theorem F5.step(h:F5 us (t::ts) s i j k xs):(cI s t).2.length+ts.length<=us.length :=
 XQ (Nat.add_le_add_right (yO s t) _) (XQ (Nat.le_of_eq (Nat.succ_add_eq_add_succ ..)) h.len)
theorem F5.join(h:F5 us (t::ts) s i j k xs)(c1:i+k=(t.1:Nat))(c2:j+k=(t.2.1:Nat)):F5 us ts (cI s t) i j (k+(t.2.2:Nat)) xs:=by
 have e:cI s t=((s.1.1,s.1.2.1,s.1.2.2+t.2.2),s.2):=if_pos ⟨Int.ofNat_inj.mp (by rw[Int.natCast_add,← h.e1,← h.e3];exact c1),Int.ofNat_inj.mp (by rw[Int.natCast_add,← h.e2,← h.e3];exact c2)⟩;refine⟨?_,?_,?_,?_,h.fold,h.step⟩
 ·rw[e];exact h.e1
 ·rw[e];exact h.e2
 ·rw[e,h.e3];rfl
 ·rw[e];exact h.e4
structure R3 (s:ab×List ab) (ys:List AV):Prop where
 e:ys=(fq s).map vA
theorem F5.put(h:F5 us ts s i j k xs)(c:k≠0):R3 s (xs++[.tup [.int i,.int j,.int k]]):=by
 have e:fq s=s.2++[s.1]:=if_neg fun q=>c (by rw[h.e3,q];rfl);exact⟨by rw[e,Xr,h.e1,h.e2,h.e3,h.e4];rfl⟩
theorem F5.skip(h:F5 us ts s i j k xs)(c:k=0):R3 s xs:=by
 have e:fq s=s.2:=if_pos (Int.ofNat_eq_zero.mp (h.e3▸c));exact⟨by rw[e,h.e4]⟩
theorem F5.roomM(h:F5 us ts s i j k xs)(m:R3 s ys):ys.length<=us.length+1:=by
 have:=h.len;rw[m.e,WP];unfold fq;split
 ·omega
 ·rw[WV,Zj];omega
theorem ED{fl:Nat->Nat->Nat->Nat->ab}(la lb:Nat):(aP fl la lb).length<=(aW fl (0,la,0,lb)).length+2:=by
 have h2:∀(ts:List ab) (s:ab×List ab),(ts.foldl cI s).2.length<=s.2.length+ts.length:=by
  intro ts;induction ts with
  |nil=>intro s;exact Xy _
  |cons t ts ih =>
   intro s;have h1:=ih (cI s t);have h3:=yO s t;rw[Yh,WU];omega
 have h2:=h2 (aW fl (0,la,0,lb)) ((0,0,0),[]);unfold aP fq;rw[WV];simp only[Xp,WU] at h2 ⊢;split
 ·omega
 ·rw[WV,Zj];omega
theorem F5.new(h:F5 us (t::ts) s i j k xs)(c : ¬ (i+k=(t.1:Nat)/\j+k=(t.2.1:Nat)))(m:R3 s ys):F5 us ts (cI s t) (t.1:Nat) (t.2.1:Nat) (t.2.2:Nat) ys:=by
 have e:cI s t=(t,fq s):=if_neg fun q=>c ⟨by rw[h.e1,h.e3,← q.1];rfl,by rw[h.e2,h.e3,← q.2];rfl⟩;refine⟨?_,?_,?_,?_,h.fold,h.step⟩
 ·rw[e]
 ·rw[e]
 ·rw[e]
 ·rw[e];exact m.e
theorem F5.last(h:F5 (aW fl (0,la,0,lb)) [] s i j k xs)(m:R3 s ys):ys++[.tup [.int la,.int lb,.int 0]]=(aP fl la lb).map vA:=by
 have f:s=_:=h.fold;rw[m.e,f];unfold aP;rw[Xr];rfl
end
noncomputable def Ab(t:ab):AV:=.tup [.int t.1,.int t.2.1,.int t.2.2]
noncomputable abbrev bA(w:Xo)(d dj jk pp:XC)(a b:List Str)(mm:List (Str×AV))(vm vo:AV)(led:aa):aa:=(d,aX (ja a b dj jk pp vm vo))::(dj,au (XA af w) mm)::(jk,bV)::led
noncomputable abbrev aN(a b:List Str):Nat->Nat->Nat->Nat->ab:=bQ (aB a b) (aQ a b)
noncomputable abbrev tv(d:XC)(v1 v2 v3 v4 v5 v6 v7 v8 v9 M0 L9 lb la qu mb i1 j1 k1 na:AV):List (Str×AV) :=
 [(q6,.inst 242 d),(vT,v1),(vS,v2),(vR,v3),(vQ,v4),(mJ,v5),(qx,v6),(q1,v7),(wt,v8),(mM,v9),(mL,M0),(BN,L9),(BR,lb),(BS,la),(BQ,qu),(vV,mb),(mO,i1),(mN,j1),(BP,k1),(BO,na)]
section
variable(d qa ma:XC)(la lb:Nat)(rest:aa)(fl:Nat->Nat->Nat->Nat->ab)
noncomputable abbrev oU(v1 v2 v3 v4 v5 v6 v7 v8:AV):List (Str×AV):=tv d v1 v2 v3 v4 v5 v6 v7 v8 .any .any .any (.int lb) (.int la) (.ref qa) (.ref ma) .any .any .any .any
def JQ(n:Nat)(P:St->Prop):Prop:=∀xs ws,N4 fl la lb xs ws n->P ⟨oU d qa ma la lb .any .any .any .any .any .any .any .any,(ma,.list xs)::(qa,.list ws)::rest⟩
def KQ(P:St->Prop):Prop:=∀ms,(aW fl (0,la,0,lb)).Perm ms->P ⟨oU d qa ma la lb .any .any .any .any .any .any .any .any,(ma,.list (ms.map bU))::(qa,.list [])::rest⟩
variable{d qa ma la lb rest fl}
theorem KQ.of{ws:List AV}(h:N4 fl la lb xs ws n)(c:(!ws.isEmpty)=false):Nx (KQ d qa ma la lb rest fl) .next ⟨oU d qa ma la lb .any .any .any .any .any .any .any .any,(ma,.list xs)::(qa,.list ws)::rest⟩:=by
 obtain⟨rfl,ms,rfl,p⟩:=h.done c;exact .mk (fun O y=>y _ p) @_
end
section
variable(d qa na:XC)(la lb:Nat)(us:List ab)(rest:aa)
noncomputable abbrev xT(v9 M0 L9:AV)(i j k:Int):List (Str×AV):=tv d .any .any .any .any .any .any .any .any v9 M0 L9 (.int lb) (.int la) (.ref qa) (.lst (us.map bU)) (.int i) (.int j) (.int k) (.ref na)
def JA(ts:List ab)(P:St->Prop):Prop:=∀s i j k xs,F5 us ts s i j k xs->P ⟨xT d qa na la lb us .any .any .any i j k,(na,.list xs)::rest⟩
def Fq(v9 M0 L9:AV)(i j k:Int)(s:ab×List ab)(P:St->Prop):Prop:=∀ys,R3 s ys->P ⟨xT d qa na la lb us v9 M0 L9 i j k,(na,.list ys)::rest⟩
end
def KW(loc:List (Str×AV))(led:i9->aa)(E:List AV)(P:St->Prop):Prop:=P ⟨loc,led (.list E)⟩
theorem KW.mk{led:i9->aa}{m0:aa}{E ws:List AV}(e:ws=E)(h:fg g9 loc=loc)(h2:m0=led (.list ws)):Nx (KW loc led E) .next ⟨g9,m0⟩:=h2▸.ld (e9:=⟨loc,led (.list ws)⟩) (fun O y=>e▸y) h
theorem SM{dj jk pp:XC}{vo:AV}{a b:List Str}{mm:List (Str×AV)}{led:aa}(hA:g7 A 80)(ha:a.length<10^5)(hb:b.length<10^5)(D5:(aW (aN a b) (0,a.length,0,b.length)).length<64)
  (y7:(dj==Ze)=false) (T7:∀k,(aI mm k).getD (.lst [])=.lst (cH (bd b k))) :
  TC af w A (aj w) (.ref 203) [.inst 242 d] [] (bA w d dj jk pp a b mm .none vo led) fun v led' =>
   v=.lst ((aP (aN a b) a.length b.length).map bU)/\led'=bA w d dj jk pp a b mm (.lst ((aP (aN a b) a.length b.length).map bU)) vo led:=by
 refine TC.weak (dD (tv d .any .any .any .any .any .any .any .any .any .any .any .any .any .any .any .any .any .any .any) (bG w) hA.lt (fun O=>@_) @_ @_ (Qv _) fun L hL=>?_);have f8:=hA.deeper (k:=77) (d8:=ba (az (gy w.params)) L 203 202);have hh:=f8.h;have hG:=(((((((gk w (A.deeper _) (az (gy w.params)) L 203 202 @_ @_ hh).g (lU w) @_ @_).g (tF w) @_ @_).g (Ds w) @_ @_).g (Dz w) @_ @_).m ⟨JN,1, "list.append"⟩ F.plainAttrs_list mE F.type_list_append).m ⟨JW,1, "list.pop"⟩ F.plainAttrs_list Ip F.type_list_pop).m ⟨LN,1, "list.sort"⟩ F.plainAttrs_list Im F.type_list_sort;have î:=fU (aB a b) (aQ a b);refine aC (aD hG 20 ?_);refine aC (aD hG 20 (f7.mk (dG (aS _) @_ (WM ..) (v:=.none) @_ rfl ?_)));refine aC (aD hG 20 (f7.mk (dG (aS _) @_ (WM ..) (v:=.lst (a.map .str)) @_ rfl (f7.mk (gP .frz (by rw[WP];omega) (f7.mk (dG (aS _) @_ (WM ..) (v:=.lst (b.map .str)) @_ rfl (f7.mk (gP .frz (by rw[WP];omega) ?_)))))))));rw[WP,WP];refine aC (gI (gL (bD hG 20 ⟨(by decide:1<=XK),fun qa hqa=>aR rfl ?_⟩)) @_);refine aC (aD hG 20 (f7.mk (ec rfl fun ma hma=>?_)));refine aC (T.join (KQ d qa ma a.length b.length (bA w d dj jk pp a b mm .none vo led) (aN a b)) (me (JQ d qa ma a.length b.length (bA w d dj jk pp a b mm .none vo led) (aN a b)) (fun n xs ws h=>?_) (.mk (fun O y=>y _ _ N4.start) @_)) fun ms h=>?_)
 ·refine bZ hG 20 (f7.mk (pL (.own (WO _ (WM ..))) (Nat.lt_of_le_of_lt h.room ⋯) (CX (fun c=>?_) fun c=>KQ.of h c)));refine(h.pop c).elim fun B_ hp=>hp.elim fun q p=>?_;have hr:=p.2.room î;have hw:=p.2.w;refine aC (cX rfl rfl rfl (ae hG 20 ⟨bS (WO _ (WM ..)),f7.mk (Vq p.1 (.there .here) (by rw[Yq];omega) (dv (by assumption) @_ @_ @_ (cz _ rfl _ _ rfl rfl ?_)))⟩));refine aC (fu rfl rfl rfl (gK (name:=jA) (C:=242) (f:=196) @_ @_ @_ (aS _) @_ @_ (ae hG 20 (.mk (WO _ (WO _ (WM ..))) @_ (cp @_ (bK @_) (bD hG 20 ?_))))));refine Vn (o8:=bA w d dj jk pp a b mm .none vo ((ma,.list xs)::(qa,.list B_)::led)) (List.perm_append_comm_assoc [_,_] [_,_,_] _) (QL (f8.mono ⋯) ⋯ ⋯ hw.1 hw.2.1 hw.2.2.1 hw.2.2.2 y7 T7) fun v hv=>?_;rw[hv];clear hv v;generalize å:bQ (aB a b) (aQ a b) q.1 q.2.1 q.2.2.1 q.2.2.2=r;refine zx (by assumption) (xN _) @_ @_ @_ (cz _ rfl _ _ rfl rfl (bp (aR rfl ?_)));refine aC (mf (bZ hG 20 (CX (fun c=>?_) fun c=>cK (cK ⟨_,(p.2.zeroR å (bne_eq_false_iff_eq.mp c)).1,.mk (fun O y=>y _ _ (p.2.zeroR å (bne_eq_false_iff_eq.mp c)).2) @_⟩))));have hk:=bne_iff_ne.mp c;refine aC (aD hG 20 ⟨bS (WM ..),f7.mk (fz .here (by rw[Yq];omega) ?_)⟩);refine aC (T.join (KW (oU d qa ma a.length b.length (.int q.1) (.int q.2.1) (.int q.2.2.1) (.int q.2.2.2) (.int r.1) (.int r.2.1) (.int r.2.2) (fC r)) (fun o=>(ma,.list (xs++[fC r]))::(qa,o)::bA w d dj jk pp a b mm .none vo led) (B_++eW q r)) (aD hG 20 (bh (fun c1=>bh (fun c2=>⟨bS (WO _ (WM ..)),f7.mk (fz (.there .here) (by rw[Yq];omega) (KW.mk (by rw[GH c1 c2]) @_ rfl))⟩) fun c2=>jW (KW.mk (by rw[GI c2,Yi]) @_ rfl)) fun c1=>jW (KW.mk (by rw[GJ c1,Yi]) @_ rfl))) ?_);have b_:(B_++eW q r).length<=2 * a.length+1:=by have:=GK (q:=q) (r:=r);rw[WV];omega
  refine aC (T.join (KW (oU d qa ma a.length b.length (.int q.1) (.int q.2.1) (.int q.2.2.1) (.int q.2.2.2) (.int r.1) (.int r.2.1) (.int r.2.2) (fC r)) (fun o=>(ma,.list (xs++[fC r]))::(qa,o)::bA w d dj jk pp a b mm .none vo led) (B_++eW q r++jw q r)) (aD hG 20 (bh (fun c1=>bh (fun c2=>⟨bS (WO _ (WM ..)),f7.mk (fz (.there .here) (by rw[Yq];omega) (KW.mk (by rw[GE c1 c2]) @_ rfl))⟩) fun c2=>jW (KW.mk (by rw[GF c2,Yi]) @_ rfl)) fun c1=>jW (KW.mk (by rw[GG c1,Yi]) @_ rfl))) ?_);exact cK (cK ⟨_,(p.2.goR î å hk).1,.mk (fun O y=>y _ _ (p.2.goR î å hk).2) @_⟩)
 ·have hus:=Nz î (q:=(0,a.length,0,b.length)) (Xk _) (Xk _);refine aC (aD hG 20 ⟨bS (WM ..),f7.mk (Vf (k:=20) (ts:=ms) (us:=aW (aN a b) (0,a.length,0,b.length)) (f8.mono ⋯) h hus (h.length_eq▸D5) .here ?_)⟩);refine aC (TY rfl rfl rfl (ae hG 20 (bp (aR rfl (bp (aR rfl (bp (aR rfl ?_))))))));refine aC (aD hG 20 (f7.mk (ec rfl fun na hna=>?_)));refine T.perm (YW _ _ _) (T.freeze (g9:=xT d qa na a.length b.length (aW (aN a b) (0,a.length,0,b.length)) .any .any .any 0 0 0) (by repeat constructor) ?_);refine aC (yU (k:=5) bU (JA d qa na a.length b.length (aW (aN a b) (0,a.length,0,b.length)) ((qa,.list [])::bA w d dj jk pp a b mm .none vo led)) (f8.mono ⋯) (ae hG 20 (gh (k:=5) fun it gl hI => .mk hI (.mk (fun O y=>y _ _ _ _ _ F5.start) @_))) ?_ ?_ fun O=>@_)
  ·intro gl t ts s i j k xs h;have hr:=h.room;refine zx (by assumption) (xN _) @_ @_ @_ (cz _ rfl _ _ rfl rfl ?_);refine aC (mf (T.bool (p:=i+k=(t.1:Nat)/\j+k=(t.2.1:Nat)) (bZ hG 20 (jX (fun c1=>jX (fun c2=>⟨rfl,iff_of_true rfl ⟨c1,c2⟩⟩) fun c2=>⟨rfl,iff_of_false XL fun q=>c2 q.2⟩) fun c1=>⟨rfl,iff_of_false XL fun q=>c1 q.1⟩)) (fun c=>?_) fun c=>?_))
   ·exact aC (aD hG 20 (cK (cK (.next (l:=(na,.list xs)::(qa,.list [])::bA w d dj jk pp a b mm .none vo led) (.mk (fun O y=>y _ _ _ _ _ (h.join c.1 c.2)) @_)))))
   ·refine aC (T.join (Fq d qa na a.length b.length (aW (aN a b) (0,a.length,0,b.length)) (((qa,.list [])::bA w d dj jk pp a b mm .none vo led)++gl) (.int (t.1:Nat)) (.int (t.2.1:Nat)) (.int (t.2.2:Nat)) i j k s) (aD hG 20 (qL (fun c=>⟨bS (WM ..),f7.mk (fz .here (by rw[Yq];omega) (.mk (fun O y=>y _ (h.put c)) @_))⟩) fun c => .mk (fun O y=>y _ (h.skip c)) @_)) fun ys m=>?_);refine aC (aD hG 20 ?_);exact cK (cK (.next (l:=(na,.list ys)::(qa,.list [])::bA w d dj jk pp a b mm .none vo led) (.mk (fun O y=>y _ _ _ _ _ (h.new c m)) @_)))
  ·intro s i j k xs h;have hr:=h.room;refine aC (T.join (Fq d qa na a.length b.length (aW (aN a b) (0,a.length,0,b.length)) ((qa,.list [])::bA w d dj jk pp a b mm .none vo led) .any .any .any i j k s) (aD hG 20 (qL (fun c=>⟨bS (WM ..),f7.mk (fz .here (by rw[Yq];omega) (.mk (fun O y=>y _ (h.put c)) @_))⟩) fun c => .mk (fun O y=>y _ (h.skip c)) @_)) fun ys m=>?_);have Q4:=h.roomM m;refine aC (aD hG 20 ⟨bS (WM ..),f7.mk (FI (h.last m) .here (by rw[Yq];omega) ?_)⟩);have L6:=ED (fl:=aN a b) a.length b.length;generalize aP (aN a b) a.length b.length=bs at *;refine T.freeze (g9:=tv d .any .any .any .any .any .any .any .any .any .any .any (.int b.length) (.int a.length) (.ref qa) (.lst ((aW (aN a b) (0,a.length,0,b.length)).map bU)) (.int i) (.int j) (.int k) (.lst (bs.map Ab))) (by repeat constructor) ?_;refine aC (cX rfl rfl rfl (ae hG 20 (f7.mk (Wv (f:=89) @_ (QV _) (Ps _) fun q=>f7.mk (zm fun m it=>f7.mk ?_)))));refine uA (k:=31) (T' := "map") (items:=bs.map bU) (gl:=eK m it (.ref q) (bs.map Ab) 0 [(q,.raw (methodObj (.ref 89) (.ref 135)))]) (led:=(qa,.list [])::bA w d dj jk pp a b mm .none vo led) (N:=[]) (f8.mono ⋯) .nil
    (g5.map (N:=[]) (k:=30) (ys:=bs.map bU) (by rw[WP,WP]) (fun i x y hx hy A' D8 led' O=>?_) bs.length 0 (by rw[WP,Nat.zero_add])) (by rw[WP,Yq];omega) (fun s Z S=>?_) (by decide) (by decide) (fun A s Z S Q E h=>xO S h) xP xQ ?_
   ·rw[XM] at hx hy;refine ad (Yt.mp hx) fun t ht O3=>?_;subst O3;refine ad (Yt.mp hy) fun t' ht' O3=>?_;subst O3;rw[ht] at ht';cases ht'
    exact Uo (by repeat constructor) (NN (D8.mono ⋯))
   ·exact xR S
   ·refine dd (ae hG 20 (ee (m':=ja a b dj jk pp (.lst (bs.map bU)) vo) (aS _) @_ (.there .here) rfl (Yo rfl) ?_));refine bv hG 20 (f7.mk (dG (aS _) @_ (WO _ (WM ..)) (v:=.lst (bs.map bU)) @_ rfl ?_));exact ed _ ⟨[(qa,.list [])],.refl _⟩ rfl rfl
set_option genSizeOf false in
structure Op where
 tag:Str
 i1:Nat
 i2:Nat
 j1:Nat
 j2:Nat
noncomputable abbrev aZ:Str:=LJ
noncomputable abbrev cq:Str:=LM
noncomputable abbrev cN:Str:=LL
noncomputable abbrev cM:Str:=LK
noncomputable def aM(o:Op):AV:=.tup [.str o.tag,.int o.i1,.int o.i2,.int o.j1,.int o.j2]
noncomputable def dA(i ai j bj:Nat):List Op :=
 if i<ai/\j<bj then [⟨cq,i,ai,j,bj⟩] else if i<ai then [⟨cN,i,ai,j,bj⟩] else if j<bj then [⟨cM,i,ai,j,bj⟩] else []
noncomputable def eN(t:ab):List Op:=if t.2.2=0 then [] else [⟨aZ,t.1,t.1+t.2.2,t.2.1,t.2.1+t.2.2⟩]
noncomputable def cu(s:(Nat×Nat)×List Op)(t:ab):(Nat×Nat)×List Op:=((t.1+t.2.2,t.2.1+t.2.2),s.2++dA s.1.1 t.1 s.1.2 t.2.1++eN t)
noncomputable def bN(bs:List ab):List Op:=(bs.foldl cu ((0,0),[])).2
theorem Ex(i ai j bj:Nat):(dA i ai j bj).length<=1:=by
 unfold dA;split
 ·simp
 ·split
  ·simp
  ·split <;> simp
theorem OK(t:ab):(eN t).length<=1:=by unfold eN;split <;> simp
theorem Ce(s:(Nat×Nat)×List Op)(t:ab):(cu s t).2.length<=s.2.length+2:=by
 have h1:=Ex s.1.1 t.1 s.1.2 t.2.1;have h2:=OK t;unfold cu;simp only[WV];omega
theorem EN:∀(ts:List ab) (s:ab×List ab),(ts.foldl cI s).2.length<=s.2.length+ts.length
 | [],s=>Xy _
 |t::ts,s=>by
  have h1:=EN ts (cI s t);have h2:=yO s t;rw[Yh,WU];omega
theorem yI{fl:Nat->Nat->Nat->Nat->ab}(ok:cn fl)(la lb:Nat):(aP fl la lb).length<=la+2:=by
 have h1:(aW fl (0,la,0,lb)).length<=la:=Cz ok (la-0) 0 la 0 lb (Xk _) (Xk _);have h2:=EN (aW fl (0,la,0,lb)) ((0,0,0),[]);unfold aP fq;rw[WV];simp only[Xp,WU] at h2 ⊢;split
 ·omega
 ·rw[WV];simp only[WU,Xp];omega
theorem pK{K:Bool->St->Prop}(hl:x.length<2^62)(h:K ((x.length:Int) != 0) st):F1 d7 w A B d8 aH truthy (.str x) st K:=F1.of fun s Z S Q E hQ=>Val.eStr fun O=>PySem.P.truthy_str ⋯ (hQ _ _ _ Z st h (S.toks _) rfl (.toks _))
theorem FF{f:AV}{led o8:aa}{K0:AV->aa->Prop}(p:led.Perm o8)(h:TC d7 w A B f args kw o8 K0)(hk:∀v l,K0 v l->∃l',E8 l l'/\K v ⟨loc,l'⟩):FC d7 w A B d8 f args kw ⟨loc,led⟩ K :=
 FC.weak (K0:=fun v e9=>K0 v e9.led/\e9.loc=loc) (zl ((TC.perm p h).mono fun v l h'=>⟨h',rfl⟩)) fun v g9 l h'=>by
  refine av h' fun h1 h2=>?_;clear h';dsimp only at h1 h2;subst h2;exact hk v l h1
section
structure r7 (bs ts:List ab) (s:(Nat×Nat)×List Op) (i j:Int) (xs:List AV):Prop where
 e1:i=s.1.1
 e2:j=s.1.2
 e3:xs=s.2.map aM
 fold:ts.foldl cu s=bs.foldl cu ((0,0),[])
 len:s.2.length+2 * ts.length<=2 * bs.length
inductive y6 (s:Nat×Nat) (t:ab):Str->Prop where
 |no (h:dA s.1 t.1 s.2 t.2.1=[]):y6 s t ⟨⟨[]⟩⟩
 |yes {tag:Str} (h0:0<tag.length) (h1:tag.length<2^62) (h:dA s.1 t.1 s.2 t.2.1=[⟨tag,s.1,t.1,s.2,t.2.1⟩]):y6 s t tag
variable{bs ts:List ab}{s:(Nat×Nat)×List Op}{i j:Int}{t:ab}{tag:Str}{l:List Op}
theorem r7.rep(h:r7 bs (t::ts) s i j xs)(c1:i<(t.1:Int))(c2:j<(t.2.1:Int)):y6 s.1 t cq :=
 .yes (by decide) (by decide) (if_pos ⟨Int.ofNat_lt.mp (h.e1▸c1),Int.ofNat_lt.mp (h.e2▸c2)⟩)
theorem r7.del(h:r7 bs (t::ts) s i j xs)(c1:i<(t.1:Int))(c2 : ¬ j<(t.2.1:Int)):y6 s.1 t cN :=
 .yes (by decide) (by decide) ((if_neg fun q=>c2 (h.e2▸Int.ofNat_lt.mpr q.2)).trans (if_pos (Int.ofNat_lt.mp (h.e1▸c1))))
theorem r7.ins(h:r7 bs (t::ts) s i j xs)(c1 : ¬ i<(t.1:Int))(c2:j<(t.2.1:Int)):y6 s.1 t cM :=
 have n : ¬ s.1.1<t.1:=fun q=>c1 (h.e1▸Int.ofNat_lt.mpr q)
 .yes (by decide) (by decide) ((if_neg fun q=>n q.1).trans ((if_neg n).trans (if_pos (Int.ofNat_lt.mp (h.e2▸c2)))))
theorem r7.none(h:r7 bs (t::ts) s i j xs)(c1 : ¬ i<(t.1:Int))(c2 : ¬ j<(t.2.1:Int)):y6 s.1 t ⟨⟨[]⟩⟩ :=
 have n : ¬ s.1.1<t.1:=fun q=>c1 (h.e1▸Int.ofNat_lt.mpr q)
 .no ((if_neg fun q=>n q.1).trans ((if_neg n).trans (if_neg fun q=>c2 (h.e2▸Int.ofNat_lt.mpr q))))
theorem y6.small(h:y6 s.1 t tag):tag.length<2^62:=by
 induction h with
 |no _=>decide
 |yes _ h1 _=>exact h1
structure N5 (s:(Nat×Nat)×List Op) (t:ab) (ys:List AV):Prop where
 e:ys=(s.2++dA s.1.1 t.1 s.1.2 t.2.1).map aM
theorem r7.put(h:r7 bs (t::ts) s i j xs)(g:y6 s.1 t tag)(c:((tag.length:Int) != 0)=true):N5 s t (xs++[.tup [.str tag,.int i,.int (t.1:Nat),.int j,.int (t.2.1:Nat)]]):=by
 cases g with
 |no _=>cases c
 |yes _ _ q=>exact⟨by rw[q,Xr,h.e1,h.e2,h.e3];rfl⟩
theorem r7.skip(h:r7 bs (t::ts) s i j xs)(g:y6 s.1 t tag)(c:((tag.length:Int) != 0)=false):N5 s t xs:=by
 cases g with
 |no q=>exact⟨by rw[q,Yi,h.e3]⟩
 |yes h0 _ _=>exact absurd (Int.ofNat_eq_zero.mp (bne_eq_false_iff_eq.mp c)) (Nat.ne_of_gt h0)
theorem r7.room(h:r7 bs (t::ts) s i j xs):xs.length+2<=2 * bs.length:=by
 have:=h.len;rw[h.e3,WP];rw[WU] at this;omega
theorem N5.room(h:r7 bs (t::ts) s i j xs)(m:N5 s t ys):ys.length+1<=2 * bs.length:=by
 have:=h.len
 have:=Ex s.1.1 t.1 s.1.2 t.2.1;rw[m.e,WP,WV];rw[WU] at *;omega
theorem r7.step(h:r7 bs (t::ts) s i j xs):(cu s t).2.length+2 * ts.length<=2 * bs.length:=by
 have:=h.len
 have:=Ce s t;rw[WU] at *;omega
theorem r7.keep(h:r7 bs (t::ts) s i j xs)(m:N5 s t ys)(c:(((t.2.2:Nat):Int) != 0)=true) :
  r7 bs ts (cu s t) ((t.1:Nat)+(t.2.2:Nat)) ((t.2.1:Nat)+(t.2.2:Nat)) (ys++[.tup [.str aZ,.int (t.1:Nat),.int ((t.1:Nat)+(t.2.2:Nat)),.int (t.2.1:Nat),.int ((t.2.1:Nat)+(t.2.2:Nat))]]):=by
 have k:eN t=[⟨aZ,t.1,t.1+t.2.2,t.2.1,t.2.1+t.2.2⟩]:=if_neg fun q=>bne_iff_ne.mp c (by rw[q];rfl);refine⟨rfl,rfl,?_,h.fold,h.step⟩;show _=List.map aM (s.2++_++eN t);rw[k,Xr,m.e];rfl
theorem r7.pass(h:r7 bs (t::ts) s i j xs)(m:N5 s t ys)(c:(((t.2.2:Nat):Int) != 0)=false) :
  r7 bs ts (cu s t) ((t.1:Nat)+(t.2.2:Nat)) ((t.2.1:Nat)+(t.2.2:Nat)) ys:=by
 have k:eN t=[]:=if_pos (Int.ofNat_eq_zero.mp (bne_eq_false_iff_eq.mp c));refine⟨rfl,rfl,?_,h.fold,h.step⟩;show _=List.map aM (s.2++_++eN t);rw[k,Yi,m.e]
theorem r7.last(h:r7 bs [] s i j xs):xs=(bN bs).map aM:=by
 have f:s=_:=h.fold;rw[h.e3,f];rfl
end
section
variable(d oa:XC)(bs:List ab)(l0:aa)
noncomputable abbrev xU(v1 v2 v3 v4:AV)(i j:Int):List (Str×AV):=[(q6,.inst 242 d),(BL,v1),(BK,v2),(ib,v3),(mK,v4),(mJ,.int i),(qx,.int j),(BM,.ref oa)]
def JO(ts:List ab)(P:St->Prop):Prop:=∀s i j xs,r7 bs ts s i j xs->P ⟨xU d oa .any .any .any .any i j,(oa,.list xs)::l0⟩
def KT(s:(Nat×Nat)×List Op)(t:ab)(i j:Int)(xs:List AV)(P:St->Prop):Prop:=∀tag,y6 s.1 t tag->P ⟨xU d oa (.int (t.1:Nat)) (.int (t.2.1:Nat)) (.int (t.2.2:Nat)) (.str tag) i j,(oa,.list xs)::l0⟩
def KM(s:(Nat×Nat)×List Op)(t:ab)(i j:Int)(tag:Str)(P:St->Prop):Prop:=∀ys,N5 s t ys->P ⟨xU d oa (.int (t.1:Nat)) (.int (t.2.1:Nat)) (.int (t.2.2:Nat)) (.str tag) i j,(oa,.list ys)::l0⟩
end
theorem Ms{dj jk pp:XC}{a b:List Str}{mm:List (Str×AV)}{led:aa}(hA:g7 A 90)(ha:a.length<10^5)(hb:b.length<10^5)(D5:(aW (aN a b) (0,a.length,0,b.length)).length<64)
  (y7:(dj==Ze)=false) (T7:∀k,(aI mm k).getD (.lst [])=.lst (cH (bd b k))) :
  TC af w A (aj w) (.ref 210) [.inst 242 d] [] (bA w d dj jk pp a b mm .none .none led) fun v led' =>
   ∃oa,v=.ref oa/\led'=(oa,.list ((bN (aP (aN a b) a.length b.length)).map aM))::bA w d dj jk pp a b mm (.lst ((aP (aN a b) a.length b.length).map bU)) (.ref oa) led:=by
 refine TC.weak (dD [(q6,.inst 242 d),(BL,.any),(BK,.any),(ib,.any),(mK,.any),(mJ,.any),(qx,.any),(BM,.any)] (bG w) hA.lt (fun O=>@_) @_ @_ (Qu _) fun L hL=>?_);have f8:=hA.deeper (k:=87) (d8:=ba (az (gx w.params)) L 210 209);have hh:=f8.h;have hG:=((gk w (A.deeper _) (az (gx w.params)) L 210 209 @_ @_ hh)).m ⟨JN,1, "list.append"⟩ F.plainAttrs_list mE F.type_list_append;have L6:=yI (fU (aB a b) (aQ a b)) a.length b.length;generalize G1:aP (aN a b) a.length b.length=bs at *;refine bv hG 100 ?_;refine f7.mk (dG (aS _) @_ (WM ..) (v:=.none) @_ rfl ?_);refine f7.mk (fu rfl rfl rfl (ae hG 20 (bp (aR rfl (bp (aR rfl ?_))))));refine f7.mk (fu rfl rfl rfl (f7.mk (ec rfl fun oa hoa=>?_)).out);refine dd (ae hG 20 ?_);refine ee (m':=ja a b dj jk pp .none (.ref oa)) (aS _) @_ (.there .here) rfl (Yo rfl) ?_;refine bp (aR rfl ?_);refine f7.mk (yU (k:=5) bU (JO d oa bs (bA w d dj jk pp a b mm (.lst (bs.map bU)) (.ref oa) led)) (f8.mono ⋯) ?_ ?_ ?_ fun O=>@_)
 ·refine gK (name:=jS) (C:=242) (f:=203) @_ @_ @_ (aS _) @_ @_ (ae hG 20 (.mk (WO _ (WM ..)) @_ (cp @_ (bK @_) (pC ?_))));refine FF (o8:=bA w d dj jk pp a b mm .none (.ref oa) ((oa,.list [])::led)) (List.perm_append_comm_assoc [_] [_,_,_] _) (SM (f8.mono ⋯) ha hb D5 y7 T7) fun v l h=>?_;rw[h.1,h.2,G1];refine bb ((oa,.list [])::bA w d dj jk pp a b mm (.lst (bs.map bU)) (.ref oa) led) (.perm (List.perm_append_comm_assoc [_,_,_] [_] _)) ?_;exact gh (k:=5) fun it gl hI => .mk hI (.mk (fun O y=>y ((0,0),[]) _ _ _ ⟨rfl,rfl,rfl,rfl,Nat.le_of_eq (Nat.zero_add _)⟩) @_)
 ·intro gl t ts s i j xs h;have hr:=h.room;refine zx (by assumption) (xN _) @_ @_ @_ (cz _ rfl _ _ rfl rfl ?_);refine aC (aD hG 60 ?_);refine aC (T.join (KT d oa (bA w d dj jk pp a b mm (.lst (bs.map bU)) (.ref oa) led++gl) s t i j xs) (aD hG 60 (bh (fun c1=>bh (fun c2 => .mk (fun O y=>y _ (h.rep c1 c2)) @_) fun c2=>jW (bh (fun O => .mk (fun O y=>y _ (h.del c1 c2)) @_) fun c=>(c c1).elim)) fun c1=>jW (bh (fun c=>(c1 c).elim) fun O=>bh (fun c2 => .mk (fun O y=>y _ (h.ins c1 c2)) @_) fun c2 => .mk (fun O y=>y _ (h.none c1 c2)) @_))) fun tag g=>?_);refine aC (T.join (KM d oa (bA w d dj jk pp a b mm (.lst (bs.map bU)) (.ref oa) led++gl) s t i j tag) (aD hG 60 (f7.mk (pK g.small (cE (fun c=>⟨bS (WM ..),f7.mk (fz .here (by rw[Yq];omega) (.mk (fun O y=>y _ (h.put g c)) @_))⟩) fun c => .mk (fun O y=>y _ (h.skip g c)) @_)))) fun ys m=>?_);have hr:=m.room h;refine bv hG 60 (cE (fun c=>⟨bS (WM ..),f7.mk (fz .here (by rw[Yq];omega) (.next (l:=(oa,.list _)::bA w d dj jk pp a b mm (.lst (bs.map bU)) (.ref oa) led) (.mk (fun O y=>y _ _ _ _ (h.keep m c)) @_)))⟩) fun c => .next (l:=(oa,.list _)::bA w d dj jk pp a b mm (.lst (bs.map bU)) (.ref oa) led) (.mk (fun O y=>y _ _ _ _ (h.pass m c)) @_))
 ·intro s i j xs h;exact⟨_,.refl _,oa,rfl,h.last▸rfl⟩
noncomputable def cG(n:Nat)(o:Op):Op:=if o.tag=aZ then ⟨o.tag,max o.i1 (o.i2-n),o.i2,max o.j1 (o.j2-n),o.j2⟩ else o
noncomputable def cF(n:Nat)(o:Op):Op:=if o.tag=aZ then ⟨o.tag,o.i1,min o.i2 (o.i1+n),o.j1,min o.j2 (o.j1+n)⟩ else o
noncomputable def kb(f:Op->Op):List Op->List Op
 | []=>[]
 |o::os=>f o::os
noncomputable def dx(f:Op->Op):List Op->List Op
 | []=>[]
 | [o]=>[f o]
 |o::p::os=>o::dx f (p::os)
noncomputable def fB(n:Nat)(codes:List Op):List Op:=dx (cF n) (kb (cG n) (if codes.isEmpty then [⟨aZ,0,1,0,1⟩] else codes))
noncomputable def cQ(n:Nat):List Op->List Op->List (List Op)
 |group,[]=>if group.isEmpty then [] else if group.length=1/\(group.head?.map (·.tag))=some aZ then [] else [group]
 |group,o::os =>
  if o.tag=aZ/\o.i1+(n+n)<o.i2 then
   (group++[⟨o.tag,o.i1,min o.i2 (o.i1+n),o.j1,min o.j2 (o.j1+n)⟩])::cQ n [⟨o.tag,max o.i1 (o.i2-n),o.i2,max o.j1 (o.j2-n),o.j2⟩] os
  else cQ n (group++[o]) os
theorem lT{g:List Op}{P:List (List Op)->Prop}(a:g.isEmpty=true->P [])(b:g.length=1/\(g.head?.map (·.tag))=some aZ->P [])(c : ¬ g.isEmpty=true -> ¬ (g.length=1/\(g.head?.map (·.tag))=some aZ)->P [g]):P (cQ n g []):=iteInduction (motive:=P) a fun h=>iteInduction (motive:=P) b (c h)
theorem yo{g os:List Op}{o:Op}{P:List (List Op)->Prop}(a:o.tag=aZ/\o.i1+(n+n)<o.i2->P ((g++[⟨o.tag,o.i1,min o.i2 (o.i1+n),o.j1,min o.j2 (o.j1+n)⟩])::cQ n [⟨o.tag,max o.i1 (o.i2-n),o.i2,max o.j1 (o.j2-n),o.j2⟩] os))(b : ¬ (o.tag=aZ/\o.i1+(n+n)<o.i2)->P (cQ n (g++[o]) os)):P (cQ n g (o::os)):=iteInduction (motive:=P) a b
noncomputable def bL(n:Nat)(codes:List Op):List (List Op):=cQ n [] (fB n codes)
noncomputable def bF(g:List Op):AV:=.lst (g.map aM)
theorem Cc:∀(ts:List ab) (s:(Nat×Nat)×List Op),(ts.foldl cu s).2.length<=s.2.length+2 * ts.length
 | [],s=>Xy _
 |t::ts,s=>by
  have h1:=Cc ts (cu s t);have h2:=Ce s t;rw[Yh,WU];omega
theorem wy(bs:List ab):(bN bs).length<=2 * bs.length:=by
 have:=Cc bs ((0,0),[]);unfold bN;simp only[Xp] at this;omega
section
variable{N:aa}{n m:Nat}{K:g6->St->List AV->Prop}{t:Sem Flow}{l l':aa}
theorem TG.freeze(hr:p5 a xs loc g9)(h:TG d7 w B N n m d8 t ⟨g9,l⟩ f0 K):TG d7 w B N n m d8 t ⟨loc,(a,.list xs)::l⟩ f0 K :=
 fun c fs Kc H gd lv hs hg hK A hA led hN o7 o6 Z0 s Z S X=>by
  refine aU (g8.freeze (led:=l++led) S hr) fun Z' S' V X'=>?_;exact h c fs Kc H gd lv hs hg hK A hA led hN o7 o6 Z0 s Z' S' (X.trans X')
theorem TG.weak(hw:E8 l l')(h:TG d7 w B N n m d8 t ⟨loc,l'⟩ f0 K):TG d7 w B N n m d8 t ⟨loc,l⟩ f0 K :=
 fun c fs Kc H gd lv hs hg hK A hA led hN o7 o6 Z0 s Z S X=>by
  refine ak hw fun r p=>?_;clear hw;have hw':E8 (l++led) (l'++led):=⟨r,by rw[← Xv];exact p.append_right led⟩;exact h c fs Kc H gd lv hs hg hK A hA led hN o7 o6 Z0 s Z (S.weak hw') (X.weakF hw')
theorem TG.mono{K':g6->St->List AV->Prop}(h:TG d7 w B N n m d8 t st f0 K)(hk:∀f e9 j6,K f e9 j6->K' f e9 j6):TG d7 w B N n m d8 t st f0 K' :=
 fun c fs Kc H gd lv hs hg hK=>h c fs Kc H gd lv hs hg fun f x e9 j6 k=>hK f x e9 j6 (hk f e9 j6 k)
theorem TZ(h:∀A,g7 A m->∀led,n7 N led->T d7 w A B d8 j5 t ⟨st.loc,st.led++led⟩ fun f e9=>f=.next/\∃g9 l,e9=⟨g9,l++led⟩/\K .next ⟨g9,l⟩ f0):TG d7 w B N n m d8 t st f0 K :=
 EY fun A hA led hN=>(h A hA led hN).mono fun f e9 k=>by
  obtain⟨rfl,g9,l,rfl,k⟩:=k;exact ed l rfl trivial k
end
theorem eU{i:Int}{x:AV}(h0:0<=i)(h1:i<2^63)(hx:xs[i.toNat]?=some x)(h:K x st) :
  F2 d7 w A B d8 Val getItem (.tup xs) (.int i) st K:=fun s Z m6 x2 V1 V2 S Q E hQ=>by
 refine bC (lP V1) fun O O O qv e vs=>?_;subst qv
 (refine ak V2.inv fun t_ e_=>?_;subst e_)
 refine ad (vs.get hx) fun u e' hu=>?_;have l8:=(ZF.mp e').1;exact P.getItem_tuple (k:=i.toNat) (S.frozen _ _ e) (Int.le_trans (by decide) h0) h1 (seqIndex_of h0 ((Int.toNat_lt h0).mp l8)) (by simpa using e') (hQ x u s Z st h S hu .refl)
theorem II{l:XC}{items:Array Value}{k:Int}{t:Tok}{v:Value}{Q:Unit->WS->Prop}(ho:s.heap.get? l=some {cls:=.type "list",data:=.seq items n})
  (hk:k=j∨(k<0/\k+items.size=j)) (hj:j<items.size) (hsz:items.size<2^62)
  (h:Q () {s with heap:=s.heap.update l (XS (·.setIfInBounds j v))}) :
  Xq (Xn d7 w) A (setItem (.ref l) (.int k t) v) Q E s:=by
 have hl:s.heap.IsList l items:=⟨_,ho,rfl,n,rfl⟩;have hd:({cls:=.type "list",data:=.seq items n}:Obj).data=.seq items n:=rfl;unfold setItem;try with_reducible refine Xc ?_
 first |refine WL (WN ?_) |skip
 refine WL (wpAny_sequenceKey hl.typeIs (by decide) ?_);refine WL (XY (name:=WR "__setitem__") hl.typeIs slot_list_setitem
  (XO slot_list_setitem hl.typeIs entry_list_setitem ?_ (args_list_setitem _ _ _)))
 have á:items[j]?=some items[j]:=YI hj;have Â:Builtin.List.listFitsIndex k=true:=by
  rcases hk with h |h
  ·exact fitsIndex_of ⋯ ⋯
  ·exact fitsIndex_neg h.1 ⋯
 show Xq _ _ (Builtin.List.listSubscript? (.int k t)>>=_) _ _ s;refine WL (wpAny_listSubscript_int Â ?_);clear Â hsz;rcases hk with rfl |⟨h0,h1⟩
 ·skip
  show Xq _ _ ((seqItemAt l j>>=fun r=>YV (r.map (j,·)))>>=_) _ _ s;refine WL (WL (wpAny_seqItemAt ho hd (WN ?_)));rw[á];show Xq _ _ (setSeqItemAt l j v>>=_) _ _ s;refine WL (wpAny_setSeqItemAt ho hd ?_);first
   |exact WL (WN (WN ⟨.none,rfl,WN h⟩))
   |exact WN ⟨.none,rfl,WN h⟩
 ·have P_:=seqIndex_neg (n:=items.size) h0 ⋯;have L5:(k+items.size).toNat=j:=by omega
  obtain⟨m,rfl⟩:∃j:Nat,k=Int.negSucc j:=by
   cases k with
   |ofNat n=>exact absurd h0 (Int.not_lt.mpr (Int.natCast_nonneg n))
   |negSucc n=>exact⟨n,rfl⟩
  show Xq _ _ ((Builtin.List.listItems (.ref l)>>=fun xs=>YV ((seqIndex? (Int.negSucc m) xs.size).bind fun i=>xs[i]?.map (i,·)))>>=_) _ _ s;refine WL (WL ?_);show Xq _ _ (seqItems? (.ref l)>>=_) _ _ s;refine WL (YS ho hd (WN (WN ?_)));rw[P_,L5];simp only[Option.bind_some,á,c7];show Xq _ _ (setSeqItemAt l j v>>=_) _ _ s;refine WL (wpAny_setSeqItemAt ho hd ?_);first
   |exact WL (WN (WN ⟨.none,rfl,WN h⟩))
   |exact WN ⟨.none,rfl,WN h⟩
theorem Vals.set{ys:List Value}(h:Vals Z xs ys){x:AV}{y:Value}(hv:Val Z x y):∀(j:Nat),Vals Z (xs.set j x) (ys.set j y):=by
 intro j;induction xs generalizing ys j with
 |nil=>cases h;exact .nil
 |cons a xs ih =>
  cases h with
  |cons h1 h2=>cases j with
   |zero=>exact .cons hv h2
   |succ j=>exact .cons h1 (ih h2 j)
theorem FK{k:Int}{u:AV}{led led':aa}{R:Unit->St->Prop}(U:Upd a (.list xs) (.list ys) led led')(hy:ys=xs.set j u)
  (hk:k=j∨(k<0/\k+xs.length=j)) (hj:j<xs.length) (hsz:xs.length<2^62) (h:R () ⟨loc,led'⟩):F3 d7 w A B d8 setItem (.ref a) (.int k) u ⟨loc,led⟩ R:=fun s Z m6 x2 x3 V1 V2 V3 S Q E hQ=>by
 (have e_:=V1.inv;subst e_)
 (refine ak V2.inv fun t_ e_=>?_;subst e_)
 subst hy;refine bt (S.own _ U.mem) fun items n g vs=>?_;dsimp only at g;have j3:items.size=xs.length:=by have:=vs.length;simpa using this
 refine II (j:=j) g (by exact(Eq.symm (j3))▸hk) ⋯ ⋯ ?_;have B0:∃n',(s.heap.update a (XS (·.setIfInBounds j x3))).get? a=some {cls:=.type "list",data:=.seq (items.setIfInBounds j x3) n' }:=⟨_,XH (XS (·.setIfInBounds j x3)) g rfl⟩;refine ak B0 ?_;clear B0;intro n' B0;have R8:Vals Z (xs.set j u) (items.setIfInBounds j x3).toList:=by
  exact(Eq.symm (Array.toList_setIfInBounds))▸vs.set V3 j
 have P:=S.tof1.upd U (h':=s.heap.update a (XS (·.setIfInBounds j x3))) (tk:=s.toks) (fun b ob hb e=>(XE ..).extBut b ob hb e) rfl rfl ⟨_,n',B0,R8⟩;exact hQ () _ _ Z _ h (S.after P.1 P.2) trivial P.2.toF
theorem uF{x:AV}(hl:j7 st.led v ys)(hy:ys=xs++[x])(h2:xs.length<10^9)(h:K x st):F2 d7 w A B d8 Val getItem v (.int (-1)) st K:=by
 have e:ys.length=xs.length+1:=hy▸WV;refine Wa hl ⋯ ⋯ ⋯ ?_ h;rw[e,hy,show (-1+((xs.length+1:Nat):Int)).toNat=xs.length from congrArg Int.toNat (show -1+((xs.length:Int)+1)=xs.length by rw[Int.add_comm,Int.add_neg_cancel_right])];exact List.getElem?_concat_length
section
noncomputable abbrev aV(o:Op):AV:=.tup [.str o.tag,.int (o.i1:Nat),.int (o.i2:Nat),.int (o.j1:Nat),.int (o.j2:Nat)]
theorem Cg(f:Op->Op)(z:Op):∀(xs:List Op),dx f (xs++[z])=xs++[f z]
 | []=>rfl
 | [x]=>rfl
 |x::y::xs=>congrArg (x :: ·) (Cg f z (y::xs))
variable{o z:Op}{os ini:List Op}
theorem tc(a b n:Nat):max (a:Int) (b-n)=((max a (b-n):Nat):Int):=by
 rcases Nat.le_total n b with h |h
 ·rw[← Int.ofNat_sub h];rcases Nat.le_total a (b-n) with q |q
  ·rw[Nat.max_eq_right q];exact Int.max_eq_right (Int.ofNat_le.mpr q)
  ·rw[Nat.max_eq_left q];exact Int.max_eq_left (Int.ofNat_le.mpr q)
 ·rw[Nat.sub_eq_zero_of_le h,Nat.max_eq_left (Xk a)];exact Int.max_eq_left (Int.le_trans (Int.sub_nonpos_of_le (Int.ofNat_le.mpr h)) (Int.natCast_nonneg a))
theorem sZ(a b n:Nat):min (a:Int) (b+n)=((min a (b+n):Nat):Int):=by
 rcases Nat.le_total a (b+n) with q |q
 ·rw[Nat.min_eq_left q];exact Int.min_eq_left (Int.ofNat_le.mpr q)
 ·rw[Nat.min_eq_right q];exact Int.min_eq_right (Int.ofNat_le.mpr q)
theorem Pl(h:o.tag=aZ):aV (cG n o)=.tup [.str o.tag,.int (max (o.i1:Nat) ((o.i2:Nat)-(n:Nat))),.int (o.i2:Nat),.int (max (o.j1:Nat) ((o.j2:Nat)-(n:Nat))),.int (o.j2:Nat)]:=by
 unfold cG;rw[if_pos h,tc,tc]
theorem Pm(h:o.tag≠aZ):cG n o=o:=if_neg h
theorem Oy(h:z.tag=aZ):aV (cF n z)=.tup [.str z.tag,.int (z.i1:Nat),.int (min (z.i2:Nat) ((z.i1:Nat)+(n:Nat))),.int (z.j1:Nat),.int (min (z.j2:Nat) ((z.j1:Nat)+(n:Nat)))]:=by
 unfold cF;rw[if_pos h,sZ,sZ]
theorem Oz(h:z.tag≠aZ):cF n z=z:=if_neg h
noncomputable def pt(w0:List Op):List Op:=if w0.isEmpty then [Op.mk aZ 0 1 0 1] else w0
theorem Sa(w0:List Op):∃o os,pt w0=o::os/\os.length<=w0.length:=by
 cases w0 with
 |nil=>exact dF _ _ rfl (Xy _)
 |cons o os=>exact dF o os rfl (Nat.le_succ _)
theorem Ic(o:Op)(os:List Op):∃ini z,o::os=ini++[z]/\ini.length=os.length:=by
 rcases c9 (o::os) with h |⟨l,x,h⟩
 ·cases h
 ·rw[d3] at h;exact dF l x h (by have:=congrArg ZP h;simp only[WU,WV,Xp] at this;omega)
theorem Hr{w0:List Op}(h:pt w0=o::os)(h':cG n o::os=ini++[z]):fB n w0=ini++[cF n z]:=by
 show dx (cF n) (kb (cG n) (pt w0))=_;rw[h];show dx (cF n) (cG n o::os)=_;rw[h',Cg]
structure I5 (n:Nat) (ps:List Op) (xs f0:List AV):Prop where
 run:∃g:List Op,xs=g.map aV/\f0=(cQ n g ps).map bF/\xs.length+2 * ps.length<10^7
structure N7 (n:Nat) (p:Op) (ps:List Op) (qi qj:Int) (xs f0:List AV):Prop where
 run:∃(g:List Op) (a b:Nat),qi=a/\qj=b/\xs=g.map aV/\f0=(cQ n (g++[⟨p.tag,a,p.i2,b,p.j2⟩]) ps).map bF/\xs.length+2+2 * ps.length<10^7
variable{p:Op}{ps:List Op}{qi qj:Int}
abbrev yf(n:Nat)(p:Op):Prop:=p.tag=aZ/\((n:Nat):Int)+(n:Nat)<(p.i2:Nat)-(p.i1:Nat)
theorem I5.start{cs:List Op}(h:cs.length<10^6+10):I5 n cs [] ((cQ n [] cs).map bF):=⟨[],rfl,rfl,by rw[Xp];omega⟩
theorem I5.room(h:I5 n ps xs f0):xs.length<10^7:=by
 refine aU h.run fun g O2 O3 h=>?_;clear O2;clear O3;omega
theorem N7.room(h:N7 n p ps qi qj xs f0):xs.length<10^7:=by
 refine pP h.run fun g a b O4 O5 O6 O7 h=>?_;clear O4;clear O5;clear O6;clear O7;omega
theorem I5.cut(h:I5 n (p::ps) xs f0)(c:yf n p):∃rest,f0=.lst (xs++[.tup [.str p.tag,.int (p.i1:Nat),.int (min (p.i2:Nat) ((p.i1:Nat)+(n:Nat))),.int (p.j1:Nat),.int (min (p.j2:Nat) ((p.j1:Nat)+(n:Nat)))]])::rest /\
  N7 n p ps (max (p.i1:Nat) ((p.i2:Nat)-(n:Nat))) (max (p.j1:Nat) ((p.j2:Nat)-(n:Nat))) [] rest:=by
 refine aU h.run fun g O2 O3 hl=>?_;subst O2;subst O3;refine⟨(cQ n ([]++[⟨p.tag,max p.i1 (p.i2-n),p.i2,max p.j1 (p.j2-n),p.j2⟩]) ps).map bF,?_,[],_,_,tc ..,tc ..,rfl,rfl,by rw[WU] at hl;rw[Xp];omega⟩;have c2:=c.2;rw[show cQ n g (p::ps)=_ from if_pos ⟨c.1,by omega⟩,WY,sZ,sZ];show AV.lst (List.map aM (g++_))::_=_;rw[Xr];rfl
theorem I5.same(h:I5 n (p::ps) xs f0)(c : ¬ yf n p):N7 n p ps (p.i1:Nat) (p.j1:Nat) xs f0:=by
 refine aU h.run fun g O2 O3 hl=>?_;subst O2;subst O3;refine⟨g,p.i1,p.j1,rfl,rfl,rfl,?_,by rw[WU] at hl;omega⟩;exact congrArg (List.map bF) (if_neg fun q=>c ⟨q.1,by have:=q.2;omega⟩)
theorem N7.put(h:N7 n p ps qi qj xs f0):I5 n ps (xs++[.tup [.str p.tag,.int qi,.int (p.i2:Nat),.int qj,.int (p.j2:Nat)]]) f0:=by
 refine pP h.run fun g a b O4 O5 O6 O7 h=>?_;subst O4;subst O5;subst O6;subst O7;exact⟨g++[⟨p.tag,a,p.i2,b,p.j2⟩],by rw[Xr];rfl,rfl,by rw[WV,Zj];omega⟩
theorem I5.none(h:I5 n [] xs f0)(c:(!xs.isEmpty)=false):f0=[]:=by
 refine aU h.run fun g O2 O3 O4=>?_;subst O2;subst O3;clear O4;cases g with
 |nil=>rfl
 |cons q qs=>cases c
theorem I5.one(h:I5 n [] xs f0)(c:((xs.length:Nat):Int)=1):∃q:Op,xs=[aV q]/\(q.tag=aZ->f0=[])/\(q.tag≠aZ->f0=[.lst xs]):=by
 refine aU h.run fun g O2 O3 O4=>?_;subst O2;subst O3;clear O4;rw[WP] at c;refine ak (List.length_eq_one_iff.mp (Int.ofNat_inj.mp c)) fun q O2=>?_;subst O2;exact ed q rfl (fun e=>lT (P:=fun l=>l.map bF=[]) (fun O=>rfl) (fun O=>rfl) fun O c=>(c ⟨rfl,congrArg some e⟩).elim) fun e=>lT (P:=fun l=>l.map bF=[.lst [aV q]]) (fun c=>nomatch c) (fun c=>(e (Zi c.2)).elim) fun O O=>rfl
theorem I5.many(h:I5 n [] xs f0)(c:(!xs.isEmpty)=true)(c':((xs.length:Nat):Int)≠1):f0=[.lst xs]:=by
 refine aU h.run fun g O2 O3 O4=>?_;subst O2;subst O3;clear O4;rw[WP] at c';cases g with
 |nil=>cases c
 |cons q qs =>
  have : ¬ (qs.length=0):=fun e=>c' (by rw[WU,e];rfl);exact lT (P:=fun l=>l.map bF=[.lst ((q::qs).map aV)]) (fun c=>nomatch c) (fun c=>(this (Nat.succ.inj c.1)).elim) fun O O=>rfl
theorem I5.last(h:I5 n [] xs f0):f0=[]∨f0=[.lst xs]:=by
 cases c : !xs.isEmpty with
 |false=>exact .inl (h.none c)
 |true =>
  by_cases c':((xs.length:Nat):Int)=1
  ·refine aU (h.one c') fun q O2 h1 h2=>?_;clear O2;by_cases e:q.tag=aZ
   ·exact .inl (h1 e)
   ·exact .inr (h2 e)
  ·exact .inr (h.many c c')
theorem RY{w0:List Op}(c:(!!(w0.map aM).isEmpty)=true)(hc:pt w0=o::os):[AV.tup [.str aZ,.int 0,.int 1,.int 0,.int 1]]=(o::os).map aM:=by
 cases w0 with
 |nil=>rw[← hc];rfl
 |cons p ps=>cases c
theorem RZ{w0:List Op}(c:(!!(w0.map aM).isEmpty)=false)(hc:pt w0=o::os):w0.map aM=(o::os).map aM:=by
 cases w0 with
 |nil=>cases c
 |cons p ps=>rw[← hc];rfl
theorem IG(o o':Op)(os:List Op){u:AV}(e:aV o'=u):(o'::os).map aM=((o::os).map aM).set 0 u:=by rw[← e];rfl
theorem IF(z z':Op)(ini:List Op){u:AV}(e:aV z'=u):(ini++[z']).map aM=((ini++[z]).map aM).set ini.length u:=by
 rw[← e,Xr,Xr,List.set_append_right _ _ (by simp)];simp[aM]
end
section
variable{N:aa}{n m:Nat}{K:g6->St->List AV->Prop}{t:Sem Flow}
inductive A_ (K:g6->St->List AV->Prop) (f0:List AV) (led:aa):g6->St->Prop where
 |mk {loc:List (Str×AV)} (l:aa) (h:K .next ⟨loc,l⟩ f0):A_ K f0 led .next ⟨loc,l++led⟩
theorem du(h:∀A,g7 A m->∀led,n7 N led->T d7 w A B d8 j5 t ⟨st.loc,st.led++led⟩ (A_ K f0 led)):TG d7 w B N n m d8 t st f0 K :=
 TZ fun A hA led hN=>(h A hA led hN).mono fun f e9 k=>by
  cases k with
  |mk l h=>exact⟨rfl,_,l,rfl,h⟩
inductive Yld (K:g6->St->List AV->Prop) (led:aa):List AV->AV->St->Prop where
 |mk {loc:List (Str×AV)} {v:AV} {rest:List AV} (l:aa) (h:K .next ⟨loc,l⟩ rest):Yld K led (v::rest) v ⟨loc,l++led⟩
theorem yY{e:Expr}{D1:Pos}(h:∀A,g7 A m->∀led,n7 N led->T d7 w A B d8 Val (Yw e d8) ⟨st.loc,st.led++led⟩ (Yld K led f0))
  (C6:d8.scope.isCoroutine=false) (hi:interactive d8=false):TG d7 w B N n m d8 (exec (.Expr (.Yield (some e) D1) pos) d8) st f0 K :=
 Ua (fun A hA led hN=>(h A hA led hN).mono fun v e9 k =>
  Yld.casesOn (motive:=fun f0 v e9 O=>∃l rest,f0=v::rest/\e9.led=l++led/\K .next ⟨e9.loc,l⟩ rest) k fun l h=>⟨l,_,rfl,rfl,h⟩) C6 hi
theorem I1.nextE{J:List AV->St->List AV->Prop}{K:g6->St->List AV->Prop}{gl l led:aa}(e:l++gl=led)(h:J xs ⟨loc,l⟩ f0):I1 J K xs gl .next ⟨loc,led⟩ f0:=e▸.next h
inductive Ends (loc:List (Str×AV)) (led:aa):g6->St->Prop where
 |mk:Ends loc led .next ⟨loc,led⟩
theorem bJ{x:Stmt}{rest:List Stmt}(l:aa)(h:∀A,g7 A m->∀led,n7 N led->T d7 w A B d8 j5 (exec x d8) ⟨st.loc,st.led++led⟩ (Ends loc (l++led)))(k:TG d7 w B N n m d8 (execs rest d8) ⟨loc,l⟩ f0 K):TG d7 w B N n m d8 (execs (x::rest) d8) st f0 K :=
 cm (du fun A hA led hN=>(h A hA led hN).mono fun f e9 q=>q.rec (.mk l k))
inductive Gives (loc:List (Str×AV)) (led:aa) (v:AV):AV->St->Prop where
 |mk:Gives loc led v v ⟨loc,led⟩
theorem fw{e:Expr}{D1:Pos}{rest:List Stmt}(l:aa)(h:∀A,g7 A m->∀led,n7 N led->T d7 w A B d8 Val (Yw e d8) ⟨st.loc,st.led++led⟩ (Gives loc (l++led) v))
  (k:TG d7 w B N n m d8 (execs rest d8) ⟨loc,l⟩ f0 K) (C6:d8.scope.isCoroutine=false) (hi:interactive d8=false):TG d7 w B N n m d8 (execs (.Expr (.Yield (some e) D1) pos::rest) d8) st (v::f0) K :=
 cm (yY (fun A hA led hN=>(h A hA led hN).mono fun f e9 q=>q.rec (.mk l k)) C6 hi)
theorem eT{p:Prop}{m9:Expr}{m7:List Stmt}(h:∀A,g7 A m->∀led,n7 N led->T d7 w A B d8 aH (isTrue m9 d8 (Yw m9 d8)) ⟨st.loc,st.led++led⟩ fun b s=>s=⟨st.loc,st.led++led⟩/\(b=true↔p))
  (h1:p->TG d7 w B N n m d8 (execs body d8) st f0 K) (h2 : ¬ p->TG d7 w B N n m d8 (execs m7 d8) st f0 K):TG d7 w B N n m d8 (exec (.If m9 body m7 pos) d8) st f0 K :=
 Ub fun A hA led hN=>(h A hA led hN).mono fun b s k=>by
  refine av k ?_;clear k;intro O1 k;subst O1;refine bb st.led rfl ?_;cases b with
  |true=>exact h1 (k.mp rfl)
  |false=>exact h2 fun q=>Bool.noConfusion (k.mpr q)
inductive KG (S:St->List AV->Prop):g6->St->List AV->Prop where
 |mk {e9:St} {j6:List AV} (h:S e9 j6):KG S .next e9 j6
theorem KG.elim{S:St->List AV->Prop}{P:g6->St->List AV->Prop}(k:∀st f0,S st f0->P .next st f0)(f:g6)(st:St)(f0:List AV)(h:KG S f st f0):P f st f0:=by
 induction h with
 |mk h=>exact k _ _ h
inductive KE (K:St->Prop):g6->St->List AV->Prop where
 |mk {e9:St} (h:K e9):KE K .next e9 []
end
section
variable(n:Nat)(d:XC)(R:List AV)
noncomputable abbrev lM(v1 v2 v3 v4 v5 co nn gr:AV):List (Str×AV):=[(jB,.int n),(q6,.inst 242 d),(mK,v1),(mO,v2),(mM,v3),(mN,v4),(mL,v5),(BI,co),(BH,nn),(qI,gr)]
def KC(cs:List Op)(P:St->List AV->Prop):Prop:=∀ca X,P ⟨lM n d .any .any .any .any .any (.ref ca) .any .any,(ca,.list (cs.map aM))::X⟩ R
variable{n d R} in
theorem KC.mk{cs:List Op}{ca:XC}{X:aa}{v1 v2 v3 v4 v5:AV}(e:xs=cs.map aM):F4 (KC n d R cs) .next ⟨lM n d v1 v2 v3 v4 v5 (.ref ca) .any .any,(ca,.list xs)::X⟩ R:=e▸.mk (fun O y=>y ca X) @_
variable(cs:List Op)(X:aa)
noncomputable abbrev xV(v1 v2 v3 v4 v5:AV)(ga:XC):List (Str×AV):=lM n d v1 v2 v3 v4 v5 (.lst (cs.map aM)) (.int ((n:Int)+(n:Int))) (.ref ga)
def JG(ps:List Op)(P:St->List AV->Prop):Prop:=∀xs f0 ga,I5 n ps xs f0->P ⟨xV n d cs .any .any .any .any .any ga,(ga,.list xs)::X⟩ f0
def UQ(p:Op)(ps:List Op)(P:St->List AV->Prop):Prop:=∀qi qj xs f0 ga,N7 n p ps qi qj xs f0->P ⟨xV n d cs (.str p.tag) (.int qi) (.int (p.i2:Nat)) (.int qj) (.int (p.j2:Nat)) ga,(ga,.list xs)::X⟩ f0
end
theorem PG{dj jk pp:XC}{a b:List Str}{mm:List (Str×AV)}{led N:aa}(hA:g7 A 120)(hn:n<10^5)(ha:a.length<10^5)(hb:b.length<10^5)(D5:(aW (aN a b) (0,a.length,0,b.length)).length<64)
  (y7:(dj==Ze)=false) (T7:∀k,(aI mm k).getD (.lst [])=.lst (cH (bd b k))) :
  TC af w A (aj w) (.ref 218) [.inst 242 d,.int n] [] (bA w d dj jk pp a b mm .none .none []++led) (n8 af w (aj w) N 103 ((bL n (bN (aP (aN a b) a.length b.length))).map bF) led):=by
 refine Fg (m:=100) (lM n d .any .any .any .any .any .any .any .any) (bG w) hA.lt (fun O O=>@_) @_ @_ (Qt _) fun L=>?_;have hG:=fun(A:Xg) (hh:A.handled=none)=>((((gk w A (az (iH w.params)) L 218 217 @_ @_ hh).g (lU w) @_ @_).g (PM w) @_ @_).g (PN w) @_ @_).m ⟨JN,1, "list.append"⟩ F.plainAttrs_list mE F.type_list_append;refine bJ _ (fun A' f8 led' l3=>aD (hG A' f8.h) 20 .mk) ?_;refine cm (du fun A' f8 led' l3=>gI (gK (name:=jR) (C:=242) (f:=210) @_ @_ @_ (aS _) @_ @_ (ae (hG A' f8.h) 20 (.mk (WM ..) @_ (cp @_ (bK @_) (pC (fy (led:=bA w d dj jk pp a b mm .none .none led') (Ms (f8.mono ⋯) ha hb D5 y7 T7) fun v l h=>?_)))))) @_);refine ad h fun oa O2 O3=>?_;clear h;subst O2;subst O3;refine aR rfl (.mk ((oa,.list ((bN (aP (aN a b) a.length b.length)).map aM))::bA w d dj jk pp a b mm (.lst ((aP (aN a b) a.length b.length).map bU)) (.ref oa) []) ?_);have ç:(bN (aP (aN a b) a.length b.length)).length<10^6:=by
  have h1:=wy (aP (aN a b) a.length b.length);have h2:=ED (fl:=aN a b) a.length b.length;omega
 generalize bA w d dj jk pp a b mm (.lst ((aP (aN a b) a.length b.length).map bU)) (.ref oa) []=X0;generalize bN (aP (aN a b) a.length b.length)=w0 at *;refine bt (Sa w0) fun o os hc j3=>?_;refine ez (KC n d ((bL n w0).map bF) (o::os)) (du fun A' f8 led' l3=>aD (hG A' f8.h) 20 (f7.mk (pL (.own (WM ..)) (by rw[WP];omega) (cE (fun c=>f7.mk (gL (bD (hG A' f8.h) 20 ⟨(by decide:1<=XK),fun ca hca => .mk ((ca,.list _)::(oa,.list (w0.map aM))::X0) (KC.mk (RY c hc))⟩))) fun c => .mk _ (KC.mk (RZ c hc)))))) fun ca X=>?_;refine ez (KC n d ((bL n w0).map bF) (cG n o::os)) (du fun A' f8 led' l3=>mf (T.bool (p:=o.tag=aZ) (bZ (hG A' f8.h) 20 ⟨.mk list_getitem_lookup (bS (WM ..)),f7.mk (fA (.own (WM ..)) (by decide) (by decide) (x:=aM o) rfl (f7.mk (eU (by decide) (by decide) (x:=.str o.tag) rfl ⟨rfl,beq_iff_eq⟩)))⟩) (fun c=>?_) fun c=>cK (.mk _ (KC.mk (by rw[Pm c]))))) fun ca X=>?_
 ·refine aC (cX rfl rfl rfl (ae (hG A' f8.h) 20 ⟨.mk list_getitem_lookup (bS (WM ..)),f7.mk (fA (.own (WM ..)) (by decide) (by decide) (x:=aV o) rfl (dv f8.h @_ @_ @_ (cz _ rfl _ _ rfl rfl ?_)))⟩));refine aC (cX rfl rfl rfl (ae (hG A' f8.h) 40 (f7.mk (uz f8.h (f7.mk (uz f8.h (zy (ae (hG A' f8.h) 20 (ae (hG A' f8.h) 20 ?_)))))))));refine FK (j:=0) .here (IG o (cG n o) os (Pl c)) (.inl rfl) (by rw[WP];exact Nat.succ_pos _) (by rw[WP,WU];omega) ?_;refine cK ?_;exact A_.mk _ (KC.mk rfl)
 refine bt (Ic (cG n o) os) fun ini z hz hlz=>?_;have T0:=Hr (n:=n) hc hz;rw[hz];refine ez (KC n d ((bL n w0).map bF) (ini++[cF n z])) (du fun A' f8 led' l3=>mf (T.bool (p:=z.tag=aZ) (bZ (hG A' f8.h) 20 ⟨.mk list_getitem_lookup (bS (WM ..)),f7.mk (uF (.own (WM ..)) (xs:=ini.map aM) (x:=aM z) Xr (by rw[WP];omega) (f7.mk (eU (by decide) (by decide) (x:=.str z.tag) rfl ⟨rfl,beq_iff_eq⟩)))⟩) (fun c=>?_) fun c=>cK (.mk _ (KC.mk (by rw[Oz c]))))) fun ca X=>?_
 ·refine aC (cX rfl rfl rfl (ae (hG A' f8.h) 20 ⟨.mk list_getitem_lookup (bS (WM ..)),f7.mk (uF (.own (WM ..)) (xs:=ini.map aM) (x:=aV z) Xr (by rw[WP];omega) (dv f8.h @_ @_ @_ (cz _ rfl _ _ rfl rfl ?_)))⟩));refine aC (cX rfl rfl rfl (ae (hG A' f8.h) 40 (f7.mk (uy f8.h (f7.mk (uy f8.h (zy (ae (hG A' f8.h) 20 (ae (hG A' f8.h) 20 ?_)))))))));refine FK (j:=ini.length) .here (IF z (cF n z) ini (Oy c)) (.inr ⟨by decide,by rw[WP,WV,Zj];omega⟩) (by rw[WP,WV,Zj];omega) (by rw[WP,WV,Zj];omega) ?_;refine cK ?_;exact A_.mk _ (KC.mk rfl)
 rw[← T0];have c_:(fB n w0).length<10^6+10:=by rw[T0,WV,Zj];omega
 unfold bL;generalize fB n w0=cs at *;clear T0 hz hc j3 hlz;refine bJ _ (fun A' f8 led' l3=>aD (hG A' f8.h) 20 .mk) ?_;refine cm (du fun A' f8 led' l3=>aD (hG A' f8.h) 20 (f7.mk (ec rfl fun ga w_ => .mk ((ga,.list [])::(ca,.list (cs.map aM))::X) ?_)));refine TG.weak (.perm (YW _ _ _)) (TG.freeze (g9:=xV n d cs .any .any .any .any .any ga) (by repeat constructor) ?_);refine gJ (k:=5) aM (JG n d cs X) ⋯ (fun A' f8 led' l3=>ae (hG A' f8.h) 20 (gh (k:=5) fun it gl hI => .mk (l:=(ga,.list [])::X) hI (.mk (fun O y=>y _ _ ga (I5.start c_)) @_))) ?_ ?_ (fun O=>@_)
 ·intro gl p ps xs f0 ga h;have hr:=h.room;refine .mk (fun A' f8 led' l3=>dv f8.h @_ @_ @_ (cz _ rfl _ _ rfl rfl rfl)) ?_;refine ez (UQ n d cs (X++gl) p ps) (eT (p:=yf n p) (fun A' f8 led' l3=>bZ (hG A' f8.h) 20 (cE (fun c1=>bh (fun c2=>⟨rfl,iff_of_true rfl ⟨beq_iff_eq.mp c1,c2⟩⟩) fun c2=>⟨rfl,iff_of_false XL fun q=>c2 q.2⟩) fun c1=>⟨rfl,iff_of_false XL fun q=>beq_eq_false_iff_ne.mp c1 q.1⟩)) (fun c=>?_) fun c=>be (F4.mk (fun O y=>y _ _ _ _ ga (h.same c)) @_)) fun qi qj xs f0 gc h=>?_
  ·refine ad (h.cut c) fun rest O2 g=>?_;subst O2;refine cm (du fun A' f8 led' l3=>aD (hG A' f8.h) 40 ⟨bS (WM ..),f7.mk (uy f8.h (f7.mk (uy f8.h (f7.mk (fz .here (by rw[Yq];omega) (.mk ((ga,.list (xs++[_]))::(X++gl)) ?_))))))⟩);refine TG.freeze (g9:=lM n d (.str p.tag) (.int (p.i1:Nat)) (.int (p.i2:Nat)) (.int (p.j1:Nat)) (.int (p.j2:Nat)) (.lst (cs.map aM)) (.int ((n:Int)+(n:Int))) (.lst (xs++[_]))) (by repeat constructor) ?_;refine cm (yY (fun A' f8 led' l3=>ae (hG A' f8.h) 20 (.mk (X++gl) ?_)) @_ @_);refine cm (du fun A' f8 led' l3=>aD (hG A' f8.h) 20 (f7.mk (ec rfl fun gc hgc => .mk ((gc,.list [])::(X++gl)) ?_)));exact cm (du fun A' f8 led' l3=>aD (hG A' f8.h) 40 (f7.mk (uz f8.h (f7.mk (uz f8.h (.mk ((gc,.list [])::(X++gl)) (be (F4.mk (fun O y=>y _ _ _ _ gc g) @_))))))))
  ·have hr:=h.room;refine cm (du fun A' f8 led' l3=>aD (hG A' f8.h) 20 ⟨bS (WM ..),f7.mk (fz .here (by rw[Yq];omega) (.mk ((gc,.list (xs++[_]))::(X++gl)) ?_))⟩);exact be (.next (l:=(gc,.list (xs++[_]))::X) (.mk (fun O y=>y _ _ gc h.put) @_))
 ·intro xs f0 ga h;have hr:=h.room;refine cm (TG.mono (K:=KE fun O=>True) (eT (p:=f0=[.lst xs]) (fun A' f8 led' l3=>?_) (fun c=>?_) fun c=>?_) fun f st f0 h=>?_)
  ·refine bZ (hG A' f8.h) 40 (f7.mk (pL (.own (WM ..)) ⋯ (cE (fun c1=>f7.mk (gP (.own (WM ..)) ⋯ (jX (fun c2=>?_) fun c2=>⟨rfl,iff_of_true rfl (h.many c1 c2)⟩))) fun c1=>⟨rfl,iff_of_false XL fun q=>?_⟩)))
   ·refine aU (h.one c2) fun q e h1 h2=>?_;refine And.intro (.mk list_getitem_lookup (bS (WM ..))) (f7.mk (fA (.own (WM ..)) (by decide) (by decide) (x:=aV q) (by rw[e];rfl) (f7.mk (eU (by decide) (by decide) (x:=.str q.tag) rfl (cE (fun c3=>?_) fun c3=>?_)))))
    ·exact⟨rfl,iff_of_false XL fun q'=>nomatch (h1 (beq_iff_eq.mp c3)).symm.trans q'⟩
    ·exact⟨rfl,iff_of_true rfl (h2 (beq_eq_false_iff_ne.mp c3))⟩
   ·rw[h.none c1] at q;cases q
  ·subst c;refine TG.freeze (g9:=lM n d .any .any .any .any .any (.lst (cs.map aM)) (.int ((n:Int)+(n:Int))) (.lst xs)) (by repeat constructor) ?_;exact cm (yY (fun A' f8 led' l3=>ae (hG A' f8.h) 20 (.mk X (be (KE.mk trivial)))) @_ @_)
  ·induction h.last with
   |inl e=>subst e;exact be (KE.mk trivial)
   |inr e=>exact absurd e c
  ·induction h with
   |mk _=>exact be rfl
noncomputable def tH(x:Str):Str:=(WR "\t" ++ x)
theorem No{t u1:Tok}(hx:x.length<10^5):Meets (Builtin.«str.format» ⟨[.str (Str.mk #[9,123,125]) t,.str x u1],[]⟩) (fun O R s=>∀t' k,R (.ok (.ret (.str ((WR "\t" ++ x)) t'))) {s with toks:=k}) :=
 fO (F:=[9,123,125]) (.field (l:=[9]) (rest:=[]) (L:=WR "\t") rfl (Yo rfl) rfl rfl (.str (YO hx)) (by decide +kernel) KFm.cat_ex .done) (Yo rfl) (Yo rfl)
noncomputable def yx(x y z:Str):Str:=(((WR "--- " ++ x)++y)++z)
theorem Nm{z:Str}{t u1 u2 u3:Tok}(hx:x.length<10^5)(hy:y.length<10^5)(hz:z.length<10^5):Meets (Builtin.«str.format» ⟨[.str (Str.mk #[45,45,45,32,123,125,123,125,123,125]) t,.str x u1,.str y u2,.str z u3],[]⟩) (fun O R s=>∀t' k,R (.ok (.ret (.str ((((WR "--- " ++ x)++y)++z)) t'))) {s with toks:=k}) :=
 fO (F:=[45,45,45,32,123,125,123,125,123,125]) (.field (l:=[45,45,45,32]) (rest:=[123,125,123,125]) (L:=WR "--- ") rfl (Yo rfl) rfl rfl (.str (YO hx)) (by decide +kernel) KFm.cat_ex (.field (l:=[]) (rest:=[123,125]) (L:=WR "") rfl (Yo rfl) rfl rfl (.str (YO hy)) (by decide +kernel) KFm.cat_te (.field (l:=[]) (rest:=[]) (L:=WR "") rfl (Yo rfl) rfl rfl (.str (YO hz)) (by decide +kernel) KFm.cat_te .done))) (Yo rfl) (Yo rfl)
noncomputable def DH(x y z:Str):Str:=(((WR "+++ " ++ x)++y)++z)
theorem Nn{z:Str}{t u1 u2 u3:Tok}(hx:x.length<10^5)(hy:y.length<10^5)(hz:z.length<10^5):Meets (Builtin.«str.format» ⟨[.str (Str.mk #[43,43,43,32,123,125,123,125,123,125]) t,.str x u1,.str y u2,.str z u3],[]⟩) (fun O R s=>∀t' k,R (.ok (.ret (.str ((((WR "+++ " ++ x)++y)++z)) t'))) {s with toks:=k}) :=
 fO (F:=[43,43,43,32,123,125,123,125,123,125]) (.field (l:=[43,43,43,32]) (rest:=[123,125,123,125]) (L:=WR "+++ ") rfl (Yo rfl) rfl rfl (.str (YO hx)) (by decide +kernel) KFm.cat_ex (.field (l:=[]) (rest:=[123,125]) (L:=WR "") rfl (Yo rfl) rfl rfl (.str (YO hy)) (by decide +kernel) KFm.cat_te (.field (l:=[]) (rest:=[]) (L:=WR "") rfl (Yo rfl) rfl rfl (.str (YO hz)) (by decide +kernel) KFm.cat_te .done))) (Yo rfl) (Yo rfl)
noncomputable def DJ(x y z:Str):Str:=(((((WR "@@ -" ++ x)++WR " +")++y)++WR " @@")++z)
theorem Ny{z:Str}{t u1 u2 u3:Tok}(hx:x.length<10^5)(hy:y.length<10^5)(hz:z.length<10^5):Meets (Builtin.«str.format» ⟨[.str (Str.mk #[64,64,32,45,123,125,32,43,123,125,32,64,64,123,125]) t,.str x u1,.str y u2,.str z u3],[]⟩) (fun O R s=>∀t' k,R (.ok (.ret (.str ((((((WR "@@ -" ++ x)++WR " +")++y)++WR " @@")++z)) t'))) {s with toks:=k}) :=
 fO (F:=[64,64,32,45,123,125,32,43,123,125,32,64,64,123,125]) (.field (l:=[64,64,32,45]) (rest:=[32,43,123,125,32,64,64,123,125]) (L:=WR "@@ -") rfl (Yo rfl) rfl rfl (.str (YO hx)) (by decide +kernel) KFm.cat_ex (.field (l:=[32,43]) (rest:=[32,64,64,123,125]) (L:=WR " +") rfl (Yo rfl) rfl rfl (.str (YO hy)) (by decide +kernel) rfl (.field (l:=[32,64,64]) (rest:=[]) (L:=WR " @@") rfl (Yo rfl) rfl rfl (.str (YO hz)) (by decide +kernel) rfl .done))) (Yo rfl) (Yo rfl)
noncomputable def DI(x y z:Str):Str:=(((WR "*** " ++ x)++y)++z)
theorem Nu{z:Str}{t u1 u2 u3:Tok}(hx:x.length<10^5)(hy:y.length<10^5)(hz:z.length<10^5):Meets (Builtin.«str.format» ⟨[.str (Str.mk #[42,42,42,32,123,125,123,125,123,125]) t,.str x u1,.str y u2,.str z u3],[]⟩) (fun O R s=>∀t' k,R (.ok (.ret (.str ((((WR "*** " ++ x)++y)++z)) t'))) {s with toks:=k}) :=
 fO (F:=[42,42,42,32,123,125,123,125,123,125]) (.field (l:=[42,42,42,32]) (rest:=[123,125,123,125]) (L:=WR "*** ") rfl (Yo rfl) rfl rfl (.str (YO hx)) (by decide +kernel) KFm.cat_ex (.field (l:=[]) (rest:=[123,125]) (L:=WR "") rfl (Yo rfl) rfl rfl (.str (YO hy)) (by decide +kernel) KFm.cat_te (.field (l:=[]) (rest:=[]) (L:=WR "") rfl (Yo rfl) rfl rfl (.str (YO hz)) (by decide +kernel) KFm.cat_te .done))) (Yo rfl) (Yo rfl)
noncomputable def yy(x y:Str):Str:=(((WR "*** " ++ x)++WR " ****")++y)
theorem Nw{t u1 u2:Tok}(hx:x.length<10^5)(hy:y.length<10^5):Meets (Builtin.«str.format» ⟨[.str (Str.mk #[42,42,42,32,123,125,32,42,42,42,42,123,125]) t,.str x u1,.str y u2],[]⟩) (fun O R s=>∀t' k,R (.ok (.ret (.str ((((WR "*** " ++ x)++WR " ****")++y)) t'))) {s with toks:=k}) :=
 fO (F:=[42,42,42,32,123,125,32,42,42,42,42,123,125]) (.field (l:=[42,42,42,32]) (rest:=[32,42,42,42,42,123,125]) (L:=WR "*** ") rfl (Yo rfl) rfl rfl (.str (YO hx)) (by decide +kernel) KFm.cat_ex (.field (l:=[32,42,42,42,42]) (rest:=[]) (L:=WR " ****") rfl (Yo rfl) rfl rfl (.str (YO hy)) (by decide +kernel) rfl .done)) (Yo rfl) (Yo rfl)
noncomputable def lV(x y:Str):Str:=(((WR "--- " ++ x)++WR " ----")++y)
theorem Nv{t u1 u2:Tok}(hx:x.length<10^5)(hy:y.length<10^5):Meets (Builtin.«str.format» ⟨[.str (Str.mk #[45,45,45,32,123,125,32,45,45,45,45,123,125]) t,.str x u1,.str y u2],[]⟩) (fun O R s=>∀t' k,R (.ok (.ret (.str ((((WR "--- " ++ x)++WR " ----")++y)) t'))) {s with toks:=k}) :=
 fO (F:=[45,45,45,32,123,125,32,45,45,45,45,123,125]) (.field (l:=[45,45,45,32]) (rest:=[32,45,45,45,45,123,125]) (L:=WR "--- ") rfl (Yo rfl) rfl rfl (.str (YO hx)) (by decide +kernel) KFm.cat_ex (.field (l:=[32,45,45,45,45]) (rest:=[]) (L:=WR " ----") rfl (Yo rfl) rfl rfl (.str (YO hy)) (by decide +kernel) rfl .done)) (Yo rfl) (Yo rfl)
noncomputable abbrev gm(d7:Xh)(w:Xo)(S:Str->Bool)(n:Nat):i9:=.obj (fun O o=>Obj.SetObjOf (XA d7 w) o S n) fun O O O O x=>x
theorem AC{S:Str->Bool}{t:Tok}{led led':aa}{Q:Bool->WS->Prop}(hn:n+1<scanBound)
  (U:Upd d (gm d7 w S n) (gm d7 w (fun k=>S k||decide (k=x)) (if S x then n else n+1)) led led')
  (Sm:g8 B d8 s Z ⟨loc,led⟩) (hQ:∀s',g8 B d8 s' Z ⟨loc,led'⟩->k8 (aw d8 ⟨loc,led⟩) s Z s' Z (aw d8 ⟨loc,led'⟩)->Q (!S x) s'):Xq (Xn d7 w) A (setAdd d (.str x t)) Q E s:=by
 refine ad (Sm.own _ U.mem) fun o ho Θ=>?_;dsimp only at ho;unfold setAdd;refine Xc (WL ((XA d7 w).pyHash (strKind_is d7 w x t) ?_));refine wpAny_setAddHashed_of (s:={ s with toks:=s.toks+1}) (strKind_is d7 w x t) rfl (Θ.setOf ho ⋯) hn fun h' y3 hS'=>?_;refine ad hS'.objOf fun so' W6 Z9=>?_;have P:=Sm.tof1.upd U (h':=h') (tk:=s.toks+1) (fun b ob hb e=>y3.extBut b ob hb e) rfl rfl ⟨so',W6,Z9⟩;exact hQ _ (Sm.after P.1 P.2) P.2.toF
theorem HZ{S:Str->Bool}{led:aa}{Q:Unit->WS->Prop}(hn:n<scanBound)
  (Sm:g8 B d8 s Z ⟨loc,(d,gm d7 w S n)::led⟩) (hQ:∀s',g8 B d8 s' Z ⟨loc,(d,gm d7 w S n)::led⟩->k8 (aw d8 ⟨loc,(d,gm d7 w S n)::led⟩) s Z s' Z (aw d8 ⟨loc,(d,gm d7 w S n)::led⟩)->Q () s'):Xq (Xn d7 w) A (setUnled d) Q E s:=by
 refine ad (Sm.own _ (WM ..)) fun o ho Θ=>?_;dsimp only at ho;obtain⟨hex,es,ep,t,hd,y_,hmem,H4,hf⟩:=Θ;have ο:es.size<scanBound:=by rw[H4];exact hn
 have hf':({t with led:=false}:XN).fits es.size=true:=by cases t;exact hf
 unfold setUnled;refine WL (Yr ho hd hf ?_);dsimp only;refine wpAny_storeSet_of ho hd ?_ (fits_of_scanBound ο);refine av (SetOf_store (knd:=XA d7 w) ho hex hd y_ hmem ο hf') fun O hS=>?_;refine ad hS.objOf fun so' W6 Z9=>?_;rw[H4] at Z9;have P:=Sm.tof1.upd (Upd.here (o':=gm d7 w S n)) (h':=s.heap.update d (Obj.putSet es {t with led:=false})) (tk:=s.toks) (fun b ob hb e=>(XE ..).extBut b ob hb e) rfl rfl ⟨so',W6,Z9⟩;exact hQ _ (Sm.after P.1 P.2) P.2.toF
theorem De{K:Frag}{c1 c2:Str}{k1 k2:Nat}{p1 p2 p:Pos}{t:Tok}(hc:∀s:WS,K.In s.heap->∀(Q:Bool->WS->Prop),(∀b,Q b s)->Xq (Xn d7 w) A (inMainModule d8) Q E s)
  (Sm:g8 (am K) d8 s Z st) (hQ:∀s',g8 (am K) d8 s' Z st->k8 (aw d8 st) s Z s' Z (aw d8 st)->Q (.bool (x==c1||x==c2)) s') :
  Xq (Xn d7 w) A (Yw (.Set [.Constant (.str c1) k1 p1,.Constant (.str c2) k2 p2] 0 p) d8) (fun b s₂=>KdiMark (Xn d7 w) A E b (fun ž=>Xq (Xn d7 w) A (Zx .In (.str x t) b) Q E ž) s₂) E s:=by
 obtain⟨loc,led⟩:=st;rw[arm_eval_Set];refine WL (XB ?_);refine WL (hc s (cP Sm.base Sm.frozen) _ fun b=>?_);rw[kds_star [.Constant (.str c1) k1 p1,.Constant (.str c2) k2 p2] rfl,YF];refine kds_core (ts:=(evalEach [.Constant (.str c1) k1 p1,.Constant (.str c2) k2 p2] d8).map fun t=>do let v ← t;standAt p;YV v) rfl ?_ ?_ ?_ fun lb=>?_
 ·refine List.findIdx?_eq_none_iff.mpr fun x hx=>?_;refine ad (Xu.mp hx) fun t O O3=>?_;subst O3;rfl
 ·rw[WP,kds_len];show 2<=30;decide
 ·rw[YF];try rfl
 ·have P:=Sm.tof1.push (o:={ cls:=.type "set",dict:=none,data:=.set #[] 0 (.fresh 0 0 lb)}) (ao:=gm d7 w (fun O=>false) 0) rfl s.toks ⟨_,WW _ rfl,PyProof.Rows.setObjOf_fresh lb⟩;have S0:=Sm.after P.1 P.2;refine kds_all p _ _ _ ?_;show Xq (Xn d7 w) A (Yw (.Constant (.str c1) k1 p1) d8) (fun v s'=>Xq (Xn d7 w) A (Yw (.Constant (.str c2) k2 p2) d8) (fun v' z1=>KdsFill (Xn d7 w) A E _ _ _ [v,v'] z1) E s') E _;refine ZD (ZD ?_);have S1:=(S0.toks (s.toks+1)).toks (s.toks+1+1);refine kds_fill_cons (AC (n:=0) (by decide) Upd.here S1 fun s2 S2 X2=>?_);refine kds_fill_cons (AC (n:=1) (by decide) Upd.here S2 fun s3 S3 X3=>?_);refine kds_fill_nil rfl (kdi_mark ?_);have s_:(if (false||decide (c2=c1))=true then 1 else 1+1)<scanBound:=by split <;> decide
  refine HZ s_ S3 fun s4 S4 X4=>?_;refine ad (S4.own _ (WM ..)) fun o ho Θ=>?_;dsimp only at ho;refine wpAny_inSet_of (knd:=XA d7 w) (k:=x) (strKind_is d7 w x t) rfl (Θ.setOf ho s_) ?_;have e:((false||decide (x=c1))||decide (x=c2))=(x==c1||x==c2):=by
   rw[Bool.false_or,ZK,Bool.or_eq_true,Bool.or_eq_true,decide_eq_true_eq,decide_eq_true_eq,beq_iff_eq,beq_iff_eq]
  rw[e];have X:=(((P.2.toF.trans (k8.toks (s.toks+1+1))).trans X2).trans X3).trans X4;exact hQ _ (S4.drop1.toks _) ((X.trans (k8.toks _)).dropF (l:=[_]))
theorem OW{K:Frag}(hc:kdsCode K d8.code=true):∀s:WS,K.In s.heap->∀(Q:Bool->WS->Prop),(∀b,Q b s)->Xq (Xn d7 w) A (inMainModule d8) Q E s:=fun s X Q h=>kds_main X hc h
theorem Fh{K:Frag}{l:Expr}{c1 c2:Str}{k1 k2:Nat}{p1 p2 p:Pos}{whole:Sem Value}{R:Bool->St->Prop}(hc:kdsCode K d8.code=true)(hm:behindInMarks .In (.Set [.Constant (.str c1) k1 p1,.Constant (.str c2) k2 p2] 0 p)=true)
  (h:T d7 w A (am K) d8 Val (Yw l d8) st fun v e9=>∃x,v=.str x/\R (x==c1||x==c2) e9):T d7 w A (am K) d8 aH (isTrue (.Compare l [.In] [.Set [.Constant (.str c1) k1 p1,.Constant (.str c2) k2 p2] 0 p] pos) d8 whole) st R:=fun s Z S Q E hQ=>by
 refine kdi_test hm (h s Z S _ _ fun v y s1 Z1 aE k S1 V X1=>?_);refine ad k ?_;clear k;intro x O2 k;subst O2
 (refine ak V.inv fun t_ e_=>?_;subst e_)
 refine De (OW hc) S1 fun s2 S2 X2=>?_;exact wpAny_truthy_bool (hQ _ _ s2 Z1 aE k S2 rfl (X1.trans X2))
theorem Ff{K:Frag}{l:Expr}{c1 c2:Str}{k1 k2:Nat}{p1 p2 p:Pos}(hc:∀ {E:Value->WS->Prop},∀s:WS,K.In s.heap->∀(Q:Bool->WS->Prop),(∀b,Q b s)->Xq (Xn d7 w) A (inMainModule d8) Q E s)(hm:behindInMarks .In (.Set [.Constant (.str c1) k1 p1,.Constant (.str c2) k2 p2] 0 p)=true)
  (h:T d7 w A (am K) d8 Val (Yw l d8) st fun v e9=>∃x,v=.str x/\R (.bool (x==c1||x==c2)) e9):T d7 w A (am K) d8 Val (Yw (.Compare l [.In] [.Set [.Constant (.str c1) k1 p1,.Constant (.str c2) k2 p2] 0 p] pos) d8) st R:=fun s Z S Q E hQ=>by
 refine kdi_eval hm (h s Z S _ _ fun v y s1 Z1 aE k S1 V X1=>?_);refine ad k ?_;clear k;intro x O2 k;subst O2
 (refine ak V.inv fun t_ e_=>?_;subst e_)
 refine De hc S1 fun s2 S2 X2=>?_;exact hQ _ _ s2 Z1 aE k S2 (.bool _) (X1.trans X2)
theorem uD(hx:x.length<10^5)(h:R (.str (tH x)) st):FC d7 w A B d8 (.blt "str.format") [.str (Str.mk (Yv [9,123,125])),.str x] [] st R :=
 Fy (fun Z t=>Val.eStr fun O=>No hx) h
theorem Fz{z:Str}(hx:x.length<10^5)(hy:y.length<10^5)(hz:z.length<10^5)(h:R (.str (yx x y z)) st):FC d7 w A B d8 (.blt "str.format") [.str (Str.mk (Yv [45,45,45,32,123,125,123,125,123,125])),.str x,.str y,.str z] [] st R :=
 uC (fun Z t=>Val.eStr fun O=>Val.eStr fun O=>Val.eStr fun O=>Nm hx hy hz) h
theorem Vy{z:Str}(hx:x.length<10^5)(hy:y.length<10^5)(hz:z.length<10^5)(h:R (.str (DH x y z)) st):FC d7 w A B d8 (.blt "str.format") [.str (Str.mk (Yv [43,43,43,32,123,125,123,125,123,125])),.str x,.str y,.str z] [] st R :=
 uC (fun Z t=>Val.eStr fun O=>Val.eStr fun O=>Val.eStr fun O=>Nn hx hy hz) h
theorem VC{z:Str}(hx:x.length<10^5)(hy:y.length<10^5)(hz:z.length<10^5)(h:R (.str (DJ x y z)) st):FC d7 w A B d8 (.blt "str.format") [.str (Str.mk (Yv [64,64,32,45,123,125,32,43,123,125,32,64,64,123,125])),.str x,.str y,.str z] [] st R :=
 uC (fun Z t=>Val.eStr fun O=>Val.eStr fun O=>Val.eStr fun O=>Ny hx hy hz) h
theorem Vz{z:Str}(hx:x.length<10^5)(hy:y.length<10^5)(hz:z.length<10^5)(h:R (.str (DI x y z)) st):FC d7 w A B d8 (.blt "str.format") [.str (Str.mk (Yv [42,42,42,32,123,125,123,125,123,125])),.str x,.str y,.str z] [] st R :=
 uC (fun Z t=>Val.eStr fun O=>Val.eStr fun O=>Val.eStr fun O=>Nu hx hy hz) h
theorem VB(hx:x.length<10^5)(hy:y.length<10^5)(h:R (.str (yy x y)) st):FC d7 w A B d8 (.blt "str.format") [.str (Str.mk (Yv [42,42,42,32,123,125,32,42,42,42,42,123,125])),.str x,.str y] [] st R :=
 zo (fun Z t=>Val.eStr fun O=>Val.eStr fun O=>Nw hx hy) h
theorem VA(hx:x.length<10^5)(hy:y.length<10^5)(h:R (.str (lV x y)) st):FC d7 w A B d8 (.blt "str.format") [.str (Str.mk (Yv [45,45,45,32,123,125,32,45,45,45,45,123,125])),.str x,.str y] [] st R :=
 zo (fun Z t=>Val.eStr fun O=>Val.eStr fun O=>Nv hx hy) h
noncomputable abbrev sE:Str:=⟨⟨[]⟩⟩
noncomputable def cW(d:Str):Str:=if d.length=0 then sE else tH d
noncomputable def bw(a:List Str)(i j:Nat):List Str:=(a.drop i).take (j-i)
noncomputable def dN(a b:List Str)(o:Op):List Str :=
 if o.tag=aZ then (bw a o.i1 o.i2).map (Lm ++ ·)
 else (if o.tag=cq∨o.tag=cN then (bw a o.i1 o.i2).map (Ll ++ ·) else [])++(if o.tag=cq∨o.tag=cM then (bw b o.j1 o.j2).map (Lk ++ ·) else [])
noncomputable def Cf:Op:=⟨sE,0,0,0,0⟩
noncomputable def aA(g:List Op):Op:=g.headD Cf
noncomputable def ay(g:List Op):Op:=g.getLastD Cf
noncomputable def tE(a b:List Str)(lt:Str)(g:List Op):List Str:=DJ (bx (aA g).i1 (ay g).i2) (bx (aA g).j1 (ay g).j2) lt::g.flatMap (dN a b)
noncomputable def yk(ff tf fd td lt:Str):List Str:=[yx ff (cW fd) lt,DH tf (cW td) lt]
noncomputable def ek(a b:List Str)(ff tf fd td lt:Str):Bool->List (List Op)->List Str
 |_,[]=>[]
 |started,g::gs=>(if started then [] else yk ff tf fd td lt)++(tE a b lt g++ek a b ff tf fd td lt true gs)
structure p6 (la lb:Nat) (g:List Op):Prop where
 ne:g≠[]
 i:∀o∈g,o.i1<=o.i2/\o.i2<=la
 j:∀o∈g,o.j1<=o.j2/\o.j2<=lb
 ii:(aA g).i1<=(ay g).i2
 jj:(aA g).j1<=(ay g).j2
 len:g.length<10^7
 tg:∀o∈g,o.tag=aZ∨o.tag=cq∨o.tag=cN∨o.tag=cM
theorem p6.split{la lb:Nat}{g:List Op}(h:p6 la lb g):∃os,g=aA g::os:=by
 cases g with
 |nil=>exact absurd rfl h.ne
 |cons o os=>exact⟨os,rfl⟩
theorem p6.last{la lb:Nat}{g:List Op}(h:p6 la lb g):∃os,g=os++[ay g]:=by
 rcases c9 g with h' |⟨l,x,h'⟩
 ·exact absurd h' h.ne
 ·refine⟨l,?_⟩;rw[d3] at h';subst h';simp[ay,List.getLastD_eq_getLast?]
theorem p6.i2{la lb:Nat}{g:List Op}(h:p6 la lb g):(ay g).i2<=la/\(ay g).j2<=lb:=by
 refine ak h.last fun os e=>?_;have hm:ay g∈g:=by
  rw[e];simp
  exact .inr (by rw[← e])
 exact⟨(h.i _ hm).2,(h.j _ hm).2⟩
def y8:Nat->Nat->List ab->Prop
 |_,_,[]=>True
 |i,j,t::ts=>i<=t.1/\j<=t.2.1/\y8 (t.1+t.2.2) (t.2.1+t.2.2) ts
theorem y8.mono{i' j':Nat}{ts:List ab}(h:y8 i j ts)(h1:i'<=i)(h2:j'<=j):y8 i' j' ts :=
 match ts,h with
 | [],_=>trivial
 |_::_,h=>⟨XQ h1 h.1,XQ h2 h.2.1,h.2.2⟩
theorem y8.app{xs ys zs:List ab}(k:∀i j,y8 i j ys->y8 i j zs):∀ {i j:Nat},y8 i j (xs++ys)->y8 i j (xs++zs):=by
 induction xs with
 |nil=>exact k _ _
 |cons x xs ih=>exact fun h=>⟨h.1,h.2.1,ih h.2.2⟩
theorem y8.cut{t:ab}{ys:List ab}(h0:t.2.2=0)(i j:Nat)(h:y8 i j (t::ys)):y8 i j ys :=
 h.2.2.mono (XQ h.1 (Nat.le_add_right ..)) (XQ h.2.1 (Nat.le_add_right ..))
theorem y8.join{s t:ab}{ys:List ab}(e1:s.1+s.2.2=t.1)(e2:s.2.1+s.2.2=t.2.1)(i j:Nat)(h:y8 i j (s::t::ys)):y8 i j ((s.1,s.2.1,s.2.2+t.2.2)::ys) :=
 ⟨h.1,h.2.1,h.2.2.2.2.mono (Nat.le_of_eq (e1▸(Nat.add_assoc ..).symm)) (Nat.le_of_eq (e2▸(Nat.add_assoc ..).symm))⟩
theorem y8.drop{s:ab×List ab}{r:List ab}(h:y8 0 0 (s.2++s.1::r)):y8 0 0 ((if s.1.2.2=0 then s.2 else s.2++[s.1])++r):=by
 split
 ·rename_i h0;exact y8.app (y8.cut h0) h
 ·rw[Xv];exact h
theorem y8.adj(ts:List ab):∀(s:ab×List ab) (r:List ab),y8 0 0 (s.2++s.1::(ts++r))->y8 0 0 (fq (ts.foldl cI s)++r):=by
 induction ts with
 |nil=>exact fun s r h=>h.drop
 |cons t ts ih =>
  intro s r h;rw[Yh];refine ih _ r ?_;unfold cI;split
  ·rename_i hc
   exact y8.app (y8.join hc.1 hc.2) h
  ·exact y8.drop (s:=s) h
theorem y8.of_pairwise{la lb:Nat}{ts:List ab}:∀ {i j:Nat},ts.Pairwise yS->(∀t∈ts,i<=t.1/\j<=t.2.1)->(∀t∈ts,t.1+t.2.2<=la/\t.2.1+t.2.2<=lb)->i<=la->j<=lb->y8 i j (ts++[(la,lb,0)]):=by
 induction ts with
 |nil=>exact fun O O O h1 h2=>⟨h1,h2,trivial⟩
 |cons t ts ih=>exact fun hp hl hu h1 h2 =>
  have p:=ZB.mp hp
  ⟨(hl t (WM ..)).1,(hl t (WM ..)).2,ih p.2 p.1 (fun u hm=>hu u (WO _ hm)) (hu t (WM ..)).1 (hu t (WM ..)).2⟩
theorem SK{fl:Nat->Nat->Nat->Nat->ab}(ok:cn fl)(la lb:Nat):y8 0 0 (aP fl la lb) :=
 y8.adj _ ((0,0,0),[]) _ ⟨Xy _,Xy _,y8.of_pairwise (Cw ok _ _ _ _ _ (Xk _) (Xk _)) (fun t ht=>⟨Xk _,Xk _⟩)
  (fun t ht=>have h:=Cx ok (la-0) 0 la 0 lb (Xk _) (Xk _) t ht;⟨h.2.1,h.2.2.2.1⟩) (Xk _) (Xk _)⟩
def n6:Nat->Nat->List Op->Nat->Nat->Prop
 |i,j,[],i',j'=>i=i'/\j=j'
 |i,j,o::os,i',j'=>o.i1=i/\o.j1=j/\i<=o.i2/\j<=o.j2/\n6 o.i2 o.j2 os i' j'
theorem n6.nil:n6 i j [] i j:=⟨rfl,rfl⟩
theorem n6.one{o:Op}(h1:o.i1<=o.i2)(h2:o.j1<=o.j2):n6 o.i1 o.j1 [o] o.i2 o.j2:=⟨rfl,rfl,h1,h2,.nil⟩
theorem n6.append{xs ys:List Op}{m i' j':Nat}(h':n6 m n ys i' j'):∀ {i j:Nat},n6 i j xs m n->n6 i j (xs++ys) i' j':=by
 induction xs with
 |nil=>exact fun h=>h.1▸h.2▸h'
 |cons x xs ih=>exact fun h=>⟨h.1,h.2.1,h.2.2.1,h.2.2.2.1,ih h.2.2.2.2⟩
theorem n6.snoc{xs:List Op}{o:Op}{m:Nat}(p:n6 i j xs m k)(h:o.i1=m)(h':o.j1=k)(l1:o.i1<=o.i2)(l2:o.j1<=o.j2):n6 i j (xs++[o]) o.i2 o.j2:=n6.append (show n6 m k [o] _ _ from⟨h,h',h▸l1,h'▸l2,rfl,rfl⟩) p
theorem n6.split{xs ys:List Op}{i' j':Nat}:∀ {i j:Nat},n6 i j (xs++ys) i' j'->∃m n,n6 i j xs m n/\n6 m n ys i' j':=by
 induction xs with
 |nil=>exact fun h=>dF _ _ .nil h
 |cons x xs ih=>exact fun h=>bt (ih h.2.2.2.2) fun m n h1 h2=>dF m n ⟨h.1,h.2.1,h.2.2.1,h.2.2.2.1,h1⟩ h2
theorem n6.le{xs:List Op}{i' j':Nat}:∀ {i j:Nat},n6 i j xs i' j'->i<=i'/\j<=j':=by
 induction xs with
 |nil=>exact fun h=>⟨Nat.le_of_eq h.1,Nat.le_of_eq h.2⟩
 |cons x xs ih=>exact fun h=>⟨XQ h.2.2.1 (ih h.2.2.2.2).1,XQ h.2.2.2.1 (ih h.2.2.2.2).2⟩
theorem n6.mem{xs:List Op}{i' j':Nat}:∀ {i j:Nat},n6 i j xs i' j'->∀o∈xs,i<=o.i1/\o.i1<=o.i2/\o.i2<=i'/\j<=o.j1/\o.j1<=o.j2/\o.j2<=j':=by
 induction xs with
 |nil=>exact fun O=>cw
 |cons x xs ih=>exact fun h o ho=>(WT.mp ho).elim (fun e=>e▸⟨Nat.le_of_eq h.1.symm,h.1▸h.2.2.1,h.2.2.2.2.le.1,Nat.le_of_eq h.2.1.symm,h.2.1▸h.2.2.2.1,h.2.2.2.2.le.2⟩) fun ho =>
  have r:=ih h.2.2.2.2 o ho
  ⟨XQ h.2.2.1 r.1,r.2.1,r.2.2.1,XQ h.2.2.2.1 r.2.2.2.1,r.2.2.2.2⟩
theorem So{ai bj:Nat}(a1:i<=ai)(a2:j<=bj):n6 i j (dA i ai j bj) ai bj:=by
 unfold dA;split
 ·exact⟨rfl,rfl,a1,a2,rfl,rfl⟩
 ·split
  ·exact⟨rfl,rfl,a1,a2,rfl,rfl⟩
  ·split
   ·exact⟨rfl,rfl,a1,a2,rfl,rfl⟩
   ·rename_i q1 q2
    exact⟨Nat.le_antisymm a1 (Nat.not_lt.mp q1),Nat.le_antisymm a2 (Nat.not_lt.mp q2)⟩
theorem OJ(t:ab):n6 t.1 t.2.1 (eN t) (t.1+t.2.2) (t.2.1+t.2.2):=by
 unfold eN;split
 ·rename_i h
  exact⟨h▸rfl,h▸rfl⟩
 ·exact⟨rfl,rfl,Nat.le_add_right ..,Nat.le_add_right ..,rfl,rfl⟩
theorem Mm(ts:List ab):∀(s:(Nat×Nat)×List Op),y8 s.1.1 s.1.2 ts->n6 0 0 s.2 s.1.1 s.1.2->n6 0 0 (ts.foldl cu s).2 (ts.foldl cu s).1.1 (ts.foldl cu s).1.2:=by
 induction ts with
 |nil=>exact fun O O h=>h
 |cons t ts ih=>exact fun s ha h=>ih (cu s t) ha.2.2 (n6.append (OJ t) (n6.append (So ha.1 ha.2.1) h))
theorem Mo:∀(ts:List ab) (s:(Nat×Nat)×List Op) (la lb:Nat),((ts++[(la,lb,0)]).foldl cu s).1=(la,lb):=fun ts s la lb=>by
 rw[List.foldl_append];rfl
theorem Cd{fl:Nat->Nat->Nat->Nat->ab}(ok:cn fl)(la lb:Nat):n6 0 0 (bN (aP fl la lb)) la lb:=by
 have h:=Mm (aP fl la lb) ((0,0),[]) (SK ok la lb) .nil;rw[show ((aP fl la lb).foldl cu ((0,0),[])).1=(la,lb) from Mo _ _ _ _] at h;exact h
def N6(la lb:Nat)(g:List Op):Prop:=∃i j i' j',n6 i j g i' j'/\i'<=la/\j'<=lb
theorem qO(f:Op->Op)(z:Op)(xs:List Op):dx f (xs++[z])=xs++[f z]:=by
 induction xs with
 |nil=>rfl
 |cons x xs ih =>
  cases xs with
  |nil=>rfl
  |cons y xs=>exact congrArg (List.cons x) ih
theorem qm{P:List α->Prop}(xs:List α)(n:P [])(c:∀l x,P (l++[x])):P xs :=
 (c9 xs).elim (fun e=>e▸n) fun⟨l,x,e⟩=>(e.trans (d3 ..))▸c l x
theorem max_le{a b:Nat}(h:a<=b):max a (b-n)<=b:=Nat.max_le.mpr ⟨h,Nat.sub_le ..⟩
theorem le_min{a b:Nat}(h:a<=b):a<=min b (a+n):=Nat.le_min.mpr ⟨h,Nat.le_add_right ..⟩
theorem N6.head{la lb:Nat}{g:List Op}(h:N6 la lb g):N6 la lb (kb (cG n) g):=by
 cases g with
 |nil=>exact h
 |cons o os =>
  refine cA h fun i j i' j' hp h1 h2=>?_;show N6 la lb (cG n o::os);unfold cG;split
  ·exact gg _ _ i' j' ⟨rfl,rfl,max_le (hp.1▸hp.2.2.1),max_le (hp.2.1▸hp.2.2.2.1),hp.2.2.2.2⟩ h1 h2
  ·exact h
theorem N6.last{la lb:Nat}{g:List Op}:N6 la lb g->N6 la lb (dx (cF n) g) :=
 qm (P:=fun g=>N6 la lb g->N6 la lb (dx (cF n) g)) g (fun h=>h) fun l x h=>by
  rw[qO];refine cA h fun i j i' j' hp h1 h2=>bt hp.split fun m k p1 p2=>?_;unfold cF;split
  ·exact gg i j _ _ (p1.snoc p2.1 p2.2.1 (le_min (p2.1▸p2.2.2.1)) (le_min (p2.2.1▸p2.2.2.2.1))) (XQ (Nat.min_le_left ..) (XQ p2.2.2.2.2.le.1 h1)) (XQ (Nat.min_le_left ..) (XQ p2.2.2.2.2.le.2 h2))
  ·exact h
theorem yn{Q:List Op->Prop}{I:List Op->List Op->Prop}(done:∀group,I group []->group≠[]->Q group)
  (cut:∀group o os,I group (o::os)->Q (group++[⟨o.tag,o.i1,min o.i2 (o.i1+n),o.j1,min o.j2 (o.j1+n)⟩])/\I [⟨o.tag,max o.i1 (o.i2-n),o.i2,max o.j1 (o.j2-n),o.j2⟩] os)
  (keep:∀group o os,I group (o::os)->I (group++[o]) os) (codes:List Op):∀group,I group codes->∀g∈cQ n group codes,Q g:=by
 induction codes with
 |nil=>exact fun group h=>lT (P:=fun l=>∀g∈l,Q g) (fun O=>cw) (fun O=>cw) fun t0 O g hg=>Xi.mp hg▸done group h fun e=>t0 (e▸rfl)
 |cons o os ih=>exact fun group h=>yo (P:=fun l=>∀g∈l,Q g) (fun O g hg=>(WT.mp hg).elim (fun e=>e▸(cut group o os h).1) (ih _ (cut group o os h).2 g)) fun O=>ih _ (keep group o os h)
theorem EJ(xs:List α)(y:α)(zs:List α):xs++[y]++zs=xs++y::zs:=Xv ..
theorem Na{xs:List α}{y:α}:xs++[y]≠[]:=fun e=>nomatch (List.append_eq_nil_iff.mp e).2
theorem PF{la lb:Nat}{codes:List Op}(h:N6 la lb codes)(t0:codes≠[]):∀g∈bL n codes,g≠[]/\N6 la lb g:=by
 unfold bL fB;rw[List.isEmpty_eq_false_iff.mpr t0];refine yn (Q:=fun g=>g≠[]/\N6 la lb g) (I:=fun group codes=>N6 la lb (group++codes)) (fun group h hn=>⟨hn,Yi group▸h⟩) (fun group o os h=>?_) (fun group o os h=>(EJ ..).symm▸h) _ [] ((h.head (n:=n)).last (n:=n));refine cA h fun i j i' j' hp h1 h2=>bt hp.split fun m k p1 p2=>?_;exact⟨⟨Na,gg i j _ _ (p1.snoc p2.1 p2.2.1 (le_min (p2.1▸p2.2.2.1)) (le_min (p2.2.1▸p2.2.2.2.1))) (XQ (Nat.min_le_left ..) (XQ p2.2.2.2.2.le.1 h1)) (XQ (Nat.min_le_left ..) (XQ p2.2.2.2.2.le.2 h2))⟩,
  gg _ _ i' j' ⟨rfl,rfl,max_le (p2.1▸p2.2.2.1),max_le (p2.2.1▸p2.2.2.2.1),p2.2.2.2.2⟩ h1 h2⟩
theorem Do{l:Nat}:cQ n [] [cF n (cG n ⟨aZ,i,k,j,l⟩)]=[]:=by
 unfold cG cF;rw[if_pos rfl,if_pos rfl];exact if_neg fun h=>Nat.not_lt.mpr (XQ (Nat.min_le_right ..) (Nat.add_le_add_left (Nat.le_add_right ..) _)) h.2
theorem Dn:bL n []=[]:=Do
theorem PA{fl:Nat->Nat->Nat->Nat->ab}(ok:cn fl)(la lb n:Nat):∀g∈bL n (bN (aP fl la lb)),g≠[]/\N6 la lb g:=by
 by_cases h:bN (aP fl la lb)=[]
 ·rw[h,Dn];exact cw
 ·exact PF ⟨0,0,la,lb,Cd ok la lb,Xy _,Xy _⟩ h
theorem MI(f:Op->Op)(xs:List Op):(dx f xs).length=xs.length :=
 qm (P:=fun xs=>(dx f xs).length=xs.length) xs rfl fun l x=>by rw[qO,WV,WV];rfl
theorem ML(f:Op->Op)(xs:List Op):(kb f xs).length=xs.length:=by cases xs <;> rfl
theorem vy(codes:List Op):(fB n codes).length<=codes.length+1:=by
 unfold fB;rw[MI,ML];split
 ·exact Nat.le_add_left ..
 ·exact Nat.le_succ _
theorem PE{codes:List Op}:∀g∈bL n codes,g.length<=codes.length+2 :=
 yn (Q:=fun g=>g.length<=codes.length+2) (I:=fun group cs=>group.length+cs.length<=codes.length+1) (fun group h O=>Nat.le_succ_of_le h)
  (fun group o os h=>by
   rw[WV];rw[WU] at h ⊢;exact⟨by show _+1<=_;omega,by show 1+_<=_;omega⟩)
  (fun group o os h=>by
   rw[WV];rw[WU] at h;show _+1+_<=_;omega) _ [] (Nat.zero_add _▸vy codes)
def um(t:Str):Prop:=t=aZ∨t=cq∨t=cN∨t=cM
def j8(os:List Op):Prop:=∀o∈os,um o.tag
theorem j8.app{xs ys:List Op}(h:j8 xs)(h':j8 ys):j8 (xs++ys):=fun o ho=>(XR.mp ho).elim (h o) (h' o)
theorem j8.one{o:Op}(h:um o.tag):j8 [o]:=fun p hp=>Xi.mp hp▸h
theorem j8.none:j8 []:=cw
theorem j8.hd{o:Op}{os:List Op}(h:j8 (o::os)):um o.tag:=h o (WM ..)
theorem j8.tl{o:Op}{os:List Op}(h:j8 (o::os)):j8 os:=fun p hp=>h p (WO _ hp)
theorem Mp(bs:List ab):j8 (bN bs):=by
 have key:∀(ts:List ab) (s:(Nat×Nat)×List Op),j8 s.2->j8 (ts.foldl cu s).2:=by
  intro ts;induction ts with
  |nil=>intro s h;exact h
  |cons t ts ih =>
   intro s h;rw[Yh];refine ih _ ((h.app ?_).app ?_)
   ·unfold dA;split
    ·exact .one (.inr (.inl rfl))
    ·split
     ·exact .one (.inr (.inr (.inl rfl)))
     ·split
      ·exact .one (.inr (.inr (.inr rfl)))
      ·exact .none
   ·unfold eN;split
    ·exact .none
    ·exact .one (.inl rfl)
 exact key bs ((0,0),[]) .none
theorem Dl(n:Nat)(o:Op):(cG n o).tag=o.tag:=by unfold cG;split <;> rfl
theorem CQ(n:Nat)(o:Op):(cF n o).tag=o.tag:=by unfold cF;split <;> rfl
theorem MJ{os:List Op}(h:j8 os):j8 (kb (cG n) os):=by
 cases os with
 |nil=>exact h
 |cons o os=>exact j8.app (.one (Dl n o▸h.hd)) h.tl
theorem MG{os:List Op}:j8 os->j8 (dx (cF n) os) :=
 qm (P:=fun os=>j8 os->j8 (dx (cF n) os)) os (fun h=>h) fun l x h=>by
  rw[qO];exact j8.app (fun o ho=>h o (Yc _ ho)) (.one (CQ n x▸h x (Xx _ (Xi.mpr rfl))))
theorem PC{codes:List Op}(h:j8 codes):∀g∈bL n codes,j8 g:=by
 refine yn (Q:=j8) (I:=fun group cs=>j8 group/\j8 cs) (fun group h O=>h.1) (fun group o os h=>⟨h.1.app (.one h.2.hd),.one h.2.hd,h.2.tl⟩) (fun group o os h=>⟨h.1.app (.one h.2.hd),h.2.tl⟩) _ [] ⟨.none,?_⟩;unfold fB;refine MG (MJ ?_);split
 ·exact .one (.inl rfl)
 ·exact h
noncomputable def dK(idx:Nat->List Nat):Nat->Nat->Nat
 |0,_=>0
 |i+1,j=>Nat.rec 0 (fun j O=>if j∈idx i then dK idx i j+1 else 0) j
section
variable{idx:Nat->List Nat}
theorem gZ(h:j∈idx i):dK idx (i+1) (j+1)=dK idx i j+1:=if_pos h
theorem vO(h:j∉idx i):dK idx (i+1) (j+1)=0:=if_neg h
theorem Jf(h:∀i j,j∈idx i->i∈idx i/\j∈idx j)(i:Nat):∀j:Nat,dK idx i j<=dK idx i i/\dK idx i j<=dK idx j j:=by
 induction i with
 |zero=>exact fun j=>⟨Xk _,Xk _⟩
 |succ i ih =>
  intro j;cases j with
  |zero=>exact⟨Xk _,Xk _⟩
  |succ j =>
   by_cases c:j∈idx i
   ·rw[gZ c,gZ (h i j c).1,gZ (h i j c).2];exact⟨Nat.succ_le_succ (ih j).1,Nat.succ_le_succ (ih j).2⟩
   ·rw[vO c];exact⟨Xk _,Xk _⟩
structure k_ (idx:Nat->List Nat) (i:Nat) (s:(Int->Nat)×ab):Prop where
 row:∀y:Nat,s.1 ((y:Int)-1)=dK idx i y
 on:s.2.1=s.2.2.1
 ge:∀d,d<=i->dK idx d d<=s.2.2.2
theorem yu{D:Int->Nat}{x:Int}(js:List Nat):∀s:(Int->Nat)×ab,(∀j∈js,x≠(j:Int))->(js.foldl (dc D i) s).1 x=s.1 x:=by
 induction js with
 |nil=>exact fun O O=>rfl
 |cons j js ih=>exact fun s h=>(ih _ fun j' h'=>h j' (WO _ h')).trans (if_neg (h j (WM ..)))
theorem Qh{D:Int->Nat}(js:List Nat):∀s:(Int->Nat)×ab,k∈js->(js.foldl (dc D i) s).1 (k:Int)=D ((k:Int)-1)+1:=by
 induction js with
 |nil=>exact fun O=>nofun
 |cons j js ih =>
  intro s h;by_cases c:k∈js
  ·exact ih _ c
  ·have q:=(WT.mp h).resolve_right c;subst q;exact(yu js _ fun j' h' e=>c ((Int.ofNat.inj e:k=j')▸h')).trans (if_pos rfl)
structure W2 (idx:Nat->List Nat) (i:Nat) (js:List Nat) (t:ab):Prop where
 on:t.1=t.2.1
 ge:∀d,d<=i->dK idx d d<=t.2.2
 at_:i∈idx i->i∈js∨dK idx (i+1) (i+1)<=t.2.2
theorem W2.fold(h:∀i j,j∈idx i->i∈idx i/\j∈idx j){D:Int->Nat}(hD:∀y:Nat,D ((y:Int)-1)=dK idx i y)(js:List Nat):∀s:(Int->Nat)×ab,js.Pairwise (· < ·)->(∀j∈js,j∈idx i)->W2 idx i js s.2->W2 idx i [] (js.foldl (dc D i) s).2:=by
 induction js with
 |nil=>exact fun O O O h=>h
 |cons j js ih =>
  intro s hp hm e;have hj:=hm j (WM ..);have p:=ZB.mp hp;refine ih _ p.2 (fun j' h'=>hm j' (WO _ h')) ?_;show W2 idx i js (if s.2.2.2<D ((j:Int)-1)+1 then (i-D ((j:Int)-1),j-D ((j:Int)-1),D ((j:Int)-1)+1) else s.2);rw[hD];split
  ·rename_i c
   have g:=Jf h (i+1) (j+1);rw[gZ hj] at g;have n1 : ¬ j<i:=fun q=>Nat.not_le.mpr c (XQ g.2 (e.ge _ q));have n2 : ¬ i<j:=fun q=>(e.at_ (h i j hj).1).elim (fun m=>(WT.mp m).elim (fun m=>Ys q m) fun m=>Nat.lt_asymm q (p.1 i m)) fun m=>Nat.not_le.mpr c (XQ g.1 m);have q:=Nat.le_antisymm (Nat.not_lt.mp n1) (Nat.not_lt.mp n2);subst q;exact⟨rfl,fun d hd=>YO (Nat.lt_of_le_of_lt (e.ge d hd) c),fun O => .inr (Nat.le_of_eq (gZ hj))⟩
  ·rename_i c
   exact⟨e.on,e.ge,fun q=>(e.at_ q).elim (fun m=>(WT.mp m).elim (fun m => .inr (by subst m;exact XQ (Nat.le_of_eq (gZ q)) (Nat.not_lt.mp c))) .inl) .inr⟩
theorem k_.scan(J7:∀i,(idx i).Pairwise (· < ·))(h:∀i j,j∈idx i->i∈idx i/\j∈idx j)(hb:∀i j,j∈idx i->j<n)(m:Nat):∀(i:Nat) (s:(Int->Nat)×ab),k_ idx i s->k_ idx (i+m) (ej idx 0 n (Yk i m) s):=by
 induction m with
 |zero=>exact fun O O h=>h
 |succ m ih =>
  intro i s d;have hw:∀j,j∈within 0 n (idx i)↔j∈idx i:=fun j=>⟨fun q=>(YZ.mp q).1,fun q=>YZ.mpr ⟨q,Bool.and_eq_true_iff.mpr ⟨decide_eq_true (Xk _),decide_eq_true (hb i j q)⟩⟩⟩;have e:=W2.fold h d.row (within 0 n (idx i)) (fun O=>0,s.2) ((J7 i).filter _) (fun j q=>(hw j).mp q) ⟨d.on,d.ge,fun q => .inl ((hw i).mpr q)⟩;refine(Nat.succ_add_eq_add_succ i m)▸ih (i+1) _ ⟨fun y=>?_,e.on,fun k hk=>?_⟩
  ·cases y with
   |zero=>exact yu _ _ fun j O q=>nomatch q
   |succ y =>
    rw[show ((y+1:Nat):Int)-1=(y:Int) from Int.add_sub_cancel (y:Int) 1];by_cases c:y∈idx i
    ·exact(Qh _ _ ((hw y).mpr c)).trans ((congrArg Nat.succ (d.row y)).trans (gZ c).symm)
    ·exact(yu _ _ fun j q z=>c ((Int.ofNat.inj z:y=j)▸(hw j).mp q)).trans (vO c).symm
  ·refine(Nat.lt_or_eq_of_le hk).elim (fun q=>e.ge k (Nat.le_of_lt_succ q)) fun q=>q▸?_;by_cases c:i∈idx i
   ·exact(e.at_ c).resolve_left nofun
   ·rw[vO c];exact Xk _
theorem IX(J7:∀i,(idx i).Pairwise (· < ·))(h:∀i j,j∈idx i->i∈idx i/\j∈idx j)(hb:∀i j,j∈idx i->j<n)(m:Nat) :
  (ej idx 0 n (Yk 0 m) (fun O=>0,(0,0,0))).2.1=(ej idx 0 n (Yk 0 m) (fun O=>0,(0,0,0))).2.2.1 :=
 (k_.scan J7 h hb m 0 (fun O=>0,(0,0,0)) ⟨fun y=>rfl,rfl,fun d hd=>by cases Nat.le_zero.mp hd;exact Xy _⟩).on
end
def k9(e:Nat->Nat->Bool)(t:ab):Prop:=∀d,d<t.2.2->e (t.1+d) (t.2.1+d)=true
section
variable{idx:Nat->List Nat}{alo g4 f2 f6:Nat}
theorem k9.none:k9 e (i,j,0):=nofun
theorem k9.snoc(h:k9 e (i,j,k))(h':e (i+k) (j+k)=true):k9 e (i,j,k+1):=fun d hd =>
 (Nat.lt_succ_iff_lt_or_eq.mp hd).elim (h d) fun q=>q▸h'
theorem k9.cons(h:k9 e (i+1,j+1,k))(h':e i j=true):k9 e (i,j,k+1):=fun d hd =>
 match d,hd with
 |0,_=>h'
 |d+1,hd=>(Nat.succ_add_eq_add_succ i d)▸(Nat.succ_add_eq_add_succ j d)▸h d (Nat.lt_of_succ_lt_succ hd)
def u5(e:Nat->Nat->Bool)(i:Nat)(D:Int->Nat):Prop:=∀y p q:Nat,p+D ((y:Int)-1)=i->q+D ((y:Int)-1)=y->k9 e (p,q,D ((y:Int)-1))
theorem u5.start{D:Int->Nat}(h:∀x,D x=0):u5 e i D:=fun y p q O O=>(h ((y:Int)-1)).symm▸.none
theorem RX{y:Nat}(h:(y:Int)-1=(j:Int)):y=j+1:=by omega
theorem u5.inner{s:(Int->Nat)×ab}(hs:p9 alo f2 f6 i s)(hr:u5 e i s.1)(hi:alo<=i)(js:List Nat):∀s2:(Int->Nat)×ab,(∀j∈js,f2<=j/\e i j=true)->u5 e (i+1) s2.1/\k9 e s2.2 ->
  u5 e (i+1) (js.foldl (dc s.1 i) s2).1/\k9 e (js.foldl (dc s.1 i) s2).2:=by
 induction js with
 |nil=>exact fun O O h=>h
 |cons j js ih =>
  intro s2 hj h;have g:=hj j (WM ..);have l:=hs.len hi g.1;refine ih _ (fun j' h'=>hj j' (WO _ h')) ⟨fun y p q=>?_,?_⟩
  ·show p+(if (y:Int)-1=(j:Int) then _ else _)=_->q+(if (y:Int)-1=(j:Int) then _ else _)=_->k9 e (p,q,if (y:Int)-1=(j:Int) then _ else _);split
   ·rename_i c
    rw[RX c];intro h1 h2;have h1:p+s.1 ((j:Int)-1)=i:=Nat.succ.inj h1;have h2:q+s.1 ((j:Int)-1)=j:=Nat.succ.inj h2;exact .snoc (hr j p q h1 h2) (h1.symm▸h2.symm▸g.2)
   ·exact h.1 y p q
  ·show k9 e (if _ then _ else _);have k1:=Nat.sub_add_cancel (XQ l.1 (Nat.sub_le ..));have k2:=Nat.sub_add_cancel (XQ l.2 (Nat.sub_le ..));split
   ·exact .snoc (hr j _ _ k1 k2) (k1.symm▸k2.symm▸g.2)
   ·exact h.2
theorem u5.scan(hi:∀i j,j∈idx i->e i j=true)(n:Nat):∀(i:Nat) (s:(Int->Nat)×ab),alo<=i->p9 alo f2 f6 i s->u5 e i s.1/\k9 e s.2->k9 e (ej idx f2 f6 (Yk i n) s).2:=by
 induction n with
 |zero=>exact fun O O O O h=>h.2
 |succ n ih=>exact fun i s hl hs h=>ih (i+1) (eZ (idx i) f2 f6 i s) (Nat.le_succ_of_le hl) (AP (idx i) hs hl) (u5.inner hs h.1 hl _ _ (fun j hj=>⟨(zO hj).1,hi i j (YZ.mp hj).1⟩) ⟨.start fun O=>rfl,h.2⟩)
theorem IW(hi:∀i j,j∈idx i->e i j=true)(h:f2<=f6)(n:Nat):k9 e (ej idx f2 f6 (Yk alo n) (fun O=>0,(alo,f2,0))).2 :=
 u5.scan hi n alo _ (Xy _) (p9.start h) ⟨.start fun O=>rfl,.none⟩
def Fm(e:Nat->Nat->Bool)(alo f2:Nat)(t:ab):Prop := ¬ (alo<t.1/\f2<t.2.1/\e (t.1-1) (t.2.1-1)=true)
theorem lZ{a b:Prop}[Decidable a][Decidable b]{c:Bool}:((decide a&&(decide b&&c))=true)↔a/\b/\c=true:=by
 rw[Bool.and_eq_true_iff,Bool.and_eq_true_iff,decide_eq_true_iff,decide_eq_true_iff]
theorem Rc(i:Nat):∀j k:Nat,k9 e (i,j,k)->k9 e (bB e alo f2 i j k)/\Fm e alo f2 (bB e alo f2 i j k):=by
 induction i with
 |zero=>exact fun j k h=>⟨h,fun q=>absurd q.1 (Nat.not_lt_zero _)⟩
 |succ i ih =>
  intro j k h;cases j with
  |zero=>exact⟨h,fun q=>absurd q.2.1 (Nat.not_lt_zero _)⟩
  |succ j =>
   rw[bB];split
   ·rename_i hc
    exact ih j (k+1) (.cons h (lZ.mp hc).2.2)
   ·rename_i hc
    exact⟨h,fun q=>hc (lZ.mpr q)⟩
theorem QY(f:Nat):∀k:Nat,g4<=i+k+f->k9 e (i,j,k)->k9 e (i,j,cj e g4 f6 i j f k) /\ ¬ (i+cj e g4 f6 i j f k<g4/\j+cj e g4 f6 i j f k<f6/\e (i+cj e g4 f6 i j f k) (j+cj e g4 f6 i j f k)=true):=by
 induction f with
 |zero=>exact fun k hf h=>⟨h,fun q=>absurd q.1 (Nat.not_lt.mpr hf)⟩
 |succ f ih =>
  intro k hf h;rw[cj];split
  ·rename_i hc
   exact ih (k+1) (Nat.add_assoc i k 1▸(Nat.succ_add_eq_add_succ (i+k) f).symm▸hf) (.snoc h (lZ.mp hc).2.2)
  ·rename_i hc
   exact⟨h,fun q=>hc (lZ.mpr q)⟩
structure L4 (e:Nat->Nat->Bool) (fl:Nat->Nat->Nat->Nat->ab):Prop where
 run:∀alo g4 f2 f6,alo<=g4->f2<=f6->k9 e (fl alo g4 f2 f6)
 left:∀alo g4 f2 f6,alo<=g4->f2<=f6->Fm e alo f2 (fl alo g4 f2 f6)
 right:∀alo g4 f2 f6,alo<=g4->f2<=f6 -> ¬ ((fl alo g4 f2 f6).1+(fl alo g4 f2 f6).2.2<g4/\(fl alo g4 f2 f6).2.1+(fl alo g4 f2 f6).2.2<f6/\e ((fl alo g4 f2 f6).1+(fl alo g4 f2 f6).2.2) ((fl alo g4 f2 f6).2.1+(fl alo g4 f2 f6).2.2)=true)
theorem QC(hi:∀i j,j∈idx i->e i j=true):L4 e (bQ e idx):=by
 have k1:=fun alo g4 f2 f6 (h2:f2<=f6) =>
  have s:=IW (e:=e) (idx:=idx) (alo:=alo) hi h2 (g4-alo)
  Rc (alo:=alo) (f2:=f2) _ _ _ s
 have k2:=fun alo g4 f2 f6 (h2:f2<=f6)=>QY (g4:=g4) (f6:=f6) _ _ (gV ..) (k1 alo g4 f2 f6 h2).1;exact⟨fun a b c d O h2=>(k2 a b c d h2).1,fun a b c d O h2=>(k1 a b c d h2).2,fun a b c d O h2=>(k2 a b c d h2).2⟩
end
theorem OZ(a b:List Str):∀i j,j∈aQ a b i->aB a b i j=true:=fun i j h=>by
 unfold aQ at h;unfold aB;cases hx:a[i]? with
 |none=>rw[hx] at h;cases h
 |some x =>
  rw[hx] at h;have h:j∈bd b x:=h;unfold bd at h;split at h
  ·cases h
  ·have:=(YZ.mp h).2;rw[beq_iff_eq] at this;rw[this];simp
theorem OY(a b:List Str):∀i,(aQ a b i).Pairwise (· < ·):=fun i=>by
 unfold aQ;cases a[i]? with
 |none=>exact .nil
 |some x=>exact Dj b x
theorem DM(a b:List Str):L4 (aB a b) (bQ (aB a b) (aQ a b)):=QC (OZ a b)
theorem Rh(he:∀i,e i i=true)(i:Nat):∀k:Nat,bB e 0 0 i i k=(0,0,k+i):=by
 induction i with
 |zero=>exact fun k=>rfl
 |succ i ih=>exact fun k=>(if_pos (lZ.mpr ⟨Nat.succ_pos i,Nat.succ_pos i,he i⟩)).trans ((ih (k+1)).trans (Nat.succ_add_eq_add_succ k i▸rfl))
theorem Ra(he:∀i,e i i=true)(f:Nat):∀k:Nat,k+f=n->cj e n n 0 0 f k=n:=by
 induction f with
 |zero=>exact fun k h=>h
 |succ f ih=>exact fun k h=>(if_pos (lZ.mpr ⟨show 0+k<n from(Nat.zero_add k).symm▸h▸Nat.lt_add_of_pos_right (Nat.succ_pos f),show 0+k<n from(Nat.zero_add k).symm▸h▸Nat.lt_add_of_pos_right (Nat.succ_pos f),he _⟩)).trans (ih (k+1) ((Nat.succ_add_eq_add_succ k f).trans h))
theorem QD{idx:Nat->List Nat}(he:∀i,e i i=true)(J7:∀i,(idx i).Pairwise (· < ·))(h:∀i j,j∈idx i->i∈idx i/\j∈idx j)(hb:∀i j,j∈idx i->j<n):bQ e idx 0 n 0 n=(0,0,n):=by
 have hd:=IX J7 h hb (n-0);have hs:=AL (idx:=idx) (f6:=n) (n-0) 0 (fun O=>0,(0,0,0)) (Xy _) (p9.start (Xk n));unfold bQ;dsimp only;generalize (ej idx 0 n (Yk 0 (n-0)) (fun O=>0,(0,0,0)))=s at hd hs;obtain⟨D,si,sj,sk⟩:=s;have c2:=hs.b4;dsimp only at hd c2 ⊢;subst hd;rw[Rh he];exact congrArg (fun x=>(0,0,x)) (Ra he _ _ (show sk+si+(n-(0+(sk+si)))=n from(Nat.zero_add (sk+si)).symm▸Nat.add_sub_cancel' (Nat.add_comm si sk▸c2)))
theorem Dh{a:List Str}(h:j∈aQ a a i):∃x,a[i]?=some x/\a[j]?=some x/\∀y,a[y]?=some x->y∈aQ a a y:=by
 unfold aQ at h;cases hx:a[i]? with
 |none=>rw[hx] at h;cases h
 |some x =>
  rw[hx] at h;have h:j∈bd a x:=h;unfold bd at h;split at h
  ·cases h
  ·rename_i hp
   refine⟨x,rfl,beq_iff_eq.mp (YZ.mp h).2,fun y hy=>?_⟩;unfold aQ;rw[hy];show y∈bd a x;unfold bd;rw[if_neg hp];exact YZ.mpr ⟨List.mem_range.mpr (ZF.mp hy).1,beq_iff_eq.mpr hy⟩
theorem QE(a:List Str):bQ (aB a a) (aQ a a) 0 a.length 0 a.length=(0,0,a.length) :=
 QD (fun i=>beq_iff_eq.mpr rfl) (OY a a) (fun i j h=>aU (Dh h) fun x h1 h2 m=>⟨m i h1,m j h2⟩) fun i j h=>aU (Dh h) fun x O h2 O=>(ZF.mp h2).1
section
variable{N:aa}
theorem FW{g:Nat}{gs:ZQ}{gl led:aa}(hG:m3 B)(h0:t6 d7 w B N n f0 gl gs)
  (h:(∀x p,g5 d7 w B N (n+1) (.Name x p) a f0 ((a,.gen g gs)::gl))->R (.ref a) ⟨loc,((a,.gen g gs)::gl)++led⟩) :
  F1 d7 w A B d8 Val pyIter (.ref a) ⟨loc,((a,.gen g gs)::gl)++led⟩ R:=F1.of fun s Z S Q E hQ=>Val.eRef <| by
 have hg:=(S.own _ (WM ..)).1;exact wpAny_pyIter_gen hg (hQ _ _ s Z _ (h (fun x p=>g5.gen hG (fun O O O O O O O O A Q E hq=>WN hq) h0)) S (.ref _) .refl)
theorem uG{a b:Str}(hsz:a.length+b.length<10^6)(h:K (.str (a++b)) st):F2 d7 w A B d8 Val (binaryOp .Add) (.str a) (.str b) st K :=
 Wk (XQ (YO hsz) (by decide)) h
theorem T.to{rel:f9->α->β->Prop}{t:Sem β}{K:α->St->Prop}(v0:α)(h:T d7 w A B d8 rel t st fun v e9=>v=v0/\e9=st)(k:K v0 st):T d7 w A B d8 rel t st K :=
 h.mono fun v e9 q=>by refine av q fun O1 O2=>?_;clear q;subst O1;subst O2;exact k
theorem yX{m:Nat}{px:Pos}{e:Expr}{D1 C_:Pos}{tl:List Stmt}{L:AV->List (Str×AV)}{l:aa}{xs:List Str}{f:Str->Str}{rest:List AV}{u:AV}{K:g6->St->List AV->Prop}(hm:5<=m)
  (hx:d8.kindOf x=some .local) (D_:∀u v,cg (L u) x v=L v)
  (p8:∀A,g7 A m->∀led,n7 N led->T d7 w A B d8 Val (Yw iter d8) ⟨L u,l++led⟩ (Gives (L u) (l++led) (.lst (xs.map .str))))
  (hy:∀A,g7 A m->∀l',(∀p∈l,p∈l')->∀y,y∈xs->T d7 w A B d8 Val (Yw e d8) ⟨L (.str y),l'⟩ (Gives (L (.str y)) l' (.str (f y))))
  (hd:∀v,TG d7 w B N n m d8 (execs tl d8) ⟨L v,l⟩ rest K) (hs:∀x,ZI iter d8 x=YV x) (C6:d8.scope.isCoroutine=false) (hi:interactive d8=false) :
  TG d7 w B N n m d8 (execs (.For (.Name x px) iter [.Expr (.Yield (some e) D1) C_] [] pos::tl) d8) ⟨L u,l⟩ ((xs.map f).map .str++rest) K :=
 gJ (k:=5) AV.str (fun ys P=>∀v,(∀y∈ys,y∈xs)->P ⟨L v,l⟩ ((ys.map f).map .str++rest)) hm
  (fun A hA led hN=>(p8 A hA led hN).mono fun v j9 q=>q.rec (gh (k:=5) fun it gl hI => .mk hI ⟨xs,_,rfl,n0.self ⟨L u,l⟩,fun O k=>k u fun y hy=>hy⟩))
  (fun gl y ys v hys => .mk (fun A hA led hN=>bp (zv hx (D_ v _) rfl))
   (fw (l++gl) (fun A hA led hN=>hy A hA _ (fun p hp=>Yc _ (Yc _ hp)) y (hys y (WM ..)))
    (be (.next ⟨ys,_,rfl,n0.self ⟨L (.str y),l⟩,fun O k=>k (.str y) fun y' h'=>hys y' (WO _ h')⟩)) C6 hi))
  (fun v O=>hd v) hs
end
theorem p6.of{la lb:Nat}{g:List Op}(t0:g≠[])(h:N6 la lb g)(j3:g.length<10^7)(htg:j8 g):p6 la lb g:=by
 refine cA h fun i j i' j' hp h1 h2=>?_;clear h;have hm:=hp.mem;have ii:(aA g).i1<=(ay g).i2/\(aA g).j1<=(ay g).j2:=by
  cases g with
  |nil=>exact absurd rfl t0
  |cons o os =>
   have e1:aA (o::os)=o:=rfl;have hl:ay (o::os)∈o::os:=by
    unfold ay;rw[List.getLastD_cons];cases os with
    |nil=>exact WM ..
    |cons p ps=>rw[List.getLastD_eq_getLast?,List.getLast?_eq_some_getLast (List.cons_ne_nil _ _)];exact WO _ (List.getLast_mem _)
   rw[e1];refine zD hp fun q1 q2 q3 q4 q5=>?_;clear hp;have m:=hm _ hl;exact⟨q1▸XQ m.1 m.2.1,q2▸XQ m.2.2.2.1 m.2.2.2.2.1⟩
 exact⟨t0,fun o ho=>⟨(hm o ho).2.1,XQ (hm o ho).2.2.1 h1⟩,fun o ho=>⟨(hm o ho).2.2.2.2.1,XQ (hm o ho).2.2.2.2.2 h2⟩,ii.1,ii.2,j3,htg⟩
theorem ym(a b:List Str)(n:Nat)(ha:a.length<10^5):∀g∈bL n (bN (aP (aN a b) a.length b.length)),p6 a.length b.length g:=fun g hg =>
 have h:=PA (fU (aB a b) (aQ a b)) a.length b.length n g hg
 .of h.1 h.2 (by
  have h1:=PE g hg;have h2:=wy (aP (aN a b) a.length b.length);have h3:(aP (aN a b) a.length b.length).length<=a.length+2:=yI (fU (aB a b) (aQ a b)) a.length b.length;omega) (PC (Mp _) g hg)
theorem qt{a b:Int}(h0:0<=a)(h1:a<=b)(h2:b<10^9):(bx a b).length<100:=by
 have e1:(WR ",").length=1:=by decide +kernel
 have k1:=KT.len_num (n:=a) h0 ⋯;have k2:=KT.len_num (n:=a+1) ⋯ ⋯;have k3:=KT.len_num (n:=b-a) ⋯ ⋯;have k4:=KT.len_num (n:=0) ⋯ ⋯;unfold bx;split
 ·omega
 ·split
  ·simp only[Str.length_append];omega
  ·simp only[Str.length_append];omega
theorem qw{a b:Int}(h0:0<=a)(h1:a<=b)(h2:b<10^9):(bz a b).length<100:=by
 have e1:(WR ",").length=1:=by decide +kernel
 have k1:=KT.len_num (n:=a) h0 ⋯;have k2:=KT.len_num (n:=a+1) ⋯ ⋯;have k3:=KT.len_num (n:=b) ⋯ ⋯;unfold bz;split
 ·omega
 ·split
  ·omega
  ·simp only[Str.length_append];omega
def N8(o:Obj):Prop:=o.cls=.none/\o.dict=none/\o.slots=#[]
theorem N8.map(h:N8 o)(f:Array Value->Array Value):N8 (YY f o):=by
 obtain⟨c,d,dt,sl⟩:=o;cases dt <;> exact h
def ql(q:Str)(Z:f9)(o:Obj):Prop:=(o.isFreed=false/\N8 o)/\∃ps,o.data=.fields ps/\TriplesOk ps.toList/\∀pos cv,c0 pos ps.toList=some cv->∃c oc vs t,cv=.ref c/\Z c=some oc/\oc.data=.fields vs/\vs[1]?=some (.str q t)
theorem HB{q:Str}(Z Z':f9)(o:Obj)(k:f9.le Z Z')(x:ql q Z o):ql q Z' o:=by
 obtain⟨hf,ps,h1,h2,h3⟩:=x;refine⟨hf,ps,h1,h2,fun pos cv e=>?_⟩;refine cA (h3 pos cv e) fun c oc vs t a b r=>?_;exact gg c oc vs t a (k _ _ b) r
noncomputable abbrev bM(q:Str):i9:=.obj (ql q) HB
theorem En{a b:Int}{c cv:Value}(l:List Value)(h:TriplesOk l)(e:c0 pos (l++[Yu a,Yu b,c])=some cv):c0 pos l=some cv∨cv=c:=by
 fun_induction TriplesOk l with
 |case1 =>
  simp only[Xe,Yu,c0] at e;split at e
  ·right;cases e;rfl
  ·cases e
 |case2 a' t b' u x rest ih =>
  simp only[WZ,c0] at e ⊢;split
  ·rename_i hc;rw[if_pos hc] at e;exact .inl e
  ·rename_i hc;rw[if_neg hc] at e;exact ih h e
 |case3 l h1 h2=>exact h.elim
noncomputable def tV(vs:Array Value)(P:XC):Bool:=(vs.getD 11 .none==.ref P)&&(match vs.getD 18 .none with |.str _ _=>true |_=>false)&&(match vs.getD 7 .none with |.int _ _=>true |_=>false)&&(match vs.getD 9 .none with |.bool _=>true |_=>false)&&(match vs.getD 10 .none with |.int _ _=>true |_=>false)
noncomputable def jh(K:Frag)(c P:XC):Bool:=match K.lookup c with
 |some o=>match o.data with
  |.fields vs=>tV vs P
  |_=>false
 |none=>false
theorem HK{v:Value}(h:(match v with |.str _ _=>true |_=>false)=true):∃x t,v=.str x t:=by
 cases v <;> first |exact uw _ _ rfl |exact(XL h).elim
theorem Dc{v:Value}(h:(match v with |.int _ _=>true |_=>false)=true):∃x t,v=.int x t:=by
 cases v <;> first |exact uw _ _ rfl |exact(XL h).elim
theorem SI{v:Value}(h:(match v with |.bool _=>true |_=>false)=true):∃x,v=.bool x:=by
 cases v <;> first |exact⟨_,rfl⟩ |exact(XL h).elim
theorem RU{P:XC}{d:Data}(h:(match d with |.fields vs=>tV vs P |_=>false)=true):∃vs,d=.fields vs/\tV vs P=true:=by
 cases d <;> first |exact bb _ rfl h |exact(XL h).elim
theorem Em{K:Frag}{c P:XC}(h:jh K c P=true):∃o vs W' tf U9 tg inF text tt,K.lookup c=some o/\o.data=.fields vs/\vs.getD 11 .none=.ref P/\vs.getD 18 .none=.str W' tf/\vs.getD 7 .none=.int U9 tg/\vs.getD 9 .none=.bool inF/\vs.getD 10 .none=.int text tt:=by
 unfold jh at h;cases e:K.lookup c with
 |none=>rw[e] at h;exact(XL h).elim
 |some o =>
  rw[e] at h;refine ad (RU h) fun vs d h=>?_;unfold tV at h;simp only[Yl,beq_iff_eq] at h;refine av h fun O1 h5=>?_;clear h;obtain⟨⟨⟨h1,h2⟩,h3⟩,h4⟩:=O1;exact(HK h2).elim fun O q=>q.elim fun O q2=>(Dc h3).elim fun O q=>q.elim fun O q3=>(SI h4).elim fun O q4=>(Dc h5).elim fun O q=>q.elim fun O q5=>⟨o,vs,_,_,_,_,_,_,_,rfl,d,h1,q2,q3,q4,q5⟩
theorem Upd.same{o:i9}:∀ {l:aa},(a,o)∈l->Upd a o o l l
 |p::l,h=>by
  rcases WT.mp h with e |h
  ·subst e;exact .here
  ·exact .there (Upd.same h)
theorem f1.grow{led:aa}(S:f1 B s Z led){h':Heap}{tk:Nat}(hk:∀b o,s.heap.get? b=some o->h'.get? b=some o):f1 B {s with heap:=h',toks:=tk} Z led/\k8 (ah led) s Z {s with heap:=h',toks:=tk} Z (ah led) :=
 ⟨⟨S.base,fun a o e=>hk a o (S.frozen a o e),S.nodup,S.apart,fun p hp=>Holds.mono (s:=s) (.refl _) (fun o e=>hk _ o e) (fun O O O e=>e) (S.own p hp),S.gnodup,S.bare⟩,
  ⟨.refl _,fun a o e O=>hk a o e,fun O h => .inl h,fun O O e => .inl e,rfl,fun O O e O=>e,fun O h => .inl h⟩⟩
def gf(d7:Xh)(w:Xo)(B:f9)(it:XC)(gl:aa):Prop :=
 ∀(A:Xg) (led:aa) s Z,f1 B s Z (gl++led)->∀(Q:Value->WS->Prop) E,Q (.ref it) s->Xq (Xn d7 w) A (pyIter (.ref it)) Q E s
section
variable{N:aa}
theorem FV(h:∀it gl,(∀B' N,g5 d7 w B' N k e8 it xs gl)->(∀B',gf d7 w B' it gl)->K (.ref it) ⟨st.loc,gl++st.led⟩):F1 d7 w A B d8 Val pyIter (.lst xs) st K:=fun s Z x V S Q E hQ=>by
 refine bC (lQ V) fun a items n qv e hv=>?_;subst qv;have hl:=DE S.frozen e;refine wpAny_pyIter_list hl ?_;have t0:a≠s.heap.objs.size:=Ys (XT (S.frozen _ _ e));have j3:items.toArray.size=xs.length:=by simp[hv.length]
 have P:=S.tof1.push (o:={ cls:=.type "list_iterator",data:=.fields #[.ref a,.int 0 0]}) (ao:=dy s.heap.objs.size [s.heap.objs.size,a] (fun i v=>items.toArray[i]?=some v) xs (fun i h=>h.IsListIter s.heap.objs.size a i/\h.IsList a items.toArray) 0) rfl s.toks
  ⟨_,WW _ rfl,fun b hb=>by
   simp only[WT,YM,or_false] at hb;rcases hb with rfl |rfl
   ·exact .inl rfl
   ·exact .inr ⟨_,e⟩,fun i y v h1 h2=>by
   refine ad (hv.get h1) fun u e1 e2=>?_;simp only[List.getElem?_toArray] at h2;rw[e1] at h2;cases h2
   exact e2,fun h e1 e2=>⟨⟨_,e1,rfl,rfl⟩,_,e2 _ _ e,rfl,n,rfl⟩⟩
 refine hQ _ _ _ Z _ (h s.heap.objs.size _ (fun B' N=>g5.walks (d7:=d7) (w:=w) (B:=B') (e8:=e8) (xs:=xs) (fun A hA=>by exact(j3)▸Walks.list hA s.heap.objs.size a t0 items.toArray) (fun A i s v Q E m8 hq=>CM m8.1 hq) (fun i h m8=>by refine ad m8.1 fun o ho O=>?_;exact⟨o,ho⟩) k xs.length 0 ⋯) ?_) (S.after P.1 P.2) (.ref _) P.2.toF;intro B' A' led' s' Z' S' Q' E' hq;refine gR (S'.own _ (WM ..)) fun o ho h1 h2 h3=>?_;exact wpAny_pyIter_listiter (h3 _ ho S'.frozen).1 hq
theorem eC{Φ:End->WS->Prop}{c:Code}{fs:List Frame}{M:Model}{m:Sem α}{K:α->Sem β}{K':β->Sem PySem.Fin}{H':Value->Sem PySem.Fin}{gd lv}
  (h:Xq M (A.over c fs) m (fun a s'=>aT M A Φ c ((K a).wrap K' H' gd lv) fs s') (fun x s'=>aT M A Φ c (H' x) fs s') s):aT M A Φ c ((m>>=K).wrap K' H' gd lv) fs s:=by
 rw[Ym,YK];exact dJ h
noncomputable abbrev bP(elt e8 iter:Expr)(scope:Scope)(pos:Pos):Expr:=.GeneratorExp elt [⟨e8,iter,[],0⟩] scope pos
theorem El(elt e8 iter:Expr)(scope:Scope)(pos:Pos)(it acc:Value)(d8:Env) :
  compTurn (bP elt e8 iter scope pos) 0 it acc d8=(standAt iter.pos>>=fun O=>Zl it>>=fun r=>match r with
   |none=>YV (.done .next)
   |some v=>Yg e8 it v>>=fun O=>YE e8 d8 v>>=fun O=>(Yw elt d8>>=fun v=>standAt elt.pos>>=fun O=>yieldOut d8 v>>=fun O=>YV PUnit.unit)>>=fun O=>again (.compLoop (bP elt e8 iter scope pos) 0 it acc d8)):=by rfl
theorem AQ{c:Code}{m:Nat}(hw:c.weight=1)(hu:c.cUnits<=3)(hA:g7 A (m+3)):g7 (A.over c []) m:=⟨hA.h,by
  have:=hA.d;show A.depth+0+c.weight+m<=_;omega,by
  have:=hA.u;show A.units+0+c.cUnits+m<=_;omega⟩
theorem IL{elt:Expr}{scope:Scope}{m:Nat}(hk:k<=m)(C6:d8.scope.isCoroutine=false) :
  ∀(xs f0:List AV),xs.length=f0.length->(∀p∈xs.zip f0,∀loc,J loc->∀A,g7 A m->∀led,F1 d7 w A B d8 aJ (YE e8 d8) p.1 ⟨loc,led⟩ fun O u6=>T d7 w A B d8 Val (Yw elt d8) u6 fun v y9=>v=p.2/\y9.led=led/\J y9.loc) ->
   ∀(gl:aa) (loc:List (Str×AV)),g5 d7 w B N k e8 it xs gl->J loc ->
   jn d7 w B N (m+3) d8 (.compLoop (bP elt e8 iter scope pos) 0 (.ref it) .none d8) ((Xn d7 w).den (.compLoop (bP elt e8 iter scope pos) 0 (.ref it) .none d8)) [] f0 ⟨loc,gl⟩:=by
 intro xs;induction xs with
 |nil =>
  intro f0 hl o9 gl loc hI hJ A hA led hN o7 o6 Z0 s Z S X;cases f0 with
  |cons r rs=>cases hl
  |nil =>
   have hr:=AQ (c:=.compLoop (bP elt e8 iter scope pos) 0 (.ref it) .none d8) rfl (by show 3<=3;omega) hA;show aT _ A _ _ ((compTurn (bP elt e8 iter scope pos) 0 (.ref it) .none d8).onRaise (leaving d8)) [] s;rw[El,ZN];refine eC (XB ?_);have Sp:g8 B d8 s Z ⟨loc,led++gl⟩:=S.perm Xd;refine eC (ty hI (hr.mono hk) hN Sp fun s3 Z3 X_ X3=>?_);have X':k8 (aw d8 ⟨loc,gl++led⟩) s Z s3 Z3 (aw d8 ⟨loc,led⟩):=by
    rw[en (d8:=d8) (loc:=loc) (g9:=loc) (l:=gl++led) (l':=led++gl) Xd];exact X3
   refine AK (.ok .next) ⟨.inr rfl,Z3,X_.tof1,(X.trans X').less (fun a h => .inr h) fun a h=>h⟩
 |cons x xs ih =>
  intro f0 hl o9 gl loc hI hJ A hA led hN o7 o6 Z0 s Z S X;cases f0 with
  |nil=>cases hl
  |cons q rs =>
   have hr:=AQ (c:=.compLoop (bP elt e8 iter scope pos) 0 (.ref it) .none d8) rfl (by show 3<=3;omega) hA;show aT _ A _ _ ((compTurn (bP elt e8 iter scope pos) 0 (.ref it) .none d8).onRaise (leaving d8)) [] s;rw[El,ZN];refine eC (XB ?_);have Sp:g8 B d8 s Z ⟨loc,led++gl⟩:=S.perm Xd;refine eC (XU (tx hI (hr.mono hk) hN Sp (Q:=fun r s₁=>match r with
    |none=>False
    |some v=>aT (Xn d7 w) A (pM d7 w B N (m+3) (q::rs) led o7 o6 Z0) (.compLoop (bP elt e8 iter scope pos) 0 (.ref it) .none d8) ((YE e8 d8 v>>=fun O=>(Yw elt d8>>=fun v=>standAt elt.pos>>=fun O=>yieldOut d8 v>>=fun O=>YV PUnit.unit)>>=fun O=>again (.compLoop (bP elt e8 iter scope pos) 0 (.ref it) .none d8)).wrap .pure (fun e=>(leaving d8 e).bind fun O => .raise e) id id) [] s₁)
    (E:=fun O O=>False) fun s3 Z3 v gl3 X_ V3 X3 H6=>?_) (fun r s₁ h1=>?_) fun O O h=>h.elim)
   ·dsimp only;have X':k8 (aw d8 ⟨loc,gl++led⟩) s Z s3 Z3 (aw d8 ⟨loc,gl3++led⟩):=by
     rw[en (d8:=d8) (loc:=loc) (g9:=loc) (l:=gl++led) (l':=led++gl) Xd,en (d8:=d8) (loc:=loc) (g9:=loc) (l:=gl3++led) (l':=led++gl3) Xd];exact X3
    have X2:=X.trans X';have S3:g8 B d8 s3 Z3 ⟨loc,gl3++led⟩:=X_.perm Xd;refine eC (o9 (x,q) (by simp) loc hJ _ hr (gl3++led) s3 Z3 v V3 S3 _ _ fun O O s4 Z4 y9 k4 S4 O X4=>?_);rw[Ym,Ym,YK,YK];refine dJ (k4 s4 Z4 S4 _ _ fun u y s5 Z5 R7 k5 S5 V5 X5=>?_);obtain⟨y1,led5⟩:=R7;refine cB k5 fun O1 e Í=>?_;clear k5;subst O1;dsimp only at e Í;subst e;have hy:∀v,yieldOut d8 v=yieldValue v:=fun v=>by simp only[yieldOut,C6,XI,if_false]
    rw[hy];refine eC (XB ?_);show aT _ A _ _ (.yield y _ _ _) [] s5;refine AJ rfl fun p=>?_;refine⟨rfl,y,Z5,(d8.locals,.ns y1)::gl3,rfl,S5.toL,V5,?_,?_⟩
    ·have:=X2.trans (X4.trans X5);rw[dk (st:=⟨y1,gl3++led⟩)] at this;exact this
    ·rw[t6.iff];intro A' f8 led' l3 s' Z' u7;have SF:g8 B d8 s' Z' ⟨y1,gl3++led'⟩:=f1.toF (st:=⟨y1,gl3++led'⟩) u7 S5.kinds S5.fn;refine mI rfl (ih rs (by simpa using hl) (fun p hp=>o9 p (by rw[ZA];exact WO _ hp)) gl3 y1 H6 Í A' f8 led' l3 _ s' Z' s' Z' SF ?_);rw[dk];exact .refl
   ·cases r with
    |none=>exact h1.elim
    |some v=>exact eC (XU h1 (fun O s2 h2=>h2) fun O O h=>h.elim)
theorem t6.genexp{elt:Expr}{scope:Scope}{m:Nat}{gl:aa}(hk:k<=m)(C6:d8.scope.isCoroutine=false)
  (hkd:∀x v,loc.lookup x=some v->d8.kindOf x=some .local) (hf:d8.scope.kind=.function) (hl:xs.length=f0.length)
  (o9:∀p∈xs.zip f0,∀loc,J loc->∀A,g7 A m->∀led,F1 d7 w A B d8 aJ (YE e8 d8) p.1 ⟨loc,led⟩ fun O u6=>T d7 w A B d8 Val (Yw elt d8) u6 fun v y9=>v=p.2/\y9.led=led/\J y9.loc)
  (hI:g5 d7 w B N k e8 it xs gl) (hs:gf d7 w B it gl) (hJ:J loc) :
  t6 d7 w B N (m+3) f0 ((d8.locals,.ns loc)::gl) (.fresh (.compStart (bP elt e8 iter scope pos) 0 (.ref it) .none d8)):=by
 rw[t6.iff];intro A hA led hN s Z S;have SF:g8 B d8 s Z ⟨loc,gl++led⟩:=f1.toF (st:=⟨loc,gl++led⟩) S hkd hf;have loop:=IL (elt:=elt) (iter:=iter) (scope:=scope) (pos:=pos) hk C6 xs f0 hl o9 gl loc hI hJ A hA led hN (ah ((d8.locals,.ns loc)::gl++led)) s Z s Z SF (by rw[dk];exact .refl);show aT _ A _ _ ((compStart (bP elt e8 iter scope pos) 0 (.ref it) .none d8).onRaise (leaving d8)) [] s;unfold compStart;rw[ZN];show aT _ A _ _ ((ask>>=_).wrap _ _ _ _) [] s;refine eC (wpAny_askSetting ?_);split
 ·exact mI rfl loop
 ·refine eC (YA ?_);show aT _ A _ _ ((standAt iter.pos>>=_).wrap _ _ _ _) [] s;exact eC (XB (eC (hs _ ((d8.locals,.ns loc)::led) s Z (f1.perm S YL.symm) _ _ (mI rfl loop))))
theorem Gk{K:Frag}{c P:XC}{q:Str}{scope:Scope}{led:aa}(hc:d8.code=.ref c)(I6:jh K c P=true)(hP:(P,bM q)∈led)(S:f1 (am K) s Z led)
  (hQ:∀c' oc vs t s' Z',f1 (am K) s' Z' led->k8 (ah led) s Z s' Z' (ah led)->Z' c'=some oc->oc.data=.fields vs->vs[1]?=some (.str q t)->Q (.ref c') s'):Xq (Xn d7 w) A (genexprCode d8 pos q scope) Q E s:=by
 obtain⟨o,vs,W',tf,U9,tg,inF,text,tt,W8,hd,h11,h2,h7,h9,h10⟩:=Em I6;have ho:s.heap.get? c=some o:=S.frozen _ _ (S.base _ _ W8);obtain⟨op,Q5,⟨J0,hsh⟩,ps,G_,D',D6⟩:=S.own _ hP;dsimp only at Q5;have hPZ:Z P=none:=S.apart _ hP;have hcP:c≠P:=fun e=>by have:=S.base _ _ W8;rw[e,hPZ] at this;cases this
 unfold genexprCode codeAt;rw[hc,if_neg (show ¬ ((Value.ref c==Yp)=true) from XL)];refine WL (YT ho hd ?_);rw[h11];refine WL (YT Q5 G_ ?_);cases K_:c0 pos ps.toList with
 |some cv =>
  refine pN (D6 pos cv K_) fun c' oc Ž t O5 hz hdc hq=>?_;subst O5;exact WN (hQ c' oc Ž t s Z S .refl hz hdc hq)
 |none =>
  rw[h2,h7,h9,h10];refine WL (wpAny_newCode fun c' P' h' tk hk R5 Ì R_ J9=>?_);refine av (S.grow (h':=h') (tk:=tk) hk) fun S1 X1=>?_;refine pN J9 fun c2 oc ρ t2 Q8 V_ V4 r2=>?_;clear J9;cases Q8
  have w6:s.heap.get? c'=none:=Heap.get?_none_of_le R5;have c_:c'∉keys led:=fun hm=>by
   refine ad (Xu.mp hm) fun p hp e=>?_;refine ak ((S.own p hp).live) fun ob g=>?_;rw[e,w6] at g;cases g
  have É:Z c'=none:=by
   cases e:Z c' with
   |none=>rfl
   |some x=>have:=S.frozen _ _ e;rw[w6] at this;cases this
  refine av (S1.fixZ (s0:=s) (c:=c') (o:=oc) V_ w6 c_ É X1) fun S2 X2=>?_;have T5:=hk _ _ Q5;refine WL (wpAny_updateFieldsOfTheText T5 G_ ?_);have y4:(YY (fun vs=>if (c0 pos vs.toList).isSome=true then vs else vs ++ #[Yu pos.line,Yu pos.col,.ref c']) op).data =
    .fields (ps ++ #[Yu pos.line,Yu pos.col,.ref c']):=by
   rw[ZZ G_,K_];rfl
  have n5:=XH (h:=h') (fun o=>YY (fun vs=>if (c0 pos vs.toList).isSome=true then vs else
   vs ++ #[Yu pos.line,Yu pos.col,.ref c']) o) T5 (Zz y4)
  refine WL (YT n5 y4 ?_);have hl:(ps ++ #[Yu pos.line,Yu pos.col,Value.ref c']).toList=ps.toList++[Yu pos.line,Yu pos.col,.ref c']:=by simp
  rw[hl,codeAmong_snoc _ D' K_];have P3:=S2.upd (Upd.same hP) (h':=h'.update P fun o=>YY (fun vs=>if (c0 pos vs.toList).isSome=true then vs else vs ++ #[Yu pos.line,Yu pos.col,.ref c']) o) (tk:=tk) (fun b ob hb e=>(XE ..).extBut b ob hb e) rfl rfl
   ⟨_,n5,⟨Zz y4,hsh.map _⟩,_,y4,by rw[hl];exact TriplesOk_snoc _ _ _ _ D',fun F6 cv e=>?_⟩
  ·exact WN (hQ c' oc ρ t2 _ _ P3.1 (X2.trans P3.2) (f9.add_at ..) V4 r2)
  ·rw[hl] at e;rcases En _ D' e with e |rfl
   ·refine cA (D6 F6 cv e) fun c3 oc3 ż t3 e3 z3 r3=>?_;exact gg c3 oc3 ż t3 e3 (f9.le_add É _ _ z3) r3
   ·exact Fs c' oc ρ t2 rfl (f9.add_at ..) V4 r2
end
section
variable{N:aa}
theorem CJ(h:Heap):h.get? h.objs.size=none:=by
 cases e:h.get? h.objs.size with
 |none=>rfl
 |some o=>exact absurd (XT e) (Zh _)
theorem f1.newGen{led:aa}{f:Str->Option Value}{gs:ZQ}{go:Obj}{nm qn:Value}{h1:Heap}{tk:Nat}(S:f1 B s Z led)
  (C9:h1.Ns s.heap.objs.size f) (y3:Xz s.heap.objs.size (s.heap.push {cls:=.type "frame",data:=.dict #[]}) h1) (hv:∀x,l6 Z (loc.lookup x) (f x)) (I8:go={ cls:=.type "generator",data:=.fields #[.int s.gens.size 0,nm,qn]}) (Ë:gs.bare=true) :
  f1 B {s with gens:=s.gens.push gs,toks:=tk,heap:=h1.push go} Z ((h1.objs.size,.gen s.gens.size gs)::(s.heap.objs.size,.ns loc)::led) /\
   k8 (ah led) s Z {s with gens:=s.gens.push gs,toks:=tk,heap:=h1.push go} Z (ah ((h1.objs.size,.gen s.gens.size gs)::(s.heap.objs.size,.ns loc)::led)):=by
 have keep:∀b o,s.heap.get? b=some o->h1.get? b=some o:=fun b o e=>y3.extBut b o (Ys (XT e)) (WX _ e);have H7:=CJ s.heap;have hL:s.heap.objs.size∉keys led:=fun q=>by
  refine ad (Xu.mp q) fun p hp e=>?_;refine ak ((S.own p hp).live) fun ob g=>?_;rw[e,H7] at g;cases g
 have hZ:Z s.heap.objs.size=none:=S.zfresh;have U6:∃ob,h1.get? s.heap.objs.size=some ob:=by refine jq C9 fun ob O O g O=>?_;clear C9;exact⟨ob,g⟩
 refine ak U6 fun obL hobL=>?_;clear U6;have t0:s.heap.objs.size≠h1.objs.size:=Ys (XT hobL);have w5:=CJ h1;have D4:∀b o,h1.get? b=some o->(h1.push go).get? b=some o:=fun b o e=>WX go e;have w_:(h1.push go).get? h1.objs.size=some go:=WW _ (by subst I8;rfl);have K5:s.gens[s.gens.size]?=none:=by simp
 have hgl:s.gens.size∉gkeys led:=fun q=>by
  refine ad (List.mem_filterMap.mp q) fun p hp e=>?_
  have:=S.own p hp;obtain⟨a,ob⟩:=p;cases ob with
  |gen g gs =>
   simp only[i9.gnum,YC] at e;subst e
   have:=this.2;rw[K5] at this;cases this
  |_=>cases e
 have K9:∀g (gs x:ZQ),s.gens[g]?=some gs->(s.gens.push x)[g]?=some gs:=fun g gs x e=>by
  rw[Array.getElem?_push];refine ak (Array.getElem?_eq_some_iff.mp e) fun l8 O=>?_;rw[if_neg ⋯];exact e
 refine⟨⟨S.base,fun a o e=>D4 a o (keep a o (S.frozen a o e)),?_,fun p hp=>?_,fun p hp=>?_,?_,fun x hx=>?_⟩,
  ⟨.refl _,fun a o e O=>D4 a o (keep a o e),fun a ha=>?_,fun O O e => .inl e,rfl,fun g gs e O=>K9 g gs _ e,fun g hg=>?_⟩⟩
 ·refine Xj.mpr ⟨fun q=>?_,Xj.mpr ⟨hL,S.nodup⟩⟩;rcases WT.mp q with q |q
  ·exact t0 q.symm
  ·refine ad (Xu.mp q) fun p hp e=>?_;refine ak ((S.own p hp).live) fun ob g=>?_
   have:=keep _ _ g;rw[e,w5] at this;cases this
 ·rcases WT.mp hp with rfl |hp
  ·cases e:Z h1.objs.size with
   |none=>rfl
   |some o =>
    have:=keep _ _ (S.frozen _ _ e);rw[w5] at this;cases this
  ·rcases WT.mp hp with rfl |hp
   ·exact hZ
   ·exact S.apart p hp
 ·rcases WT.mp hp with rfl |hp
  ·refine⟨⟨go,_,_,w_,by subst I8;rfl,by subst I8;rfl,by subst I8;rfl⟩,?_⟩;show (s.gens.push _)[s.gens.size]?=_;rw[Array.getElem?_push,if_pos rfl]
  ·rcases WT.mp hp with rfl |hp
   ·exact z5.mono (.refl _) (fun o e=>D4 _ o e) ⟨_,C9,hv⟩
   ·exact(S.own p hp).mono (.refl _) (fun o e=>D4 _ o (keep _ o e)) fun g gs O e=>K9 g gs _ e
 ·exact Xj.mpr ⟨hgl,S.gnodup⟩
 ·rcases Array.mem_push.mp hx with hx |hx
  ·exact S.bare x hx
  ·subst hx;exact Ë
 ·rcases WT.mp ha with q |q
  ·right
   cases e:s.heap.get? a with
   |none=>rfl
   |some o =>
    have:=keep a o e;rw[q,w5] at this;cases this
  ·rcases WT.mp q with q |q
   ·exact .inr (q▸H7)
   ·exact .inl q
 ·rcases WT.mp (show g∈s.gens.size::gkeys led from hg) with q |q
  ·exact .inr (q▸K5)
  ·exact .inl q
theorem Ts{R:Result->WS->Prop}(hA:g7 A (k+1))  (bs:List Bool):∀(gl led:aa) (s:WS) (Z:f9),n7 N led->g5 d7 w B N k mz it (bs.map .bool) gl->f1 B s Z (gl++led) ->
  (∀s' Z',f1 B s' Z' led->k8 (ah (gl++led)) s Z s' Z' (ah led)->R (.ok (.ret (.bool (bs.any id)))) s')->codeAny (Xn d7 w) A (.builtin "any.loop" ⟨[.ref it],[]⟩) R s:=by
 induction bs with
 |nil =>
  intro gl led s Z hN hI S hR;refine ZJ F.entry_any_loop ?_;rw[ZH F.plain_any_loop _];exact hI.last hA.in1 hN S fun s' Z' S' X'=>WL (YA (WN (hR s' Z' S' X')))
 |cons b bs ih =>
  intro gl led s Z hN hI S hR;refine ZJ F.entry_any_loop ?_;rw[ZH F.plain_any_loop _];refine hI.draw hA.in1 hN S (fun O=>rfl) fun s' Z' v gl' S' V X' hI'=>?_;refine WL (Xc ?_)
  (have e_:=V.inv;subst e_)
  refine wpAny_truthy_bool (WL (wpAny_letGo ?_));cases b with
  |true =>
   exact dH rfl (WL (YA (WN (hR s' Z' S'.drop (X'.less (fun a h=>by rw[ah];show a∈keys (gl'++led);rw[keys,Xr];exact Xx _ h) fun a h=>by
    show a∈gkeys (gl'++led);unfold gkeys;exact(Eq.symm (ZC))▸Xx _ h)))))
  |false=>exact aY XL (WN ⟨plainId_quiet F.plain_any_loop _,ih gl' led s' Z' hN hI' S' fun z1 y0 u7 J2=>hR z1 y0 u7 (X'.trans J2)⟩)
theorem WH{id:String}{args:List Expr}(m8:((Zy pos (XV args d8)).all fun x => !x.1)=true)
  (h:∀s Z,g8 B d8 s Z st->∀(Q:Value->WS->Prop) (E:Value->WS->Prop),HQ B d8 Val st K s Z Q ->
   Xq (Xn d7 w) A (spliced (Zy pos (XV args d8))) (fun vs s₁=>Xq (Xn d7 w) A (call (.builtin id) vs []) Q E s₁) E s):CA d7 w A B d8 pos (.blt id) [] args st K:=fun s Z fx xs hf Δ S Q E hQ=>by
 (have e_:=hf.inv;subst e_)
 cases Δ
 unfold callWith;have F8:=h s Z S (fun r s'=>Xq (Xn d7 w) A (do b9 [r] point;YV r) Q E s') E fun v y s' Z' e9 k S' V X=>WL (Xc (wpAny_point (WN (hQ v y s' Z' e9 k S' V X))));have K7:∀ {Q':Args->WS->Prop},(∀vs s₁,Xq (Xn d7 w) A (call (.builtin id) vs []) (fun r s'=>Xq (Xn d7 w) A (do b9 [r] point;YV r) Q E s') E s₁->Q' ⟨vs,[]⟩ s₁) ->
   Xq (Xn d7 w) A (evalArgs (.builtin id) true (Zy pos (XV args d8)) []) Q' E s:=fun{Q'} g_=>by
  have Z8:=XU F8 (Q':=fun vs s₁=>Q' ⟨vs,[]⟩ s₁) (fun vs s₁ h'=>g_ vs s₁ h') fun O O x=>x;revert Z8 m8;generalize Zy pos (XV args d8)=l;intro m8 Z8;cases l with
  |nil=>exact yA Z8
  |cons y r =>
   obtain⟨b,t⟩:=y
   have:b=false:=by simpa using (XF.mp m8 (b,t) (WM ..))
   subst this;exact Calls.evalArgs_plain Z8
 refine WL (Xc (K7 fun vs s₁ s8=>WL (XB (WL (WN ?_)))));have Q5:∀l,Xq (Xn d7 w) A (operate l (call (.builtin id) ([]++vs) [])>>=fun r=>(do b9 [r] point;YV r)) Q E s₁:=fun l=>WL (fun Γ p F7=>by rw[Sem.wp_operate];exact s8 Γ p F7);have hm:∀m,Xq (Xn d7 w) A (callMarked m (.builtin id) ([]++vs) []>>=fun r=>(do b9 [r] point;YV r)) Q E s₁:=fun m=>WL (by unfold callMarked;exact Calls.wpAny_keep s8);generalize (((Zy pos (XV args d8)).any fun x=>x.fst)||([]:List (Option Str×Sem Value)).any fun x=>x.fst.isNone)=b;cases b <;> first
  |exact Q5 _
  |exact hm _
  |exact WL s8
  |exact wpAny_ite (by split <;> first |exact WL s8 |exact hm _)
theorem Qb{K:Frag}{c:XC}{oc:Obj}(h:f9.le (am K) Z)(hc:Z c=some oc):f9.le (am ((c,oc)::K)) Z:=fun a o e=>by
 unfold am at e;rw[Xl] at e;by_cases q:a=c
 ·subst q;simp only[beq_self_eq_true,YC] at e;subst e;exact hc
 ·have:(a==c)=false:=beq_eq_false_iff_ne.mpr q;rw[this] at e;exact h a o e
theorem WI{K:Frag}{c P:XC}{q:Str}{elt:Expr}{scope:Scope}{C2:Pos}{H0:List (Str×AV)}{led:aa}{bs:List Bool}{m:Nat}{bi:XC}
  (hG:∀K',(∀a o,K.lookup a=some o->(am K') a=some o)->m3 (am K')) (hm:5<=m) (hA:g7 A (m+10))
  (m8:((Zy pos (XV [bP elt e8 iter scope C2] d8)).all fun x => !x.1)=true) (hse:XV [bP elt e8 iter scope C2] d8=(false,Yw (bP elt e8 iter scope C2) d8)::XV [] d8)
  (C6:scope.isCoroutine=false) (D7:closureFor scope d8=YV []) (o5:∀y∈scope.names,y.2 ≠ .cell) (h0:scope.names.lookup (".0" : Str)=some NameKind.local) (r0:scope.kind=.function) (U0:∀x,genFold iter d8 x=YV x)
  (hc:d8.code=.ref c) (I6:jh K c P=true) (hq:d8.qual ++ "<genexpr>" = q) (d_:XW K ⟨d7,w.params⟩ (builtinsFor d8.globals d8.builtins)=some bi) (hP:(P,bM q)∈led)
  (p8:T d7 w A (am K) d8 Val (Yw iter d8) ⟨loc,led⟩ fun v j9=>v=.lst xs/\j9=⟨loc,led⟩) (hl:xs.length=bs.length)
  (v_:∀x v,H0.lookup x=some v->v=.any/\scope.names.lookup x=some .local) (ø:(H0.lookup (".0" : Str)).isSome=true) (hJ:J H0)
  (o9:∀(K':Frag) l4 c' L,(∀a o,K.lookup a=some o->(am K') a=some o)->l4=genEnv scope [] L (.ref c') bi d8->kdsCode K' (.ref c')=true->∀p∈xs.zip (bs.map AV.bool),∀loc,J loc->∀A,g7 A m->∀led,
   F1 d7 w A (am K') l4 aJ (YE e8 l4) p.1 ⟨loc,led⟩ fun O u6=>T d7 w A (am K') l4 Val (Yw elt l4) u6 fun v y9=>v=p.2/\y9.led=led/\J y9.loc)
  (h:R (.bool (bs.any id)) ⟨loc,led⟩):CA d7 w A (am K) d8 pos (.blt "any") [] [bP elt e8 iter scope C2] ⟨loc,led⟩ R:=WH m8 fun s Z S Q E hQ=>by
 rw[hse];refine Calls.spliced_cons ?_;refine wpAny_GeneratorExp_make C6 D7 o5 h0 r0 hA.lt ?_ U0;refine p8 s Z S _ _ fun v x s₁ Z1 j9 k₁ S1 V1 X1=>?_;refine av k₁ fun O1 O2=>?_;clear k₁;subst O1;subst O2;refine FV (d7:=d7) (w:=w) (B:=am K) (e8:=e8) (st:=⟨loc,led⟩) (k:=m) (K:=fun u m5=>∃it gl,u=.ref it/\m5=⟨loc,gl++led⟩/\(∀B' N,g5 d7 w B' N m e8 it xs gl)/\∀B',gf d7 w B' it gl)
  (fun it gl h1 h2=>⟨it,gl,rfl,rfl,h1,h2⟩) s₁ Z1 x V1 S1 _ _ fun u y s2 Z2 m5 k2 S2 V2 X2=>?_
 refine pQ k2 fun it gl O3 O4 hI y2=>?_;clear k2;subst O3;subst O4
 (have e_:=V2.inv;subst e_)
 have hGK:=hG K fun a o e=>e;refine⟨hGK.lim _ fun a o e=>S2.frozen a o (S2.base a o e),?_⟩;have S2L:=S2.toL;rw[hq];refine Gk (led:=(d8.locals,.ns loc)::(gl++led)) hc I6 (WO _ (Xx _ hP)) S2L fun c' oc vs t s3 Z3 S3 X3 hz hd hr=>?_;have L6:=ZO (M:=Xn d7 w) (cP S3.base S3.frozen) d_;refine L6 A _ _ s3 (fun b o e=>e) ?_;intro h' C9 y3;have hle':f9.le (am ((c',oc)::K)) Z3:=Qb S3.base hz;have hKK:∀a o,K.lookup a=some o->(am ((c',oc)::K)) a=some o:=fun a o e=>by
  unfold am;rw[Xl];by_cases q:a=c'
  ·subst q
   have:=S3.base _ _ e;rw[hz] at this;cases this
   simp
  ·have:(a==c')=false:=beq_eq_false_iff_ne.mpr q;exact(Eq.symm (this))▸e
 have S3':f1 (am ((c',oc)::K)) s3 Z3 ((d8.locals,.ns loc)::(gl++led)):=⟨hle',S3.frozen,S3.nodup,S3.apart,S3.own,S3.gnodup,S3.bare⟩;have Ê:kdsCode ((c',oc)::K) (.ref c')=true:=by
  obtain⟨a1,a2,a3,a4⟩:=oc;dsimp only at hd;subst hd;simp[kdsCode,Xl]
 have N1:=S3'.newGen (nm:=.str (WR "<genexpr>") (s3.toks+1)) (qn:=.str q (s3.toks+1+1)) (loc:=H0) (gs:=.fresh (.compStart (bP elt e8 iter scope C2) 0 (.ref it) .none (genEnv scope [] s3.heap.objs.size (.ref c') bi d8))) (tk:=s3.toks+1+1+1) C9 y3 (fun x=>by
   cases e:H0.lookup x with
   |some v =>
    refine av (v_ x v e) fun O1 O2=>?_;subst O1;clear O2;exact .any
   |none =>
    have hx:x≠(".0" : Str):=fun e'=>by rw[e'] at e;rw[e] at ø;cases ø
    exact(Eq.symm (if_neg hx))▸.none) rfl rfl
 refine av N1 fun S4 X4=>?_;clear N1;refine Calls.spliced_nil ?_;have hsus:=t6.genexp (d7:=d7) (w:=w) (B:=am ((c',oc)::K)) (N:=[]) (d8:=genEnv scope [] s3.heap.objs.size (.ref c') bi d8) (elt:=elt) (e8:=e8) (iter:=iter) (scope:=scope) (pos:=C2) (it:=it) (k:=m) (m:=m) (J:=J) (xs:=xs) (f0:=bs.map AV.bool) (gl:=gl) (loc:=H0) (Xy _) C6
  (fun x v e=>(v_ x v e).2) r0 (by rw[WP];exact hl) (o9 _ _ c' _ hKK rfl Ê) (hI _ _) (y2 _) hJ
 have hit:=g5.gen (d7:=d7) (w:=w) (B:=am ((c',oc)::K)) (N:=[]) (e8:=mz) (a:=h'.objs.size) (g:=s3.gens.size) (hG _ hKK) (fun O O O O O O O O A Q E hq=>WN hq) hsus;have P4:((h'.objs.size,i9.gen s3.gens.size (.fresh (.compStart (bP elt e8 iter scope C2) 0 (.ref it) .none (genEnv scope [] s3.heap.objs.size (.ref c') bi d8))))::(s3.heap.objs.size,i9.ns H0)::(d8.locals,i9.ns loc)::(gl++led)).Perm
   (((h'.objs.size,i9.gen s3.gens.size (.fresh (.compStart (bP elt e8 iter scope C2) 0 (.ref it) .none (genEnv scope [] s3.heap.objs.size (.ref c') bi d8))))::(s3.heap.objs.size,i9.ns H0)::gl)++((d8.locals,i9.ns loc)::led)) :=
  ZG _ (ZG _ YL.symm)
 have S4':=S4.perm P4;rw[dM P4] at X4;refine call_function_tree F.kind_any F.plain_any F.entry_any (F.args_any1 _) ?_;unfold Builtin.«any»;refine WL (m:=oneArg "any" _) (WN ?_);refine WL (wpAny_pyIter_gen (S4'.own _ (WM ..)).1 ?_);refine WN ⟨plainId_quiet F.plain_any_loop _,Ts (k:=m+3+1) ?_ bs _ ((d8.locals,.ns loc)::led) _ Z3 .nil hit S4' fun s5 Z5 S5 X5=>?_⟩
 ·exact⟨hA.h,by have:=hA.d;show A.depth+(m+3+1+1)<=_;omega,by have:=hA.u;show A.units+(m+3+1+1)<=_;omega⟩
 ·have S5K:f1 (am K) s5 Z5 ((d8.locals,.ns loc)::led):=⟨S3.base.trans (X4.le.trans X5.le),S5.frozen,S5.nodup,S5.apart,S5.own,S5.gnodup,S5.bare⟩;have X9:=X1.trans X2;have X35:=(X3.trans X4).trans X5;rw[dk (st:=⟨loc,gl++led⟩)] at X9;have X:=X9.trans X35;have e:=dk (d8:=d8) (st:=⟨loc,led⟩);dsimp only at e;rw[← e] at X;exact hQ (.bool (bs.any id)) _ s5 Z5 ⟨loc,led⟩ h (f1.toF (st:=⟨loc,led⟩) S5K S2.kinds S2.fn) (.bool _) X
theorem Ge{γ:Type}(f:α->β)(h:α->γ)(g:List α):(g.map f).zip (g.map h)=g.map fun o=>(f o,h o):=by
 induction g with
 |nil=>rfl
 |cons x xs ih=>rw[WY,WY,ZA,ih,WY]
theorem Gd{K:Frag}{c P:XC}{q:Str}{elt:Expr}{scope:Scope}{C2:Pos}(ns:List Str){led:aa}(f:α->AV)(t:α->Bool){gs:List α}{m:Nat}{bi:XC}
  (hG:∀K',(∀a o,K.lookup a=some o->(am K') a=some o)->m3 (am K')) (hm:5<=m) (hA:g7 A (m+10))
  (m8:((Zy pos (XV [bP elt e8 iter scope C2] d8)).all fun x => !x.1)=true) (hse:XV [bP elt e8 iter scope C2] d8=(false,Yw (bP elt e8 iter scope C2) d8)::XV [] d8)
  (C6:scope.isCoroutine=false) (D7:closureFor scope d8=YV []) (o5:(scope.names.all fun x=>decide (x.2 ≠ .cell))=true) (h0:scope.names.lookup (".0" : Str)=some NameKind.local) (r0:scope.kind=.function) (U0:∀x,genFold iter d8 x=YV x)
  (hc:d8.code=.ref c) (I6:jh K c P=true) (hq:d8.qual ++ "<genexpr>" = q) (d_:XW K ⟨d7,w.params⟩ (builtinsFor d8.globals d8.builtins)=some bi)
  (C9:(ns.all fun x=>decide (scope.names.lookup x=some .local))=true) (ø:ns.contains (".0" : Str)=true)
  (hP:(P,bM q)∈led)
  (p8:T d7 w A (am K) d8 Val (Yw iter d8) ⟨loc,led⟩ fun v j9=>v=.lst (gs.map f)/\j9=⟨loc,led⟩)
  (o9:∀(K':Frag) l4 c' L,(∀a o,K.lookup a=some o->(am K') a=some o)->l4=genEnv scope [] L (.ref c') bi d8->kdsCode K' (.ref c')=true->∀o∈gs,∀A,g7 A m->∀led,
   F1 d7 w A (am K') l4 aJ (YE e8 l4) (f o) ⟨ns.map fun x=>(x,.any),led⟩ fun O u6=>T d7 w A (am K') l4 Val (Yw elt l4) u6 fun v y9=>v=.bool (t o)/\y9.led=led/\fg y9.loc (ns.map fun x=>(x,.any))=ns.map fun x=>(x,.any))
  (h:R (.bool ((gs.map t).any id)) ⟨loc,led⟩):CA d7 w A (am K) d8 pos (.blt "any") [] [bP elt e8 iter scope C2] ⟨loc,led⟩ R:=by
 have W8:∀(l:List Str) x v,(l.map fun x=>(x,AV.any)).lookup x=some v->v=.any/\x∈l:=by
  intro l;induction l with
  |nil=>intro x v h;cases h
  |cons y l ih =>
   intro x v h;rw[WY,Xl] at h;by_cases e:x=y
   ·subst e;rw[beq_self_eq_true,YC] at h;exact⟨h.symm,WM ..⟩
   ·have:(x==y)=false:=beq_eq_false_iff_ne.mpr e;rw[this] at h;exact⟨(ih x v h).1,WO _ (ih x v h).2⟩
 have O_:∀(l:List Str) x,x∈l->((l.map fun x=>(x,AV.any)).lookup x).isSome=true:=by
  intro l;induction l with
  |nil=>intro x h;cases h
  |cons y l ih =>
   intro x h;rw[WY,Xl];by_cases e:x=y
   ·subst e;simp
   ·have:(x==y)=false:=beq_eq_false_iff_ne.mpr e;exact(Eq.symm (this))▸ih x ((WT.mp h).resolve_left e)
 refine WI (H0:=ns.map fun x=>(x,.any)) hG hm hA m8 hse C6 D7 (fun y hy=>by have:=XF.mp o5 y hy;simpa using this) h0 r0 U0 hc I6 hq d_ hP p8 (bs:=gs.map t) (J:=fun l=>fg l (ns.map fun x=>(x,.any))=ns.map fun x=>(x,.any)) (by rw[WP,WP]) (fun x v e=>?_) (O_ ns _ (by simpa using ø)) (DR _) (fun K' l4 c' L hK e hk p hp loc hJ A hA led=>?_) h
 ·refine av (W8 ns x v e) fun O1 hx=>?_;subst O1;exact⟨rfl,by have:=XF.mp C9 x hx;simpa using this⟩
 ·rw[YF,Ge] at hp;exact(Xu.mp hp).elim fun o q=>q.2▸F1.fit hJ (o9 K' l4 c' L hK e hk o q.1 A hA led)
end
noncomputable abbrev kI:Str:=LK
noncomputable abbrev kD:Str:=LL
noncomputable abbrev kR:Str:=LM
noncomputable abbrev kE:Str:=LJ
theorem OA(a b c d:Value):checkTypeCall "dict" ⟨[],[(kI,a),(kD,b),(kR,c),(kE,d)]⟩=YV ():=@_
theorem OB(a b c d:Value):checkBuiltinCall "dict.__new__" ⟨[.type "dict"],[(kI,a),(kD,b),(kR,c),(kE,d)]⟩=YV ():=@_
theorem OD(x a b c d:Value):c6 "dict.__init__" ⟨[x],[(kI,a),(kD,b),(kR,c),(kE,d)]⟩:=by
 unfold c6;rw[signature?_of (id := "dict.__init__") (n:=['_','_','t','i','n','i','_','_']) (o:=['t','c','i','d']) @_ F.owner_dict];kernel_rfl
theorem OC(J6:List (Str×Value))(hk:checkBuiltinCall "dict.__new__" ⟨[.type "dict"],J6⟩=YV ()){Q₁:Value->WS->Prop}(h:Q₁ (.ref s.heap.objs.size) {s with heap:=s.heap.push {cls:=.type "dict",data:=.dict #[]} }) :
  codeAny (Xn d7 w) A (.call (.builtin "dict.__new__") ⟨[.type "dict"],J6⟩) (wants Q₁ E) s:=by
 refine Zc F.kt_plain_dict_new F.kt_entry_dict_new (Yd hk ?_);have z4:=F.kt_sub_dict;have Ξ:=F.kt_mro_dict;obtain⟨hp,g,d,tk,os⟩:=s;unfold Builtin.«dict.__new__»;wp_walk
 exact h
theorem SH{T n_ M1:String}{Bi:Builtin}{J6:List (Str×Value)}{Q₁:Value->WS->Prop}(ft:TypeCalled T n_ M1)
  (hct:checkTypeCall T ⟨[],J6⟩=YV ()) (W_:entryFor table M1=some Bi)
  (y4:codeAny (Xn d7 w) A.in1 (.call (.builtin n_) ⟨[.type T],J6⟩) (wants Q₁ E) s)
  (K2:∀obj s₁,Q₁ obj s₁->s₁.TypeIs obj T/\c6 M1 ⟨[obj],J6⟩ /\
   Xq (Xn d7 w) A.in1.in1 (Bi ⟨[obj],J6⟩)
    (fun fin s'=>match fin with |.done f=>wants (fun r s2=>r=.none/\Q obj s2) E (.ok f) s' |.again c'=>c'.quiet=true/\codeAny (Xn d7 w) A.in1 c' (wants (fun r s2=>r=.none/\Q obj s2) E) s')
    (fun e s'=>wants (fun r s2=>r=.none/\Q obj s2) E (.error e) s') s₁) :
  Xq (Xn d7 w) A (call (.type T) [] J6) Q E s:=by
 refine gi ft.mro fun c tl Ξ=>?_;have Ο:=ft.made;have z4:=ft.sub;refine Zu (codeAny_of_tree ?_);show Xq _ _ (callAny (.type T) _) _ _ _;refine WN ⟨Code.quiet_builtin _ (by decide +kernel),ZJ F.entry_type_call ?_⟩;rw[Around.under_plain (weight_type_call_type T [] J6) rfl];have h1:=ft.notType;have h2:=ft.canCreate;repeat (any_goals (first |assumption |wp_step))
 refine codeAny_mono y4 fun r s₁ hr=>?_;cases r with
 |error e=>exact hr
 |ok fl =>
  cases fl with
  |ret obj =>
   refine cB (K2 _ _ hr) fun hT I6 hsi=>?_;have hli:=ft.init.lookup;have d_:=ft.init.bind obj;repeat (any_goals (first |assumption |wp_step))
   refine codeAny_mono (Zc ft.init.plain W_ (ft.init.check _ _ _ _ _ _ _ _ hT I6 hsi)) fun r2 s2 Q4=>?_;cases r2 with
   |error e=>exact Q4
   |ok fl2 =>
    cases fl2 with
    |ret r =>
     refine av Q4 fun O1 hq=>?_;clear Q4;subst O1;repeat (any_goals (first |assumption |wp_step))
    |_=>exact Q4.elim
  |_=>exact hr.elim
theorem HL{kvs:List (Str×Value)}{k:Str}{v:Value}:(stored kvs k v).length<=kvs.length+1:=by
 unfold stored;split
 ·rw[WP];exact Nat.le_succ _
 ·exact Nat.le_of_eq WV
theorem Ti{m l:Nat}(h:n+(l+1)<=k)(h':m<=n+1):m+l<=k:=XQ (Nat.add_le_add_right h' l) (XQ (Nat.le_of_eq (Nat.add_right_comm n 1 l)) h)
theorem TD{h0:Heap}(L:List (Str×Value)):∀(kvs:List (Str×Value)) (s:WS) (Q:Unit->WS->Prop),(∀p∈L,p.1.length<=XK)->kvs.length+L.length<=XK->s.heap.DictOf (XA d7 w) a kvs->Xz a h0 s.heap ->
  (∀h' tk,h'.DictOf (XA d7 w) a (L.foldl (fun m p=>stored m p.1 p.2) kvs)->Xz a h0 h'->Q () {s with heap:=h',toks:=tk})->Xq (Xn d7 w) A (Builtin.Dict.addKeywords a L) Q E s:=by
 unfold Builtin.Dict.addKeywords;intro kvs s Q hk hz hd hs hQ;refine WL ?_;have g_:∀h' tk,h'.DictOf (XA d7 w) a (L.foldl (fun m p=>stored m p.1 p.2) kvs)->Xz a h0 h'->(fun(_:PUnit) s'=>Xq (Xn d7 w) A (YV ()) Q E s') () {s with heap:=h',toks:=tk}:=fun h' tk d e=>WN (hQ h' tk d e);generalize (fun(_:PUnit) s'=>Xq (Xn d7 w) A (YV ()) Q E s')=Q' at g_ ⊢;clear hQ Q;induction L generalizing kvs s with
 |nil=>exact WN (g_ s.heap s.toks hd hs)
 |cons p L ih =>
  obtain⟨k,v⟩:=p;rw[List.forIn_cons];refine WL (WL (Zn (x:=k) (hx:=hk (k,v) (WM ..)) (WL ?_)));refine wpAny_dictSet_pairs (hsz:=XQ (Nat.le_add_right ..) hz) (k:=k) (knd:=XA d7 w) (by simp[XA,Value.isStrOf]) hd fun h1 d1 s1=>?_;exact WN (ih _ _ (fun q hq=>hk q (WO _ hq)) (Ti hz HL) d1 (hs.trans s1) g_)
theorem SD{v1 v2 v3 v4:Value}
  (h:∀h' tk,h'.DictOf (XA d7 w) s.heap.objs.size [(kI,v1),(kD,v2),(kR,v3),(kE,v4)]->Xz s.heap.objs.size (s.heap.push {cls:=.type "dict",data:=.dict #[]}) h'->Q (.ref s.heap.objs.size) {s with heap:=h',toks:=tk}) :
  Xq (Xn d7 w) A (call (.type "dict") [] [(kI,v1),(kD,v2),(kR,v3),(kE,v4)]) Q E s:=by
 refine SH (Q₁:=fun obj s₁=>obj=.ref s.heap.objs.size/\s₁={ s with heap:=s.heap.push {cls:=.type "dict",data:=.dict #[]} }) F.kt_called_dict (OA _ _ _ _) F.entry_dict_init (OC _ (OB _ _ _ _) ⟨rfl,rfl⟩) ?_;intro obj s₁ Y3;refine av Y3 fun j_ Û=>?_;clear Y3;subst j_;subst Û;have y4:(s.heap.push {cls:=.type "dict",data:=.dict #[]}).DictOf (XA d7 w) s.heap.objs.size []:=Heap.DictOf.new s.heap;refine⟨y4.typeIs,OD _ _ _ _ _,?_⟩;unfold Builtin.«dict.__init__»;refine WL ?_;unfold Builtin.Dict.selfAndRest;refine WL (wpAny_notOrdered_dict y4.typeIs ?_);show Xq _ _ (YV (s.heap.objs.size,[])) _ _ _;refine WN ?_;show Xq _ _ (Builtin.Dict.addKeywords s.heap.objs.size [(kI,v1),(kD,v2),(kR,v3),(kE,v4)]>>=fun O=>ret .none) _ _ _;refine WL ?_;refine TD (h0:=s.heap.push {cls:=.type "dict",data:=.dict #[]}) _ [] _ _ (fun p hp=>?_) (by show 4<=_;rw[Yq];decide) y4 (.refl _ _) fun h' tk d e=>WN ⟨rfl,h h' _ (show h'.DictOf (XA d7 w) _ [(kI,v1),(kD,v2),(kR,v3),(kE,v4)] from d) e⟩;have sz:∀x:Str,x.length<=20->x.length<=XK:=fun x h=>XQ h (by rw[Yq];decide);simp only[WT,YM,or_false] at hp;rcases hp with rfl |rfl |rfl |rfl
 ·exact sz kI (by decide)
 ·exact sz kD (by decide)
 ·exact sz kR (by decide)
 ·exact sz kE (by decide)
theorem Uh{px p1 p2 p3 p4:Pos}{q1 q2 q3 q4:Pos}{n1 n2 n3 n4:Nat}{t1 t2 t3 t4:Str}{led:aa}
  (hc:Yw (.Call (.Name x px) [] [⟨some kI,.Constant (.str t1) n1 p1,q1⟩,⟨some kD,.Constant (.str t2) n2 p2,q2⟩,⟨some kR,.Constant (.str t3) n3 p3,q3⟩,⟨some kE,.Constant (.str t4) n4 p4,q4⟩] pos) d8 =
   (do callWith pos (← Yw (.Name x px) d8) [] (Zy pos (XV [] d8)) (backToKw pos (keywordEach [⟨some kI,.Constant (.str t1) n1 p1,q1⟩,⟨some kD,.Constant (.str t2) n2 p2,q2⟩,⟨some kR,.Constant (.str t3) n3 p3,q3⟩,⟨some kE,.Constant (.str t4) n4 p4,q4⟩] d8))))
  (hx:bc B x (.typ "dict")) (hk:d8.kindOf x=some .globalImplicit) (hg:d8.globals=YD) (hb:d8.builtins=Zm) (hd:(x==("__debug__" : Str))=false)
  (h:∀d,d∉keys led->R (.ref d) ⟨loc,(d,au (XA d7 w) [(kI,.str t1),(kD,.str t2),(kR,.str t3),(kE,.str t4)])::led⟩) :
  T d7 w A B d8 Val (Yw (.Call (.Name x px) [] [⟨some kI,.Constant (.str t1) n1 p1,q1⟩,⟨some kD,.Constant (.str t2) n2 p2,q2⟩,⟨some kR,.Constant (.str t3) n3 p3,q3⟩,⟨some kE,.Constant (.str t4) n4 p4,q4⟩] pos) d8) ⟨loc,led⟩ R:=fun s Z S Q E hQ=>by
 rw[hc];refine WL (Fc (K:=fun v e9=>v=.typ "dict" /\ e9=⟨loc,led⟩) hx hk hg hb hd ⟨rfl,rfl⟩ s Z S _ _ fun v u s₁ Z1 j9 k₁ S1 V1 X1=>?_);refine av k₁ fun O1 O2=>?_;clear k₁;subst O1;subst O2
 (have e_:=V1.inv;subst e_)
 unfold callWith;have sz:∀n,n<10->n<=XK:=fun n h=>by rw[Yq];omega
 refine WL (Xc (evalArgs_kw_nil rfl ?_));show Xq (Xn d7 w) A (evalAll [(do let v ← Yw (.Constant (.str t1) n1 p1) d8;standAt pos;YV v),(do let v ← Yw (.Constant (.str t2) n2 p2) d8;standAt pos;YV v),(do let v ← Yw (.Constant (.str t3) n3 p3) d8;standAt pos;YV v),(do let v ← Yw (.Constant (.str t4) n4 p4) d8;standAt pos;YV v)]) _ E s₁;refine wpAny_evalAll_cons (WL (ZD (WL (XB (WN ?_)))));refine wpAny_evalAll_cons (WL (ZD (WL (XB (WN ?_)))));refine wpAny_evalAll_cons (WL (ZD (WL (XB (WN ?_)))));refine wpAny_evalAll_cons (WL (ZD (WL (XB (WN ?_)))));refine wpAny_evalAll_nil ?_;refine WL (XB (WL (WN ?_)));have fin:∀s2:WS,g8 B d8 s2 Z1 ⟨loc,led⟩->k8 (aw d8 ⟨loc,led⟩) s Z s2 Z1 (aw d8 ⟨loc,led⟩)->∀u1 u2 u3 u4:Tok,
   Xq (Xn d7 w) A (call (.type "dict") [] [(kI,.str t1 u1),(kD,.str t2 u2),(kR,.str t3 u3),(kE,.str t4 u4)]) (fun r s'=>Xq (Xn d7 w) A (do b9 [r] point;YV r) Q E s') E s2:=fun s2 S2 X2 u1 u2 u3 u4=>by
  refine SD fun h' tk U2 y3=>?_;have keep:∀b o,s2.heap.get? b=some o->h'.get? b=some o:=fun b o e=>y3.extBut b o (Ys (XT e)) (WX _ e);have P1:=S2.tof1.push (o:={ cls:=.type "dict",data:=.dict #[]}) (ao:=au (XA d7 w) []) rfl s2.toks (lW (s:={ s2 with heap:=s2.heap.push {cls:=.type "dict",data:=.dict #[]} }) (Heap.DictOf.new s2.heap) .nil);have P2:=P1.1.upd (led':=(s2.heap.objs.size,au (XA d7 w) [(kI,.str t1),(kD,.str t2),(kR,.str t3),(kE,.str t4)])::led) .here (h':=h') (tk:=tk) (fun b ob hb e=>(y3.2 b hb).trans e) rfl rfl
   (lW (s:={ s2 with heap:=h',toks:=tk}) U2 (.cons (.str _ _) (.cons (.str _ _) (.cons (.str _ _) (.cons (.str _ _) .nil)))))
  have J0:s2.heap.objs.size∉keys led:=S2.tof1.lfresh;refine WL (Xc (wpAny_point (WN (hQ (.ref s2.heap.objs.size) _ _ Z1 _ (h _ J0) (S2.after P2.1 (P1.2.trans P2.2)) (.ref _) (X2.trans ((P1.2.trans P2.2).toF (st:=⟨loc,led⟩)))))))
 have S2:=S1.toks (s₁.toks+1+1+1+1);have X2:=X1.trans (k8.toks (own:=aw d8 ⟨loc,led⟩) (s:=s₁) (Z:=Z1) (s₁.toks+1+1+1+1));have s8:=fin _ S2 X2 s₁.toks (s₁.toks+1) (s₁.toks+1+1) (s₁.toks+1+1+1);exact WL s8
theorem tT{d:Str}(h:d.length<10^4):(cW d).length<10^5:=by
 unfold cW;split
 ·show (sE).length<_;decide
 ·unfold tH;rw[Str.length_append,show (WR "\t").length=1 from by decide +kernel];omega
theorem tR{d:Str}(c:(((d.length:Nat):Int) != 0)=true):AV.str (tH d)=.str (cW d):=congrArg AV.str (if_neg fun q=>bne_iff_ne.mp c (by rw[q];rfl)).symm
theorem tS{d:Str}(c:(((d.length:Nat):Int) != 0)=false):AV.str sE=.str (cW d):=congrArg AV.str (if_pos (Int.ofNat_eq_zero.mp (bne_eq_false_iff_eq.mp c))).symm
theorem vG(i j:Nat)(xs:List Str):AV.lst (((xs.map AV.str).drop i).take (j-i))=.lst ((bw xs i j).map AV.str):=by unfold bw;rw[List.map_take,List.map_drop]
theorem vF{xs:List Str}(h:y∈bw xs i j):y∈xs:=List.mem_of_mem_drop (List.mem_of_mem_take h)
section
variable(a b:List Str)(ff tf fd td lt:Str)(n:Nat)
noncomputable abbrev fP(s v1 v2 v3 v4 v5 v6 v7 v8 v9 M0 L9 τ σ:AV):List (Str×AV) :=
 [(qD,.str lt),(jB,.int n),(qE,.str td),(qF,.str fd),(qG,.str tf),(qH,.str ff),(cZ,.lst (b.map .str)),(di,.lst (a.map .str)),
  (qI,v1),(wk,v2),(wj,v3),(wi,v4),(wh,v5),(wg,v6),(wf,v7),(mK,v8),(mO,v9),(mM,M0),(mN,L9),(mL,τ),(qC,σ),(wl,s)]
def JU(gs:List (List Op))(P:St->List AV->Prop):Prop:=∀s,(∀g∈gs,p6 a.length b.length g)->P ⟨fP a b ff tf fd td lt n (.bool s) .any .any .any .any .any .any .any .any .any .any .any .any .any,[]⟩ ((ek a b ff tf fd td lt s gs).map .str)
def KU(g:List Op)(gs:List (List Op))(Y:aa)(P:St->List AV->Prop):Prop:=P ⟨fP a b ff tf fd td lt n (.bool true) (bF g) .any .any .any .any .any .any .any .any .any .any .any .any,Y⟩ ((tE a b lt g++ek a b ff tf fd td lt true gs).map .str)
end
def JV(f:Op->List Str)(L:List (Str×AV))(Y:aa)(g:List Op)(rest:List Str)(os:List Op)(P:St->List AV->Prop):Prop:=(∀o∈os,o∈g)->P ⟨L,Y⟩ ((os.flatMap f++rest).map .str)
noncomputable def jZ(a:List Str)(o:Op):List Str:=if o.tag=cq∨o.tag=cN then (bw a o.i1 o.i2).map (Ll ++ ·) else []
noncomputable def iv(b:List Str)(o:Op):List Str:=if o.tag=cq∨o.tag=cM then (bw b o.j1 o.j2).map (Lk ++ ·) else []
section
variable{a b R:List Str}{o:Op}{os:List Op}
theorem Mv(c:o.tag=aZ):((o::os).flatMap (dN a b)++R).map AV.str=((bw a o.i1 o.i2).map (Lm ++ ·)).map .str++(os.flatMap (dN a b)++R).map .str:=by
 rw[List.flatMap_cons,Xv,show dN a b o=(bw a o.i1 o.i2).map (Lm ++ ·) from if_pos c,Xr]
theorem Mu(c : ¬ o.tag=aZ):((o::os).flatMap (dN a b)++R).map AV.str=(jZ a o++(iv b o++(os.flatMap (dN a b)++R))).map .str:=by
 rw[List.flatMap_cons,Xv,show dN a b o=jZ a o++iv b o from if_neg c,Xv]
theorem My(c:o.tag=cq∨o.tag=cN):(jZ a o++R).map AV.str=((bw a o.i1 o.i2).map (Ll ++ ·)).map .str++R.map .str:=by unfold jZ;rw[if_pos c,Xr]
theorem Mz(c : ¬ (o.tag=cq∨o.tag=cN)):(jZ a o++R).map AV.str=R.map .str:=by unfold jZ;rw[if_neg c];rfl
theorem Mw(c:o.tag=cq∨o.tag=cM):(iv b o++R).map AV.str=((bw b o.j1 o.j2).map (Lk ++ ·)).map .str++R.map .str:=by unfold iv;rw[if_pos c,Xr]
theorem Mx(c : ¬ (o.tag=cq∨o.tag=cM)):(iv b o++R).map AV.str=R.map .str:=by unfold iv;rw[if_neg c];rfl
end
theorem p6.at0{la lb:Nat}{g:List Op}(h:p6 la lb g):(g.map aM)[(0:Int).toNat]?=some (aV (aA g)):=by
 cases g with
 |nil=>exact absurd rfl h.ne
 |cons o os=>rfl
theorem p6.atL{la lb:Nat}{g:List Op}(h:p6 la lb g):∃os:List Op,g.map aM=os.map aM++[aV (ay g)]/\(os.map aM).length<10^9:=by
 refine ak h.last fun os e=>?_;refine bb os ((congrArg (List.map aM) e).trans Xr) ?_
 have:=h.len;rw[e,WV,Zj] at this;rw[WP];omega
section
variable{N:aa}{F:List XC}{M:List w9}
theorem yW{tl:List Stmt}{m:Nat}{c q p1 p2:Str}{px px2 pq pp1 pp2 psl psu pc pb D1 C_:Pos}{L:AV->List (Str×AV)}{l:aa}{xs:List Str}{rest:List AV}{u:AV}{K:g6->St->List AV->Prop}(hG:∀A:Xg,A.handled=none->C4 ⟨d7,w,A,B,d8,G,F,M⟩)(hm:5<=m)
  (hx:d8.kindOf x=some .local) (D_:∀u v,cg (L u) x v=L v) (hc:c.length<=10)
  (q0:∀A l',A.handled=none->∀ {K:AV->St->Prop},K (.lst (xs.map .str)) ⟨L u,l'⟩->T d7 w A B d8 Val (Yw (.Name q pq) d8) ⟨L u,l'⟩ K)
  (q1:∀A l',A.handled=none->∀ {K:AV->St->Prop},K (.int i) ⟨L u,l'⟩->T d7 w A B d8 Val (Yw (.Name p1 pp1) d8) ⟨L u,l'⟩ K)
  (q2:∀A l',A.handled=none->∀ {K:AV->St->Prop},K (.int j) ⟨L u,l'⟩->T d7 w A B d8 Val (Yw (.Name p2 pp2) d8) ⟨L u,l'⟩ K)
  (q3:∀A l' y,A.handled=none->∀ {K:AV->St->Prop},K (.str y) ⟨L (.str y),l'⟩->T d7 w A B d8 Val (Yw (.Name x px2) d8) ⟨L (.str y),l'⟩ K)
  (A9:i<=j) (hj:j<=xs.length) (hl:xs.length<=10^6) (P7:∀y∈xs,y.length<10^4) (hd:∀v,TG d7 w B N n m d8 (execs tl d8) ⟨L v,l⟩ rest K)
  (hs:∀v,ZI (.Subscript (.Name q pq) (.Slice (some (.Name p1 pp1)) (some (.Name p2 pp2)) none psl) psu) d8 v=YV v) (C6:d8.scope.isCoroutine=false) (hi:interactive d8=false) :
  TG d7 w B N n m d8 (execs (.For (.Name x px) (.Subscript (.Name q pq) (.Slice (some (.Name p1 pp1)) (some (.Name p2 pp2)) none psl) psu) [.Expr (.Yield (some (.BinOp (.Constant (.str c) k pc) .Add (.Name x px2) pb)) D1) C_] [] pos::tl) d8) ⟨L u,l⟩ (((bw xs i j).map (c ++ ·)).map .str++rest) K :=
 yX hm hx D_
  (fun A hA led hN=>yZ (fun O O=>rfl) (q0 _ _ hA.h (q1 _ _ hA.h (q2 _ _ hA.h ⟨_,i,j,.frz,rfl,rfl,A9,by rw[WP];exact hj,by rw[WP,Yq];omega,vG .. ▸ .mk⟩))))
  (fun A hA l' O y hy=>zb (EZ (q3 _ _ _ hA.h (uG (by have:=P7 y (vF hy);omega) .mk))))
  hd hs C6 hi
end
theorem Fb{o:Expr}{px C3:Pos}{args:List Expr}{a b:List Str}{l led N:aa}{J:List AV->St->List AV->Prop}
  (hA:g7 A 150) (hn:n<10^5) (ha:a.length<10^5) (hb:b.length<4000) (D5:(aW (aN a b) (0,a.length,0,b.length)).length<64)
  (B1:attributeBase o jQ d8 (Yw o d8)=Yw o d8)
  (M8:((Zy pos (XV args d8)).all (fun x => !x.1)&&(backToKw pos (keywordEach [] d8)).all (fun x=>x.1.isSome)
   && decide (args.length+([]:List Keyword).length+(if ([]:List Keyword).isEmpty then 0 else 1)<30))=true)
  (A6:(C3.endLine==pos.line)=true)
  (ho:∀K,FC af w A (aj w) d8 (.ref 242) [.none,.lst (a.map .str),.lst (b.map .str)] [] ⟨loc,l++led⟩ K->T af w A (aj w) d8 Val (Yw o d8) ⟨loc,l++led⟩ K)
  (hc:∀v led' K,FC af w A (aj w) d8 (.ref 218) [v,.int n] [] ⟨loc,led'⟩ K->CA af w A (aj w) d8 pos (.ref 218) [v] args ⟨loc,led'⟩ K)
  (hj:J ((bL n (bN (aP (aN a b) a.length b.length))).map bF) ⟨loc,l⟩ f0) :
  T af w A (aj w) d8 Val (Yw (.Call (.Attribute o jQ C3) args [] pos) d8) ⟨loc,l++led⟩ fun v j9=>F1 af w A (aj w) d8 Val pyIter v j9 (V8 af w (aj w) N 104 (.Name x px) led J f0) :=
 gK (K:=KB w.params) (C:=242) (f:=218) B1 M8 A6 (aS _) @_ @_ (ho _ (fy (NO (hA.mono ⋯) hb) (NQ fun md dj jk pp mm y7 T7 =>
  Y'.mk (WM ..) @_ (hc _ _ _ (FF (o8:=bA w md dj jk pp a b mm .none .none []++(l++led)) (.refl _) (PG (N:=N) (hA.mono ⋯) hn ha ⋯ D5 y7 T7) (n8.elim fun ga gn gs gl F8 =>
   bb _ (E8.refl _) (FW (bG w) F8 fun hI => .mk (hI _ _) hj)))))))
theorem GU{a b:List Str}{ff tf fd td lt:Str}{led N:aa}(hA:g7 A 200)(hn:n<10^5)(ha:a.length<10^5)(hb:b.length<4000)
  (μ:ff.length<10^4) (ε:tf.length<10^4) (x_:fd.length<10^4) (q_:td.length<10^4) (l8:lt.length<10^4) (P7:∀x∈a,x.length<10^4) (η:∀x∈b,x.length<10^4) (D5:(aW (aN a b) (0,a.length,0,b.length)).length<64) :
  TC af w A (aj w) (.ref 261) [.lst (a.map .str),.lst (b.map .str),.str ff,.str tf,.str fd,.str td,.int n,.str lt] [] led
   (n8 af w (aj w) N 153 ((ek a b ff tf fd td lt false (bL n (bN (aP (aN a b) a.length b.length)))).map .str) led):=by
 refine zc (m:=150) (fP a b ff tf fd td lt n .any .any .any .any .any .any .any .any .any .any .any .any .any .any) (bG w) hA.lt (fun O O O O O O O O=>@_) @_ @_ (DG _) fun L=>?_;have hG:=fun(A:Xg) (hh:A.handled=none)=>(((((((gk w A (az (ls w.params)) L 261 260 @_ @_ hh).g (Dx w) @_ @_).g (Dy w) @_ @_).g (PQ w) @_ @_).f (f:=283) (bK @_)).f (f:=253) (bK @_)).f (f:=242) (bK @_)).m ⟨Lz,0, "str.format"⟩ jY qo F.type_str_format_m;refine bJ [] (fun A' f8 led' l3=>aD (hG A' f8.h) 20 .mk) ?_;refine bJ [] (fun A' f8 led' l3=>aD (hG A' f8.h) 40 (f7.mk (cY (Ew (f8.mono ⋯) ⋯ ⋯) .mk))) ?_;refine bJ [] (fun A' f8 led' l3=>aD (hG A' f8.h) 20 .mk) ?_;have G0:=ym a b n ha;refine gJ (k:=104) bF (JU a b ff tf fd td lt n) ⋯ ?_ ?_ (fun O O=>be rfl) (fun O=>@_)
 ·intro A' f8 led' l3;exact Fb (l:=[]) (f8.mono ⋯) hn ha hb D5 @_ @_ @_ (fun O h=>ae (hG A' f8.h) 40 (f7.mk h)) (fun O O O h=>cp @_ (bK @_) (bD (hG A' f8.h) 20 h)) (.mk (fun O y=>y false G0) @_)
 ·intro gl g gs s G0;have hg:=G0 g (WM ..);have Q_:=fun g' h'=>G0 g' (WO _ h');clear G0;refine .mk (fun A' f8 led' l3=>bp (aR rfl rfl)) ?_;refine ez (KU a b ff tf fd td lt n g gs gl) (eT (p:=s=false) (fun A' f8 led' l3=>bZ (hG A' f8.h) 20 ⟨rfl,by cases s <;> decide⟩) (fun c=>?_) fun c=>?_) ?_
  ·subst c;refine bJ gl (fun A' f8 led' l3=>aD (hG A' f8.h) 20 .mk) ?_;refine bJ gl (fun A' f8 led' l3=>gI (T.to (.str (cW fd)) (ae (hG A' f8.h) 20 (f7.mk (pK ⋯ (cE (fun c=>f7.mk (uD ⋯ ⟨tR c,rfl⟩)) fun c=>⟨tS c,rfl⟩)))) (aR rfl .mk)) @_) ?_;refine bJ gl (fun A' f8 led' l3=>gI (T.to (.str (cW td)) (ae (hG A' f8.h) 20 (f7.mk (pK ⋯ (cE (fun c=>f7.mk (uD ⋯ ⟨tR c,rfl⟩)) fun c=>⟨tS c,rfl⟩)))) (aR rfl .mk)) @_) ?_;have d1:=tT x_;have d2:=tT q_;refine fw gl (fun A' f8 led' l3=>ae (hG A' f8.h) 20 (f7.mk (Fz ⋯ d1 ⋯ .mk))) ?_ @_ @_;refine fw gl (fun A' f8 led' l3=>ae (hG A' f8.h) 20 (f7.mk (Vy ⋯ d2 ⋯ .mk))) ?_ @_ @_;exact be (F4.mk (fun O y=>y) @_)
  ·cases s with
   |true=>exact be (F4.mk (fun O y=>y) @_)
   |false=>exact absurd rfl c
  ·have hf1:=hg.ii;have Ä:=hg.jj;refine av hg.i2 fun M' b_=>?_;refine ad hg.atL fun osL eL nL=>?_;refine bJ gl (fun A' f8 led' l3=>aD (hG A' f8.h) 40 (f7.mk (fA .frz (by decide) (by decide) (x:=aV (aA g)) hg.at0 (f7.mk (uF (xs:=osL.map aM) (x:=aV (ay g)) .frz eL nL .mk))))) ?_;refine bJ gl (fun A' f8 led' l3=>aD (hG A' f8.h) 40 (f7.mk (eU (by decide) (by decide) (x:=.int (aA g).i1) rfl (f7.mk (eU (by decide) (by decide) (x:=.int (ay g).i2) rfl (f7.mk (cY (AW (f8.mono ⋯) ⋯ ⋯ ⋯) .mk))))))) ?_;refine bJ gl (fun A' f8 led' l3=>aD (hG A' f8.h) 40 (f7.mk (eU (by decide) (by decide) (x:=.int (aA g).j1) rfl (f7.mk (eU (by decide) (by decide) (x:=.int (ay g).j2) rfl (f7.mk (cY (AW (f8.mono ⋯) ⋯ ⋯ ⋯) .mk))))))) ?_;have r1:=qt (a:=(aA g).i1) (b:=(ay g).i2) ⋯ ⋯ ⋯;have r2:=qt (a:=(aA g).j1) (b:=(ay g).j2) ⋯ ⋯ ⋯;refine fw gl (fun A' f8 led' l3=>ae (hG A' f8.h) 40 (f7.mk (VC ⋯ ⋯ ⋯ .mk))) ?_ @_ @_;refine gJ (k:=5) aM (JV (dN a b) (fP a b ff tf fd td lt n (.bool true) (bF g) .any .any (aV (aA g)) (aV (ay g)) (.str (bx (aA g).i1 (ay g).i2)) (.str (bx (aA g).j1 (ay g).j2)) .any .any .any .any .any .any) gl g (ek a b ff tf fd td lt true gs)) ⋯ (fun A' f8 led' l3=>ae (hG A' f8.h) 20 (gh (k:=5) fun it gl' hI => .mk (l:=gl) hI (.mk (fun O y=>y fun o ho=>ho) @_))) ?_ (fun O=>be ?_) (fun O=>@_);case refine_2=>exact .next (l:=[]) (.mk (fun O y=>y true Q_) @_)
   intro gl' o os t7;have ho:=t7 o (WM ..);have t7:=fun o' h'=>t7 o' (WO _ h');have hi:=hg.i o ho;have hj:=hg.j o ho;refine .mk (fun A' f8 led' l3=>dv f8.h @_ @_ @_ (cz _ rfl _ _ rfl rfl rfl)) ?_;refine cm (eT (p:=o.tag=aZ) (fun A' f8 led' l3=>bZ (hG A' f8.h) 20 ⟨rfl,beq_iff_eq⟩) (fun c=>?_) fun c=>be ?_)
   ·refine TG.eq (Mv c) ?_;refine yW (c:=Lm) (xs:=a) (i:=o.i1) (j:=o.i2) (L:=(fun v=>fP a b ff tf fd td lt n (.bool true) (bF g) .any .any (aV (aA g)) (aV (ay g)) (.str (bx (aA g).i1 (ay g).i2)) (.str (bx (aA g).j1 (ay g).j2)) (.str o.tag) (.int (o.i1:Nat)) (.int (o.i2:Nat)) (.int (o.j1:Nat)) (.int (o.j2:Nat)) v)) (m:=150) hG ⋯ ?_ ?_ (by decide) ?_ ?_ ?_ ?_ hi.1 hi.2 ?_ P7 (fun v=>?_) ?_ ?_ ?_
    ·kernel_rfl
    ·exact fun u v=>@_
    ·exact fun A l' hh {_} k=>ae (hG A hh) 5 k
    ·exact fun A l' hh {_} k=>ae (hG A hh) 5 k
    ·exact fun A l' hh {_} k=>ae (hG A hh) 5 k
    ·exact fun A l' y hh {_} k=>ae (hG A hh) 5 k
    ·omega
    ·exact cm (EY fun A' f8 led' l3=>EV ⟨_,rfl,trivial,.cont (l:=gl) (.mk (fun O y=>y t7) @_)⟩)
    ·exact fun O=>@_
    ·kernel_rfl
    ·kernel_rfl
   ·refine TG.eq (Mu c) ?_;refine ez (fun P=>P ⟨fP a b ff tf fd td lt n (.bool true) (bF g) .any .any (aV (aA g)) (aV (ay g)) (.str (bx (aA g).i1 (ay g).i2)) (.str (bx (aA g).j1 (ay g).j2)) (.str o.tag) (.int (o.i1:Nat)) (.int (o.i2:Nat)) (.int (o.j1:Nat)) (.int (o.j2:Nat)) .any,gl++gl'⟩ ((iv b o++(os.flatMap (dN a b)++ek a b ff tf fd td lt true gs)).map .str)) (eT (p:=o.tag=cq∨o.tag=cN) (fun A' f8 led' l3=>Fh @_ @_ (ae (hG A' f8.h) 20 (by exact ed o.tag rfl rfl (by rw[Bool.or_eq_true,beq_iff_eq,beq_iff_eq])))) (fun c=>?_) fun c=>TG.eq (Mz c) (be (F4.mk (fun O y=>y) @_))) ?_
    ·refine TG.eq (My c) ?_;refine yW (c:=Ll) (xs:=a) (i:=o.i1) (j:=o.i2) (L:=(fun v=>fP a b ff tf fd td lt n (.bool true) (bF g) .any .any (aV (aA g)) (aV (ay g)) (.str (bx (aA g).i1 (ay g).i2)) (.str (bx (aA g).j1 (ay g).j2)) (.str o.tag) (.int (o.i1:Nat)) (.int (o.i2:Nat)) (.int (o.j1:Nat)) (.int (o.j2:Nat)) v)) (m:=150) hG ⋯ ?_ ?_ (by decide) ?_ ?_ ?_ ?_ hi.1 hi.2 ?_ P7 (fun v=>?_) ?_ ?_ ?_
     ·kernel_rfl
     ·exact fun u v=>@_
     ·exact fun A l' hh {_} k=>ae (hG A hh) 5 k
     ·exact fun A l' hh {_} k=>ae (hG A hh) 5 k
     ·exact fun A l' hh {_} k=>ae (hG A hh) 5 k
     ·exact fun A l' y hh {_} k=>ae (hG A hh) 5 k
     ·omega
     ·exact be (F4.mk (fun O y=>y) @_)
     ·exact fun O=>@_
     ·kernel_rfl
     ·kernel_rfl
    ·refine ez (fun P=>P ⟨fP a b ff tf fd td lt n (.bool true) (bF g) .any .any (aV (aA g)) (aV (ay g)) (.str (bx (aA g).i1 (ay g).i2)) (.str (bx (aA g).j1 (ay g).j2)) (.str o.tag) (.int (o.i1:Nat)) (.int (o.i2:Nat)) (.int (o.j1:Nat)) (.int (o.j2:Nat)) .any,gl++gl'⟩ ((os.flatMap (dN a b)++ek a b ff tf fd td lt true gs).map .str)) (eT (p:=o.tag=cq∨o.tag=cM) (fun A' f8 led' l3=>Fh @_ @_ (ae (hG A' f8.h) 20 (by exact ed o.tag rfl rfl (by rw[Bool.or_eq_true,beq_iff_eq,beq_iff_eq])))) (fun c=>?_) fun c=>TG.eq (Mx c) (be (F4.mk (fun O y=>y) @_))) (be (.next (l:=gl) (.mk (fun O y=>y t7) @_)));refine TG.eq (Mw c) ?_;refine yW (c:=Lk) (xs:=b) (i:=o.j1) (j:=o.j2) (L:=(fun v=>fP a b ff tf fd td lt n (.bool true) (bF g) .any .any (aV (aA g)) (aV (ay g)) (.str (bx (aA g).i1 (ay g).i2)) (.str (bx (aA g).j1 (ay g).j2)) (.str o.tag) (.int (o.i1:Nat)) (.int (o.i2:Nat)) (.int (o.j1:Nat)) (.int (o.j2:Nat)) v)) (m:=150) hG ⋯ ?_ ?_ (by decide) ?_ ?_ ?_ ?_ hj.1 hj.2 ?_ η (fun v=>?_) ?_ ?_ ?_
     ·kernel_rfl
     ·exact fun u v=>@_
     ·exact fun A l' hh {_} k=>ae (hG A hh) 5 k
     ·exact fun A l' hh {_} k=>ae (hG A hh) 5 k
     ·exact fun A l' hh {_} k=>ae (hG A hh) 5 k
     ·exact fun A l' y hh {_} k=>ae (hG A hh) 5 k
     ·omega
     ·exact be (F4.mk (fun O y=>y) @_)
     ·exact fun O=>@_
     ·kernel_rfl
     ·kernel_rfl
theorem DD(w:Xo)(K':Frag)(h:∀a o,(KB w.params).lookup a=some o->(am K') a=some o):m3 (am K'):=⟨fun s hs=>⟨fun O=>none,by
 have e:=hs 2 _ (h 2 _ (show aj w 2=some (boot_o_2 w.params) from @_));exact Va _ (#[]) 0 e @_ (fun O h=>by simp at h) (fun O=>rfl),rfl⟩⟩
noncomputable abbrev eD:Str:=⟨⟨[99,111,110,116,101,120,116,95,100,105,102,102,46,60,108,111,99,97,108,115,62,46,60,103,101,110,101,120,112,114,62]⟩⟩
noncomputable abbrev HC:XC×i9:=(271,bM eD)
noncomputable def eH(t:Str):Str:=if t=cM then Li else if t=cN then Lh else if t=cq then Lg else Le
noncomputable abbrev eG:List (Str×AV):=[(kI,.str Li),(kD,.str Lh),(kR,.str Lg),(kE,.str Le)]
theorem BV{t:Str}(h:um t):aI eG t=some (.str (eH t)):=by
 rcases h with rfl |rfl |rfl |rfl <;> rfl
theorem qK(t:Str):(eH t).length=2:=by
 unfold eH;split
 ·rfl
 ·split
  ·rfl
  ·split <;> rfl
theorem Eg:Yx (.type "dict") "__getitem__" = YV (some (.builtin "dict.__getitem__")):=F.slot_dict_getitem.lookup
noncomputable def pd(o:Op):Bool:=o.tag==cq||o.tag==cN
noncomputable def oZ(o:Op):Bool:=o.tag==cq||o.tag==cM
noncomputable def dR(a:List Str)(o:Op):List Str:=if o.tag=cM then [] else (bw a o.i1 o.i2).map (eH o.tag ++ ·)
noncomputable def dQ(b:List Str)(o:Op):List Str:=if o.tag=cN then [] else (bw b o.j1 o.j2).map (eH o.tag ++ ·)
noncomputable def lR(a:List Str)(g:List Op):List Str:=if (g.map pd).any id then g.flatMap (dR a) else []
noncomputable def fT(b:List Str)(g:List Op):List Str:=if (g.map oZ).any id then g.flatMap (dQ b) else []
noncomputable abbrev Ay:Str:=Lc
noncomputable def lS(a b:List Str)(lt:Str)(g:List Op):List Str :=
 (Ay++lt)::yy (bz (aA g).i1 (ay g).i2) lt::(lR a g++lV (bz (aA g).j1 (ay g).j2) lt::fT b g)
noncomputable def yl(ff tf fd td lt:Str):List Str:=[DI ff (cW fd) lt,yx tf (cW td) lt]
noncomputable def dh(a b:List Str)(ff tf fd td lt:Str):Bool->List (List Op)->List Str
 |_,[]=>[]
 |started,g::gs=>(if started then [] else yl ff tf fd td lt)++(lS a b lt g++dh a b ff tf fd td lt true gs)
section
variable{a b R:List Str}{g os:List Op}{o:Op}{lt:Str}
theorem Px:(lS a b lt g++R).map AV.str=.str (Ay++lt) :: .str (yy (bz (aA g).i1 (ay g).i2) lt)::(lR a g++(lV (bz (aA g).j1 (ay g).j2) lt::(fT b g++R))).map .str:=by
 unfold lS;rw[WZ,WZ,Xv];rfl
theorem Pq(c:(g.map pd).any id=true):(lR a g++R).map AV.str=(g.flatMap (dR a)++R).map .str:=by rw[show lR a g=_ from if_pos c]
theorem Pr(c : ¬ (g.map pd).any id=true):(lR a g++R).map AV.str=R.map .str:=by rw[show lR a g=_ from if_neg c];rfl
theorem Po(c:(g.map oZ).any id=true):(fT b g++R).map AV.str=(g.flatMap (dQ b)++R).map .str:=by rw[show fT b g=_ from if_pos c]
theorem Pp(c : ¬ (g.map oZ).any id=true):(fT b g++R).map AV.str=R.map .str:=by rw[show fT b g=_ from if_neg c];rfl
theorem MD(c:o.tag≠cM):((o::os).flatMap (dR a)++R).map AV.str=((bw a o.i1 o.i2).map (eH o.tag ++ ·)).map .str++(os.flatMap (dR a)++R).map .str:=by rw[List.flatMap_cons,Xv,show dR a o=_ from if_neg c,Xr]
theorem MF(c : ¬ o.tag≠cM):((o::os).flatMap (dR a)++R).map AV.str=(os.flatMap (dR a)++R).map .str:=by rw[List.flatMap_cons,Xv,show dR a o=_ from if_pos (Decidable.not_not.mp c)];rfl
theorem MA(c:o.tag≠cN):((o::os).flatMap (dQ b)++R).map AV.str=((bw b o.j1 o.j2).map (eH o.tag ++ ·)).map .str++(os.flatMap (dQ b)++R).map .str:=by rw[List.flatMap_cons,Xv,show dQ b o=_ from if_neg c,Xr]
theorem MC(c : ¬ o.tag≠cN):((o::os).flatMap (dQ b)++R).map AV.str=(os.flatMap (dQ b)++R).map .str:=by rw[List.flatMap_cons,Xv,show dQ b o=_ from if_pos (Decidable.not_not.mp c)];rfl
end
section
variable(a b:List Str)(ff tf fd td lt:Str)(n:Nat)(d:XC)(D:aa)
noncomputable abbrev et(s v1 v4 v5 v6 v7 v8 v9 M0 L9 τ σ v14 d:AV):List (Str×AV) :=
 [(qD,.str lt),(jB,.int n),(qE,.str td),(qF,.str fd),(qG,.str tf),(qH,.str ff),(cZ,.lst (b.map .str)),(di,.lst (a.map .str)),
  (qI,v1),(wk,.any),(wj,.any),(wi,v4),(wh,v5),(wg,v6),(wf,v7),(mK,v8),(mO,v9),(mM,M0),(BF,L9),(mN,τ),(mL,σ),(qC,v14),(BG,d),(wl,s)]
def JC(gs:List (List Op))(P:St->List AV->Prop):Prop:=∀s,(∀g∈gs,p6 a.length b.length g)->P ⟨et a b ff tf fd td lt n (.bool s) .any .any .any .any .any .any .any .any .any .any .any .any (.ref d),D⟩ ((dh a b ff tf fd td lt s gs).map .str)
def KH(g:List Op)(gs:List (List Op))(Y:aa)(P:St->List AV->Prop):Prop:=P ⟨et a b ff tf fd td lt n (.bool true) (bF g) .any .any .any .any .any .any .any .any .any .any .any (.ref d),Y⟩ ((lS a b lt g++dh a b ff tf fd td lt true gs).map .str)
noncomputable abbrev lN(g:List Op)(v7 v8 v9 M0 L9 τ σ:AV):List (Str×AV):=et a b ff tf fd td lt n (.bool true) (bF g) (aV (aA g)) (aV (ay g)) (.str (bz (aA g).i1 (ay g).i2)) v7 v8 v9 M0 L9 τ σ .any (.ref d)
end
theorem RV{a b:List Str}{ff tf fd td lt:Str}{led N:aa}(hA:g7 A 200)(ö:HC∈N)(hn:n<10^5)(ha:a.length<10^5)(hb:b.length<4000)
  (μ:ff.length<10^4) (ε:tf.length<10^4) (x_:fd.length<10^4) (q_:td.length<10^4) (l8:lt.length<10^4) (P7:∀x∈a,x.length<10^4) (η:∀x∈b,x.length<10^4)
  (D5:(aW (aN a b) (0,a.length,0,b.length)).length<64) :
  TC af w A (aj w) (.ref 276) [.lst (a.map .str),.lst (b.map .str),.str ff,.str tf,.str fd,.str td,.int n,.str lt] [] led
   (n8 af w (aj w) N 153 ((dh a b ff tf fd td lt false (bL n (bN (aP (aN a b) a.length b.length)))).map .str) led):=by
 refine zc (m:=150) (et a b ff tf fd td lt n .any .any .any .any .any .any .any .any .any .any .any .any .any .any) (bG w) hA.lt (fun O O O O O O O O=>@_) @_ @_ (DF _) fun L=>?_;have hG:=fun(A:Xg) (hh:A.handled=none)=>((((((((gk w A (az (ln w.params)) L 276 275 @_ @_ hh).g (Dx w) @_ @_).g (Dy w) @_ @_).g (PR w) @_ @_).g (PV w) @_ @_).f (f:=283) (bK @_)).f (f:=268) (bK @_)).f (f:=242) (bK @_)).m ⟨Lz,0, "str.format"⟩ jY qo F.type_str_format_m;refine bJ [] (fun A' f8 led' l3=>aD (hG A' f8.h) 20 .mk) ?_;refine bJ [] (fun A' f8 led' l3=>aD (hG A' f8.h) 40 (f7.mk (cY (Ew (f8.mono ⋯) ⋯ ⋯) .mk))) ?_;refine cm (du fun A' f8 led' l3=>gI (Uh @_ (PT w) @_ @_ @_ @_ fun d hd=>aR rfl (.mk [(d,au (XA af w) eG)] ?_)) @_);refine bJ [(d,au (XA af w) eG)] (fun A' f8 led' l3=>aD (hG A' f8.h) 20 .mk) ?_;refine gJ (k:=104) bF (JC a b ff tf fd td lt n d [(d,au (XA af w) eG)]) ⋯ ?_ ?_ (fun O O=>be rfl) (fun O=>@_)
 ·intro A' f8 led' l3;exact Fb (l:=[(d,au (XA af w) eG)]) (f8.mono ⋯) hn ha hb D5 @_ @_ @_ (fun O h=>ae (hG A' f8.h) 40 (f7.mk h)) (fun O O O h=>cp @_ (bK @_) (bD (hG A' f8.h) 20 h)) (.mk (fun O y=>y false (ym a b n ha)) @_)
 ·intro gl g gs s G0;have hg:=G0 g (WM ..);have Q_:=fun g' h'=>G0 g' (WO _ h');clear G0;refine .mk (fun A' f8 led' l3=>bp (aR rfl rfl)) ?_;generalize hX:[(d,au (XA af w) eG)]++gl=X;have hdX:(d,au (XA af w) eG)∈X:=hX▸WM ..;refine ez (KH a b ff tf fd td lt n d g gs X) (eT (p:=s=false) (fun A' f8 led' l3=>bZ (hG A' f8.h) 20 ⟨rfl,by cases s <;> decide⟩) (fun c=>?_) fun c=>?_) ?_
  ·subst c;refine bJ X (fun A' f8 led' l3=>aD (hG A' f8.h) 20 .mk) ?_;refine bJ X (fun A' f8 led' l3=>gI (T.to (.str (cW fd)) (ae (hG A' f8.h) 20 (f7.mk (pK ⋯ (cE (fun c=>f7.mk (uD ⋯ ⟨tR c,rfl⟩)) fun c=>⟨tS c,rfl⟩)))) (aR rfl .mk)) @_) ?_;refine bJ X (fun A' f8 led' l3=>gI (T.to (.str (cW td)) (ae (hG A' f8.h) 20 (f7.mk (pK ⋯ (cE (fun c=>f7.mk (uD ⋯ ⟨tR c,rfl⟩)) fun c=>⟨tS c,rfl⟩)))) (aR rfl .mk)) @_) ?_;have d1:=tT x_;have d2:=tT q_;refine fw X (fun A' f8 led' l3=>ae (hG A' f8.h) 20 (f7.mk (Vz ⋯ d1 ⋯ .mk))) ?_ @_ @_;refine fw X (fun A' f8 led' l3=>ae (hG A' f8.h) 20 (f7.mk (Fz ⋯ d2 ⋯ .mk))) ?_ @_ @_;exact be (F4.mk (fun O y=>y) @_)
  ·cases s with
   |true=>exact be (F4.mk (fun O y=>y) @_)
   |false=>exact absurd rfl c
  ·have hf1:=hg.ii;have Ä:=hg.jj;refine av hg.i2 fun M' b_=>?_;refine ad hg.atL fun osL eL nL=>?_;have r1:=qw (a:=(aA g).i1) (b:=(ay g).i2) ⋯ ⋯ ⋯;have r2:=qw (a:=(aA g).j1) (b:=(ay g).j2) ⋯ ⋯ ⋯;refine TG.eq Px ?_;refine bJ X (fun A' f8 led' l3=>aD (hG A' f8.h) 40 (f7.mk (fA .frz (by decide) (by decide) (x:=aV (aA g)) hg.at0 (f7.mk (uF (xs:=osL.map aM) (x:=aV (ay g)) .frz eL nL .mk))))) ?_;refine fw X (fun A' f8 led' l3=>ae (hG A' f8.h) 20 (f7.mk (uG (by show 15+lt.length<_;omega) .mk))) ?_ @_ @_;refine bJ X (fun A' f8 led' l3=>aD (hG A' f8.h) 40 (f7.mk (eU (by decide) (by decide) (x:=.int (aA g).i1) rfl (f7.mk (eU (by decide) (by decide) (x:=.int (ay g).i2) rfl (f7.mk (cY (AX (f8.mono ⋯) ⋯ ⋯ ⋯) .mk))))))) ?_;refine fw X (fun A' f8 led' l3=>ae (hG A' f8.h) 20 (f7.mk (VB ⋯ ⋯ .mk))) ?_ @_ @_;refine ez (fun P=>P ⟨lN a b ff tf fd td lt n d g .any .any .any .any .any .any .any,X⟩ ((lV (bz (aA g).j1 (ay g).j2) lt::(fT b g++dh a b ff tf fd td lt true gs)).map .str)) (eT (p:=(g.map pd).any id=true) (fun A' f8 led' l3=>?_) (fun c=>TG.eq (Pq c) ?_) fun c=>TG.eq (Pr c) (be (F4.mk (fun O y=>y) @_))) ?_
   ·refine pB (pA @_ (ae (hG A' f8.h) 5 (Gd (K:=KB w.params) (c:=275) (P:=271) (q:=eD) [LC,mK,BF] aM pd (gs:=g) (m:=100) (bi:=Zm) (DD w) ⋯ (f8.mono ⋯) @_ @_ @_ @_ @_ @_ @_ (fun O=>@_) @_ @_ @_ @_ @_ @_ ?_ ?_ ?_ (uH ⟨rfl,Iff.rfl⟩)))) @_
    ·exact Xx _ (l3 _ ö)
    ·exact ae (hG A' f8.h) 5 ⟨rfl,rfl⟩
    ·intro K' l4 c' L' hK' U3 Ê o ho A'' D8 ψ;subst U3;exact dv (vs:=[.str o.tag,.int o.i1,.int o.i2,.int o.j1,.int o.j2]) D8.h @_ @_ @_ (cz _ rfl _ _ rfl rfl (Ff (fun s X Q h=>kds_main X Ê h) @_ (ae (dX @_ @_ @_ @_ D8.h) 5 ⟨o.tag,rfl,rfl,rfl,@_⟩)))
   ·refine gJ (k:=5) aM (JV (dR a) (lN a b ff tf fd td lt n d g .any .any .any .any .any .any .any) X g (lV (bz (aA g).j1 (ay g).j2) lt::(fT b g++dh a b ff tf fd td lt true gs))) ⋯ (fun A' f8 led' l3=>ae (hG A' f8.h) 20 (gh (k:=5) fun it gl' hI => .mk (l:=X) hI (.mk (fun O y=>y fun o ho=>ho) @_))) ?_ (fun O=>be (F4.mk (fun O y=>y) @_)) (fun O=>@_);intro gl' o os t7;have ho:=t7 o (WM ..);have t7:=fun o' h'=>t7 o' (WO _ h');have hi:=hg.i o ho;have È:(d,au (XA af w) eG)∈X++gl':=Yc _ hdX;refine .mk (fun A' f8 led' l3=>dv f8.h @_ @_ @_ (cz _ rfl _ _ rfl rfl rfl)) ?_;refine ez (fun P=>P ⟨lN a b ff tf fd td lt n d g .any (.str o.tag) (.int (o.i1:Nat)) (.int (o.i2:Nat)) (.int (o.j2:Nat)) .any .any,X++gl'⟩ ((os.flatMap (dR a)++(lV (bz (aA g).j1 (ay g).j2) lt::(fT b g++dh a b ff tf fd td lt true gs))).map .str)) (eT (p:=o.tag≠cM) (fun A' f8 led' l3=>bZ (hG A' f8.h) 20 ⟨rfl,bne_iff_ne⟩) (fun c=>TG.eq (MD c) ?_) fun c=>TG.eq (MF c) (be (F4.mk (fun O y=>y) @_))) (be (.next (l:=X) (.mk (fun O y=>y t7) @_)));refine yX (xs:=bw a o.i1 o.i2) (f:=fun y=>eH o.tag++y) (L:=fun v=>et a b ff tf fd td lt n (.bool true) (bF g) (aV (aA g)) (aV (ay g)) (.str (bz (aA g).i1 (ay g).i2)) .any (.str o.tag) (.int (o.i1:Nat)) (.int (o.i2:Nat)) (.int (o.j2:Nat)) .any .any v (.ref d)) ⋯ @_ (fun u v=>@_) ?_ ?_ (fun v=>be (F4.mk (fun O y=>y) @_)) (fun O=>@_) @_ @_
    ·exact fun A' f8 led' l3=>yZ (fun O O=>@_) (ae (hG A' f8.h) 5 (ae (hG A' f8.h) 5 (ae (hG A' f8.h) 5 ⟨a.map AV.str,o.i1,o.i2,.frz,rfl,rfl,hi.1,by rw[WP];exact hi.2,by rw[WP,Yq];omega,vG .. ▸ .mk⟩)))
    ·exact fun A' f8 l' Χ y hy=>ae (hG A' f8.h) 20 ⟨.mk Eg (qe (knd:=XA af w) (m:=eG) (Χ _ È)),f7.mk (FN (knd:=XA af w) (tw o.tag) (Χ _ È) (BV (hg.tg o ho)) (f7.mk (uG (by have:=P7 y (vF hy);rw[qK];omega) .mk)))⟩
   refine bJ X (fun A' f8 led' l3=>aD (hG A' f8.h) 40 (f7.mk (eU (by decide) (by decide) (x:=.int (aA g).j1) rfl (f7.mk (eU (by decide) (by decide) (x:=.int (ay g).j2) rfl (f7.mk (cY (AX (f8.mono ⋯) ⋯ ⋯ ⋯) .mk))))))) ?_;refine fw X (fun A' f8 led' l3=>ae (hG A' f8.h) 20 (f7.mk (VA ⋯ ⋯ .mk))) ?_ @_ @_;refine ez (fun P=>P ⟨lN a b ff tf fd td lt n d g (.str (bz (aA g).j1 (ay g).j2)) .any .any .any .any .any .any,X⟩ ((dh a b ff tf fd td lt true gs).map .str)) (eT (p:=(g.map oZ).any id=true) (fun A' f8 led' l3=>?_) (fun c=>TG.eq (Po c) ?_) fun c=>TG.eq (Pp c) (be (F4.mk (fun O y=>y) @_))) (be (.nextE hX (.mk (fun O y=>y true Q_) @_)))
   ·refine pB (pA @_ (ae (hG A' f8.h) 5 (Gd (K:=KB w.params) (c:=275) (P:=271) (q:=eD) [LC,mK,BF] aM oZ (gs:=g) (m:=100) (bi:=Zm) (DD w) ⋯ (f8.mono ⋯) @_ @_ @_ @_ @_ @_ @_ (fun O=>@_) @_ @_ @_ @_ @_ @_ ?_ ?_ ?_ (uH ⟨rfl,Iff.rfl⟩)))) @_
    ·exact Xx _ (l3 _ ö)
    ·exact ae (hG A' f8.h) 5 ⟨rfl,rfl⟩
    ·intro K' l4 c' L' hK' U3 Ê o ho A'' D8 ψ;subst U3;exact dv (vs:=[.str o.tag,.int o.i1,.int o.i2,.int o.j1,.int o.j2]) D8.h @_ @_ @_ (cz _ rfl _ _ rfl rfl (Ff (fun s X Q h=>kds_main X Ê h) @_ (ae (dX @_ @_ @_ @_ D8.h) 5 ⟨o.tag,rfl,rfl,rfl,@_⟩)))
   ·refine gJ (k:=5) aM (JV (dQ b) (lN a b ff tf fd td lt n d g (.str (bz (aA g).j1 (ay g).j2)) .any .any .any .any .any .any) X g (dh a b ff tf fd td lt true gs)) ⋯ (fun A' f8 led' l3=>ae (hG A' f8.h) 20 (gh (k:=5) fun it gl' hI => .mk (l:=X) hI (.mk (fun O y=>y fun o ho=>ho) @_))) ?_ (fun O=>be (F4.mk (fun O y=>y) @_)) (fun O=>@_);intro gl' o os t7;have ho:=t7 o (WM ..);have t7:=fun o' h'=>t7 o' (WO _ h');have hi:=hg.j o ho;have È:(d,au (XA af w) eG)∈X++gl':=Yc _ hdX;refine .mk (fun A' f8 led' l3=>dv f8.h @_ @_ @_ (cz _ rfl _ _ rfl rfl rfl)) ?_;refine ez (fun P=>P ⟨lN a b ff tf fd td lt n d g (.str (bz (aA g).j1 (ay g).j2)) (.str o.tag) .any .any (.int (o.i2:Nat)) (.int (o.j1:Nat)) (.int (o.j2:Nat)),X++gl'⟩ ((os.flatMap (dQ b)++(dh a b ff tf fd td lt true gs)).map .str)) (eT (p:=o.tag≠cN) (fun A' f8 led' l3=>bZ (hG A' f8.h) 20 ⟨rfl,bne_iff_ne⟩) (fun c=>TG.eq (MA c) ?_) fun c=>TG.eq (MC c) (be (F4.mk (fun O y=>y) @_))) (be (.next (l:=X) (.mk (fun O y=>y t7) @_)));refine yX (xs:=bw b o.j1 o.j2) (f:=fun y=>eH o.tag++y) (L:=fun v=>et a b ff tf fd td lt n (.bool true) (bF g) (aV (aA g)) (aV (ay g)) (.str (bz (aA g).i1 (ay g).i2)) (.str (bz (aA g).j1 (ay g).j2)) (.str o.tag) .any .any (.int (o.i2:Nat)) (.int (o.j1:Nat)) (.int (o.j2:Nat)) v (.ref d)) ⋯ @_ (fun u v=>@_) ?_ ?_ (fun v=>be (F4.mk (fun O y=>y) @_)) (fun O=>@_) @_ @_
    ·exact fun A' f8 led' l3=>yZ (fun O O=>@_) (ae (hG A' f8.h) 5 (ae (hG A' f8.h) 5 (ae (hG A' f8.h) 5 ⟨b.map AV.str,o.j1,o.j2,.frz,rfl,rfl,hi.1,by rw[WP];exact hi.2,by rw[WP,Yq];omega,vG .. ▸ .mk⟩)))
    ·exact fun A' f8 l' Χ y hy=>ae (hG A' f8.h) 20 ⟨.mk Eg (qe (knd:=XA af w) (m:=eG) (Χ _ È)),f7.mk (FN (knd:=XA af w) (tw o.tag) (Χ _ È) (BV (hg.tg o ho)) (f7.mk (uG (by have:=η y (vF hy);rw[qK];omega) .mk)))⟩
noncomputable abbrev bR:String := "UnicodeDecodeError"
theorem Hc:mroOf (.type bR)=YV [.type bR,.type "UnicodeError",.type "ValueError",.type "Exception",.type "BaseException",.type "object"]:=by rw[mroOf_type];kernel_rfl
theorem GW:Slot bR "__init__" "UnicodeDecodeError.__init__" :=
 .of (owner:=bR) (n := "__init__") (by rw[Ye,XD];kernel_rfl) (by decide +kernel) (by decide +kernel) (by decide +kernel)
  (by first |exact .inl (by decide +kernel) |exact .inr (by decide +kernel)) (by rw[Yb];kernel_rfl)
theorem Hd:Bind.madeBy (.type bR)=YV (some "UnicodeDecodeError.__new__"):=@_
theorem Hg:TypeCalled bR "UnicodeDecodeError.__new__" "UnicodeDecodeError.__init__" :=
 ⟨by decide +kernel,by decide +kernel,⟨_,_,Hc⟩,Hd,by decide +kernel,by rw[Yb];kernel_rfl,GW⟩
theorem Hb:ExcNewFacts bR "UnicodeDecodeError.__new__" where
 ends:=by decide +kernel
 owner:=by decide +kernel
 entry:=entryFor_alias (id' := "BaseException.__new__") (by rw[fastTable_eq_tree];kernel_rfl) (by first |rfl |decide +kernel) (by decide +kernel) (by rw[fastTable_eq_tree];kernel_rfl)
 sub:=by rw[Yb];kernel_rfl
 notAttr:=by rw[Yb];kernel_rfl
 notName:=by rw[Yb];kernel_rfl
 made:=@_
theorem GV(a b c d e:Value):checkTypeCall bR ⟨[a,b,c,d,e],[]⟩=YV ():=@_
theorem Ha(a b c d e:Value):checkBuiltinCall "UnicodeDecodeError.__new__" ⟨[.type bR,a,b,c,d,e],[]⟩=YV ():=@_
theorem Hf:entryFor table "UnicodeDecodeError.__init__" = some Builtin.«UnicodeDecodeError.__init__» := Zo @_
theorem He(x a b c d e:Value):c6 "UnicodeDecodeError.__init__" ⟨[x,a,b,c,d,e],[]⟩:=by unfold c6;kernel_rfl
theorem GZ:ZR (.type bR) (.type "UnicodeEncodeError")=YV false:=by rw[Yb];kernel_rfl
theorem GX:ZR (.type bR) (.type bR)=YV true:=by rw[Yb];kernel_rfl
theorem IT:entryFor table "_codecs.lookup_error.surrogateescape" = some Builtin.«_codecs.lookup_error.surrogateescape» := Zo @_
theorem IS:builtinKind "_codecs.lookup_error.surrogateescape" = none:=by decide +kernel
theorem IR:plainId "_codecs.lookup_error.surrogateescape" = true:=by decide +kernel
theorem IU(a:Value):c6 "_codecs.lookup_error.surrogateescape" ⟨[a],[]⟩:=by unfold c6;kernel_rfl
noncomputable abbrev sA:Str:=KK
noncomputable abbrev sS:Str:=KJ
theorem RM{u1 u2 u3:Tok}{b:Array UInt8}{t:Tok}{d:Str}:Builtin.«_codecs.decode.text» ⟨[.bytes b t,.str sA u1,.str sS u2,.str d u3],[]⟩ =
  (Builtin.Bytes.bytesLike d.toString (.bytes b t)>>=fun b'=>Builtin._codecs.dataHeld d.toString (.bytes b t)>>=fun h=>Builtin._codecs.decodeRoad d.toString b' sA (some sS) h>>=fun v=>ret v):=@_
theorem RN{id:String}{b:Array UInt8}:Builtin._codecs.decodeRoad id b sA (some sS) []=(Builtin._codecs.runDecoder id Builtin._codecs.asciiDecoder (some sS) true b 0 []>>=fun r=>mkStr ⟨r.1⟩):=@_
theorem RO{c:UInt8}{cs:List UInt8}{t u1 u2:Tok}:Builtin.«bytes.decode» ⟨[.bytes (c::cs).toArray t,.str sA u1,.str sS u2],[]⟩ =
  (mkStr (PySem.Str.ofString "utf-8")>>=fun O=>mkStr sA>>=fun e=>mkStr sS>>=fun r=>mkStr (PySem.Str.ofString "bytes.decode")>>=fun d =>
  call (.builtin "_codecs.decode.text") [.bytes (c::cs).toArray t,e,r,d]>>=fun v=>ret v):=@_
theorem RP{t u1 u2:Tok}:Builtin.«bytes.decode» ⟨[.bytes #[] t,.str sA u1,.str sS u2],[]⟩=(rule "bytes.decode.empty" >>= fun O=>retStr Str.empty):=@_
section
open PySem PySem.W PySem.Builtin
noncomputable abbrev dl(m:UnicodeEncodeError.Members):Array Value:=#[m.encoding,m.object,Yu m.start,Yu m.stop,m.reason]
def r8(h:Heap)(e:XC)(own:Array Value):Prop:=∃v0,h.get? e=some {cls:=.type bR,data:=.fields (#[v0,.none,.none,.none,.bool false,.none]++own)}
theorem Nh{e:XC}{Q:UnicodeEncodeError.Members->WS->Prop}(h:r8 s.heap e #[])(hQ:Q {} s):Xq (Xn d7 w) A (UnicodeEncodeError.members (.ref e)) Q E s:=by
 refine ak h fun v0 ho=>?_;clear h;unfold UnicodeEncodeError.members;refine WL (YT ho rfl ?_);exact WN hQ
theorem fM{e:XC}{m:UnicodeEncodeError.Members}{Q:UnicodeEncodeError.Members->WS->Prop}(h:r8 s.heap e (dl m))(hQ:Q m s):Xq (Xn d7 w) A (UnicodeEncodeError.members (.ref e)) Q E s:=by
 refine ak h fun v0 ho=>?_;clear h;unfold UnicodeEncodeError.members;refine WL (YT ho rfl ?_);exact WN hQ
theorem vL{e:XC}{own:Array Value}{m:UnicodeEncodeError.Members}{Q:Unit->WS->Prop}(h:r8 s.heap e own)(hs:own.size<10)
  (hQ:∀h',r8 h' e (dl m)->Xz e s.heap h'->Q () {s with heap:=h' }):Xq (Xn d7 w) A (UnicodeEncodeError.setMembers (.ref e) m) Q E s:=by
 refine ak h fun v0 ho=>?_;clear h;unfold UnicodeEncodeError.setMembers;have Å:(#[v0,Yp,Yp,Yp,Value.bool false,Yp]++own).extract 0 6 ++ #[m.encoding,m.object,Yu m.start,Yu m.stop,m.reason]=#[v0,.none,.none,.none,.bool false,.none]++dl m:=by
  rw[Array.extract_append];simp
 refine wpAny_updateFields ho rfl (hQ _ ⟨v0,?_⟩ (XE ..)) (by
  show (((#[v0,Yp,Yp,Yp,Value.bool false,Yp]++own).extract 0 6 ++ #[m.encoding,m.object,Yu m.start,Yu m.stop,m.reason]).size<=_);rw[Å,Yq];exact Yo rfl)
 have:=XH (YY fun vs=>vs.extract 0 6 ++ #[m.encoding,m.object,Yu m.start,Yu m.stop,m.reason]) ho rfl;rw[this];show some (YY (fun vs=>vs.extract 0 6 ++ #[m.encoding,m.object,Yu m.start,Yu m.stop,m.reason]) _)=_;unfold YY;dsimp only;rw[Å]
theorem mC{e:XC}{m m':UnicodeEncodeError.Members}{Q:Unit->WS->Prop}(h:r8 s.heap e (dl m))
  (hQ:∀h',r8 h' e (dl m')->(∀a,a≠e->h'.get? a=s.heap.get? a)->Q () {s with heap:=h' }):Xq (Xn d7 w) A (UnicodeEncodeError.setMembers (.ref e) m') Q E s :=
 vL h (show (dl _).size<10 from Yo rfl) fun h' e' B=>hQ h' e' B.2
theorem zI{id:String}{t:Tok}{Q:Unit->WS->Prop}(h:Q () s):Xq (Xn d7 w) A (UnicodeEncodeError.strArgument id k (.str x t)) Q E s:=by
 unfold UnicodeEncodeError.strArgument;exact WL (WN (aY (fun e=>XL e) (WN h)))
theorem zJ{id:String}{t:Tok}{Q:Int->WS->Prop}(hi:(i:Int)<2^62)(h:Q i s):Xq (Xn d7 w) A (UnicodeEncodeError.sizeArgument id (.int i t)) Q E s:=by
 unfold UnicodeEncodeError.sizeArgument asIndex;refine WL (WL (WN (WN ?_)));exact aY (by simp;omega) (WN h)
theorem Gj{id:String}{e:XC}{m:UnicodeEncodeError.Members}{t u:Tok}{Q:Unit->WS->Prop}(h:r8 s.heap e (dl m))(hi:(i:Int)<2^62)(hj:(j:Int)<2^62)
  (hQ:∀h',r8 h' e (dl {m with start:=i,stop:=j})->(∀a,a≠e->h'.get? a=s.heap.get? a)->Q () {s with heap:=h' }):Xq (Xn d7 w) A (UnicodeEncodeError.initRange id (.ref e) (.int i t) (.int j u)) Q E s:=by
 unfold UnicodeEncodeError.initRange;refine WL (zJ hi (WL (fM h (WL (mC h fun h5 E5 B5=>WL (zJ hj ?_))))));exact WL (fM E5 (mC E5 fun h6 E6 B6=>hQ h6 E6 fun a hn=>(B6 a hn).trans (B5 a hn)))
theorem Go{id:String}{h0:Heap}{g}{d}{tk}{os}{e:XC}{v0:Value}{xs:List Value}{Q:Value×List Value->WS->Prop}(hl:xs.length=5)
  (n5:h0.get? e=some {cls:=.type bR,data:=.fields #[v0,.none,.none,.none,.bool false,.none]})
  (hQ:∀h4 m,r8 h4 e (dl m)->(∀a o,a≠e->h0.get? a=some o->h4.get? a=some o)->Q (.ref e,xs) ⟨h4,g,d,tk,os⟩) :
  Xq (Xn d7 w) A (UnicodeEncodeError.beginInit id 5 ⟨.ref e::xs,[]⟩) Q E ⟨h0,g,d,tk,os⟩:=by
 unfold UnicodeEncodeError.beginInit;dsimp only;refine aY (fun e=>XL e) ?_;refine WL (ZE n5 rfl rfl ?_);refine WL (wpAny_newTuple ?_ (by rw[Yq,hl];exact Yo rfl));refine WL (wpAny_setField (WX _ n5) rfl (Nat.lt_of_lt_of_eq (Nat.zero_lt_succ 5) rfl) (WL (wpAny_letGo ?_)));have E1:r8 ((h0.push {cls:=.type "tuple",data:=.seq xs.toArray}).update e (YY (·.setIfInBounds 0 (.ref h0.objs.size)))) e #[]:=⟨.ref h0.objs.size,by
  rw[XH _ (WX _ n5) rfl];rfl⟩
 have K1:∀a o,a≠e->h0.get? a=some o->((h0.push {cls:=.type "tuple",data:=.seq xs.toArray}).update e (YY (·.setIfInBounds 0 (.ref h0.objs.size)))).get? a=some o:=fun a o hn q=>by
  rw[Heap.get?_update_ne _ _ _ _ hn];exact WX _ q
 dsimp only;generalize ((h0.push {cls:=.type "tuple",data:=.seq xs.toArray}).update e (YY (·.setIfInBounds 0 (.ref h0.objs.size))))=h1 at E1 K1 ⊢;refine dH rfl ?_;refine WL (Nh E1 (WL (vL E1 (Nat.zero_lt_succ 9) fun h2 E2 B2=>WL (wpAny_letGo ?_))));refine WL (fM E2 (WL (mC E2 fun h3 E3 B3=>WL (wpAny_letGo ?_))));refine WL (fM E3 (WL (mC E3 fun h4 E4 B4=>WL (wpAny_letGo ?_))));exact aY (by rw[hl];exact fun e=>XL e) (WN (hQ h4 _ E4 fun a o hn q=>(B4 a hn).trans ((B3 a hn).trans ((B2.2 a hn).trans (K1 a o hn q)))))
theorem Sx{cd rs:Str}{b:Array UInt8}{t u0 u1 u2 u3:Tok}(hi:(i:Int)<2^62)(hj:(j:Int)<2^62)
  (hQ:∀e h',s.heap.get? e=none->(∀a o,s.heap.get? a=some o->h'.get? a=some o)->r8 h' e (dl ⟨.str cd u0,.bytes b t,i,j,.str rs u3⟩)->Q (.ref e) {s with heap:=h' }) :
  Xq (Xn d7 w) A (call (.type bR) [.str cd u0,.bytes b t,.int i u1,.int j u2,.str rs u3]) Q E s:=by
 obtain⟨hp,g,d,tk,os⟩:=s;refine callType_codes (Q₁:=fun obj s₁=>obj=.ref (hp.objs.size+1)/\s₁=(⟨(hp.push {cls:=.type "tuple",data:=.seq [Value.str cd u0,.bytes b t,.int i u1,.int j u2,.str rs u3].toArray}).push
   { cls:=.type bR,data:=.fields #[.ref hp.objs.size,.none,.none,.none,.bool false,.none]},g,d,tk,os⟩:WS)) Hg (GV _ _ _ _ _) Hf
  (codeAny_call_builtin_code (Code.quiet_builtin _ (by decide +kernel)) (Yd (Ha _ _ _ _ _) (codeAny_exc_new Hb ⟨rfl,rfl⟩ (by exact(Eq.symm (Yq))▸Yo rfl)))) ?_
 intro obj s₁ Y3;refine av Y3 fun j_ Û=>?_;clear Y3;subst j_;subst Û;have n5:((hp.push {cls:=.type "tuple",data:=.seq [Value.str cd u0,.bytes b t,.int i u1,.int j u2,.str rs u3].toArray}).push {cls:=.type bR,data:=.fields #[.ref hp.objs.size,.none,.none,.none,.bool false,.none]}).get? (hp.objs.size+1)=some
   { cls:=.type bR,data:=.fields #[.ref hp.objs.size,.none,.none,.none,.bool false,.none]}:=by heap_get
 refine⟨⟨_,n5,rfl⟩,He _ _ _ _ _ _,?_⟩;have ω:∀a o,hp.get? a=some o->((hp.push {cls:=.type "tuple",data:=.seq [Value.str cd u0,.bytes b t,.int i u1,.int j u2,.str rs u3].toArray}).push {cls:=.type bR,data:=.fields #[.ref hp.objs.size,.none,.none,.none,.bool false,.none]}).get? a=some o:=fun a o e=>WX _ (WX _ e);have w6:hp.get? (hp.objs.size+1)=none:=Heap.get?_none_of_le ⋯;generalize hp.objs.size+1=e at *;generalize ((hp.push {cls:=.type "tuple",data:=.seq [Value.str cd u0,.bytes b t,.int i u1,.int j u2,.str rs u3].toArray}).push {cls:=.type bR,data:=.fields #[.ref hp.objs.size,.none,.none,.none,.bool false,.none]})=h0 at *;unfold Builtin.«UnicodeDecodeError.__init__»;refine WL (Go (xs:=[.str cd u0,.bytes b t,.int i u1,.int j u2,.str rs u3]) rfl n5 fun h4 m E4 K4=>?_);refine WL (zI (WL (Gj E4 hi hj fun h6 E6 B6=>WL (zI ?_))));refine WL ?_;unfold UnicodeDecodeError.bytesOf?
 refine WN ?_;refine dH (by rfl) ?_;refine WL (WN ?_);refine dH (by rfl) ?_;refine WL (WN ?_);refine aY (by exact(Eq.symm (show UnicodeEncodeError.isUnset (.bytes b t)=false from rfl))▸XL) ?_;refine WL (fM E6 (WL (mC E6 fun h7 E7 B7=>WN ?_)));refine⟨rfl,hQ e h7 w6 (fun a o q=>?_) E7⟩;have t0:a≠e:=fun z=>by
  have q':hp.get? a=some o:=q;rw[z,w6] at q';cases q'
 exact(B7 a t0).trans ((B6 a t0).trans (K4 a o t0 (ω a o q)))
end
section
open PySem PySem.W PySem.Builtin
theorem GY:ZR (.type bR) (.type "UnicodeTranslateError")=YV false:=by rw[Yb];kernel_rfl
theorem r8.typeIs{e:XC}{own:Array Value}(h:r8 s.heap e own):s.TypeIs (.ref e) bR:=let ⟨_,ho⟩:=h;⟨_,ho,rfl⟩
theorem SA{e:XC}{X8 rs:Value}{b:Array UInt8}{t:Tok}{x:UInt8}(h:r8 s.heap e (dl ⟨X8,.bytes b t,i,(i+1:Nat),rs⟩))(hx:b[i]?=some x)(hx2:128<=x.toNat)(hi:b.size<2^60)
  (hQ:∀u1 u2,Q (.ref s.heap.objs.size) {s with heap:=s.heap.push {cls:=.type "tuple",data:=.seq #[.str ⟨#[0xDC00+x.toNat]⟩ u1,.int (i+1:Nat) u2]},toks:=s.toks+1+1}) :
  Xq (Xn d7 w) A (call (.builtin "_codecs.lookup_error.surrogateescape") [.ref e]) Q E s:=by
 have l8:=(Array.getElem?_eq_some_iff.mp hx).1;have hbx:b[i]=x:=(Array.getElem?_eq_some_iff.mp hx).2;refine call_function_tree IS IR IT (IU _) ?_;unfold «_codecs.lookup_error.surrogateescape»;refine WL (m:=oneArg "surrogateescape" _) (WN ?_);refine WL ?_;unfold _codecs.seen;refine WL (YJ h.typeIs GZ ?_);refine WL (YJ h.typeIs GX ?_);refine WL (YJ h.typeIs GY ?_);rw[if_neg XL,if_pos rfl];refine WL (WN ?_);dsimp only;refine aY (by decide) ?_;refine WL (fM h ?_);dsimp only;refine aY (by rw[show UnicodeEncodeError.isUnset (.bytes b t)=false from rfl];exact XL) ?_;refine dH (by decide) ?_;refine WL (WN ?_);have hsz:(b.map (·.toNat)).isEmpty=false:=decide_eq_false (by rw[Array.size_map];exact Nat.ne_of_gt (Nat.zero_lt_of_lt l8));rw[hsz,if_neg XL];refine WN ?_;dsimp only;have e1:min (max (i:Int) 0) (((b.map (·.toNat)).size:Int)-1)=i:=by rw[Array.size_map,Int.max_eq_left (Int.natCast_nonneg i),Int.min_eq_left (Int.le_sub_one_of_lt (Int.ofNat_lt.mpr l8))]
 have e2:min (max ((i+1:Nat):Int) 1) ((b.map (·.toNat)).size:Int)=(i+1:Nat):=by rw[Array.size_map,Int.max_eq_left (show (1:Int)<=((i+1:Nat):Int) from Int.ofNat_le.mpr (Nat.le_add_left 1 i)),Int.min_eq_left (Int.ofNat_le.mpr l8)]
 rw[e1,e2];have e3:((((b.map (·.toNat)).extract (i:Int).toNat ((i+1:Nat):Int).toNat).toList.take 4).takeWhile fun x=>decide (x ≥ 128)).toArray=#[x.toNat]:=by
  have:(((b.map (·.toNat)).extract (i:Int).toNat ((i+1:Nat):Int).toNat)).toList=[x.toNat]:=by
   rw[XJ,XJ];apply List.ext_getElem
   ·rw[Yz,Array.size_extract,Array.size_map,Nat.min_eq_left l8];exact Nat.add_sub_cancel_left (n:=i) (m:=1)
   ·intro j h1 h2;simp only[Zj] at h2
    have:j=0:=Nat.lt_one_iff.mp h2;subst this;simp[hbx]
  rw[this];simp[hx2]
 rw[e3];refine aY (by simp) ?_;unfold _codecs.answer;rw[show Array.map (fun x=>x+0xDC00) #[x.toNat]=#[0xDC00+x.toNat] from by simp[Nat.add_comm],show ((i:Int)+((#[x.toNat]:Array Nat).size:Int))=((i+1:Nat):Int) from by simp];refine WL (Zn ?_ (by show 1<=XK;rw[Yq];decide));refine WL (wpAny_mkInt ?_);refine WL (wpAny_newTuple ?_ (by rw[Yq];exact Yo rfl));exact WN (hQ _ _)
end
section
open PySem PySem.W PySem.Builtin
noncomputable abbrev qq:Value:=.builtin "_codecs.lookup_error.surrogateescape"
structure FOk (h0 h:Heap) (b:Array UInt8) (st:_codecs.Faults):Prop where
 held:st.held=[]
 hand:st.handler=none∨st.handler=some qq
 exc:st.exc=none∨∃e X8 t i j rs,st.exc=some (.ref e)/\h0.get? e=none/\r8 h e (dl ⟨X8,.bytes b t,i,j,rs⟩)
theorem QG(h:n<2^20):(decide ((n:Int) < -2^63)||decide ((n:Int) ≥ 2^63))=false:=by
 rw[decide_eq_false (Int.not_lt.mpr (Int.le_trans (by decide) (Int.natCast_nonneg n))),Bool.false_or];exact decide_eq_false (Int.not_le.mpr (Int.lt_of_lt_of_le (Int.ofNat_lt.mpr h) (by decide)))
theorem Gn{id:String}{h0:Heap}{b:Array UInt8}{st:_codecs.Faults}{x:UInt8}{Q:_codecs.Faults×Array Nat×Nat->WS->Prop}(hk:∀a o,h0.get? a=some o->s.heap.get? a=some o)(m8:FOk h0 s.heap b st)
  (hx:b[i]?=some x) (hx2:128<=x.toNat) (hi:b.size<2^20)
  (hQ:∀e9 s',(∃h' tk,s'={ s with heap:=h',toks:=tk})->(∀a o,h0.get? a=some o->s'.heap.get? a=some o)->FOk h0 s'.heap b e9->Q (e9,#[0xDC00+x.toNat],i+1) s') :
  Xq (Xn d7 w) A (_codecs.decodeFault id st (some sS) ["ignore", "replace", "surrogateescape"] "ascii" b i (i+1) "ordinal not in range(128)") Q E s:=by
 have l8:=(Array.getElem?_eq_some_iff.mp hx).1;obtain⟨hd,ex,hl⟩:=st;obtain⟨h1,h2,h3⟩:=m8;dsimp only at h1 h2 h3;subst h1;unfold _codecs.decodeFault;refine WL (Yd (a:=qq) ?_ ?_)
 ·rcases h2 with rfl |rfl
  ·kernel_rfl
  ·rfl
 refine WL (Xc (XU (Q:=fun exc s1=>∃e X8 t rs,exc=.ref e/\(∃h' tk,s1={ s with heap:=h',toks:=tk})/\(∀a o,h0.get? a=some o->s1.heap.get? a=some o)/\h0.get? e=none /\
  r8 s1.heap e (dl ⟨X8,.bytes b t,(i:Nat),((i+1:Nat):Int),rs⟩)) ?_ ?_ fun O O h=>h))
 ·rcases h3 with rfl |⟨e,X8,t,i',j',rs,rfl,hn,hE⟩
  ·show Xq (Xn d7 w) A (mkStr (PySem.Str.ofString "ascii")>>=fun c=>mkBytes b>>=fun o=>mkInt i>>=fun i1=>mkInt (i+1:Nat)>>=fun i2=>mkStr (PySem.Str.ofString "ordinal not in range(128)")>>=fun r=>call (.type bR) [c,o,i1,i2,r]) _ E s;refine WL (Zn ?_ (by decide));refine WL (wpAny_mkBytes ?_ (by rw[Yq];omega));refine WL (wpAny_mkInt (WL (wpAny_mkInt ?_)));refine WL (Zn ?_ (by decide));refine Sx ⋯ ⋯ fun e h' hn w7 hE=>⟨e,_,_,_,rfl,⟨_,_,rfl⟩,fun a o q=>w7 a o (hk a o q),?_,hE⟩;cases q:h0.get? e with
   |none=>rfl
   |some o=>have:=hk e o q;have H4:s.heap.get? e=none:=hn;rw[this] at H4;cases H4
  ·show Xq (Xn d7 w) A (UnicodeEncodeError.members (.ref e)>>=fun m=>mkStr (PySem.Str.ofString "ordinal not in range(128)")>>=fun r=>UnicodeEncodeError.setMembers (.ref e) {m with start:=i,stop:=(i+1:Nat),reason:=r}>>=fun O=>YV (Value.ref e)) _ E s;refine WL (fM hE (WL (Zn ?_ (by decide))));refine WL (vL (s:={ s with toks:=s.toks+1}) hE (show (dl _).size<10 from Yo rfl) fun h' hE' hB=>WN ?_);refine UY e X8 t _ rfl ⟨h',_,rfl⟩ (fun a o q=>(hB.2 a fun z=>?_).trans (hk a o q)) hn hE';rw[z,hn] at q;cases q
 ·intro exc s1 Y3;refine FX Y3 fun e X8 t rs Y35 Y36 hk1 hn hE=>?_;clear Y3;subst Y35;obtain⟨h',tk,rfl⟩:=Y36;refine WL ?_;show Xq (Xn d7 w) A (UnicodeEncodeError.members (.ref e)>>=fun m=>b9 [qq,.ref e] (call qq [.ref e])>>=fun r=>UnicodeEncodeError.members (.ref e)>>=fun m'=>_) _ E _;refine WL (fM hE (WL (Xc (SA hE hx hx2 ⋯ fun u1 u2=>?_))));have hE2:r8 (h'.push {cls:=.type "tuple",data:=.seq #[.str ⟨#[0xDC00+x.toNat]⟩ u1,.int (i+1:Nat) u2]}) e (dl ⟨X8,.bytes b t,(i:Nat),((i+1:Nat):Int),rs⟩):=by
   refine ak hE fun v0 ho=>?_;clear hE;exact⟨v0,WX _ ho⟩
  refine WL (fM (s:={ s with heap:=h'.push {cls:=.type "tuple",data:=.seq #[.str ⟨#[0xDC00+x.toNat]⟩ u1,.int (i+1:Nat) u2]},toks:=tk+1+1}) hE2 ?_);dsimp only;refine Yj (by show (!(t==t&&b==b))=false;simp) ?_;refine WN ?_;have Y9:(h'.push {cls:=.type "tuple",data:=.seq #[.str ⟨#[0xDC00+x.toNat]⟩ u1,.int (i+1:Nat) u2]}).get? h'.objs.size=some {cls:=.type "tuple",data:=.seq #[.str ⟨#[0xDC00+x.toNat]⟩ u1,.int (i+1:Nat) u2]}:=WW _ rfl;refine Xc (WL ?_);show Xq (Xn d7 w) A (isInstance (.ref h'.objs.size) (.type "tuple")>>=fun y=>_) _ E _;refine WL (YJ (T := "tuple") ⟨_,Y9,rfl⟩ isSubtype_tuple_tuple ?_);refine Yj rfl ?_;refine WL (YS Y9 rfl ?_);refine WN ?_;dsimp only;refine WL (WN ?_);dsimp only;refine WL ?_;show Xq (Xn d7 w) A (asIndex (.int (i+1:Nat) u2)>>=fun y=>_) _ E _;unfold asIndex;refine WL (WL (WN (WN ?_)));refine Yj (QG (Nat.lt_of_le_of_lt l8 hi)) ?_;refine WN ?_;refine WL ?_;have hp:(if ((i+1:Nat):Int)<0 then ((i+1:Nat):Int)+(b.size:Int) else ((i+1:Nat):Int))=((i+1:Nat):Int):=if_neg (Int.not_lt.mpr (Int.natCast_nonneg _));refine Yj (c:=decide ((if ((i+1:Nat):Int)<0 then ((i+1:Nat):Int)+(b.size:Int) else ((i+1:Nat):Int))<0)||decide ((if ((i+1:Nat):Int)<0 then ((i+1:Nat):Int)+(b.size:Int) else ((i+1:Nat):Int)) > (b.size:Int))) (by rw[hp,decide_eq_false (Int.not_lt.mpr (Int.natCast_nonneg _)),Bool.false_or];exact decide_eq_false (Int.not_lt.mpr (Int.ofNat_le.mpr l8))) ?_;dsimp only;rw[hp];refine aY (Int.not_le.mpr (Int.ofNat_lt.mpr (Zv i))) ?_;refine WN (WN ?_);rw[XJ];refine hQ _ _ ⟨_,_,rfl⟩ (fun a o q=>WX _ (hk1 a o q)) ⟨rfl,.inr rfl,.inr ⟨e,X8,t,_,_,_,rfl,hn,hE2⟩⟩
end
section
open PySem PySem.W PySem.Builtin
theorem Tc(a b c:Value):c6 "bytes.decode" ⟨[a,b,c],[]⟩:=by
 unfold c6;kernel_rfl
noncomputable def ph(x:UInt8):Nat:=if x.toNat<128 then x.toNat else 0xDC00+x.toNat
noncomputable def ar(b:Array UInt8):Str:=⟨b.map ph⟩
structure G3 (b:Array UInt8) (rest:List Nat) (p:Nat) (out:Array Nat):Prop where
 le:p<=b.size
 rest_eq:rest=Yk p (b.size-p) 1
 out_eq:out=(b.extract 0 p).map ph
section
variable{b:Array UInt8}{y p o:Nat}{rest:List Nat}{out:Array Nat}
theorem G3.size(h:G3 b rest p out):out.size=p:=by
 rw[h.out_eq,Array.size_map,Array.size_extract,Nat.sub_zero];exact Nat.min_eq_left h.le
theorem G3.lt(h:G3 b (y::rest) p out):p<b.size:=by
 have e:=h.rest_eq;rcases Nat.eq_zero_or_pos (b.size-p) with q |q
 ·rw[q] at e;cases e
 ·exact Nat.lt_of_sub_pos q
theorem G3.next(h:G3 b (y::rest) p out)(e:o=ph (b[p]'h.lt)):G3 b rest (p+1) (out ++ #[o]):=by
 have hl:=h.lt;have r:=h.rest_eq;have hs:b.size-p=b.size-(p+1)+1:=by rw[Nat.sub_add_eq,Nat.sub_add_cancel (Nat.sub_pos_of_lt hl)]
 rw[hs,Zw] at r;have ho:=h.out_eq;refine⟨hl,(Zb r).2,?_⟩;rw[e];clear e;revert hl;generalize h.lt=ê;intro hl;clear h;rw[ho,Array.extract_succ_right (Nat.zero_lt_succ p) hl,Array.map_push,Array.push_eq_append]
theorem G3.fin(h:G3 b [] p out):out=(ar b).cps:=by
 have e:=h.rest_eq;have hp:p=b.size:=by
  rcases Nat.eq_zero_or_pos (b.size-p) with q |q
  ·exact Nat.le_antisymm h.le (Nat.le_of_sub_eq_zero q)
  ·obtain⟨m,hm⟩:=Nat.exists_eq_succ_of_ne_zero (Nat.pos_iff_ne_zero.mp q);rw[hm,Zw] at e;cases e
 rw[h.out_eq,hp,Array.extract_size];rfl
theorem DO(h:p<b.size):_codecs.asciiDecoder.find true b p=if b[p].toNat<128 then .char b[p].toNat (p+1) else .bad (p+1) "ordinal not in range(128)" false:=by
 show (if (b.getD p 0).toNat<128 then _codecs.Found.char (b.getD p 0).toNat (p+1) else .bad (p+1) "ordinal not in range(128)" false)=_;rw[show b.getD p 0=b[p] from by simp[Array.getD,h]]
end
theorem Gi{id:String}{b:Array UInt8}{Q:Array Nat×Nat->WS->Prop}(hi:b.size<2^20)
  (hQ:∀n s',(∃h' tk,s'={ s with heap:=h',toks:=tk})->(∀a o,s.heap.get? a=some o->s'.heap.get? a=some o)->Q ((ar b).cps,n) s') :
  Xq (Xn d7 w) A (_codecs.runDecoder id _codecs.asciiDecoder (some sS) true b 0 []) Q E s:=by
 unfold _codecs.runDecoder;simp only[Std.Legacy.Range.forIn_eq_forIn_range'];have hsz:([0:b.size]:Std.Legacy.Range).size=b.size:=by simp[Std.Legacy.Range.size]
 rw[hsz];refine WL (wpAny_forIn_list _ (fun rest r s'=>G3 b rest r.1 r.2.1/\(∃h' tk,s'={ s with heap:=h',toks:=tk})/\(∀a o,s.heap.get? a=some o->s'.heap.get? a=some o)/\FOk s.heap s'.heap b r.2.2) _ ?_ ?_ _ _ ⟨⟨Xk _,rfl,by simp⟩,⟨_,_,rfl⟩,fun a o q=>q,rfl,.inl rfl,.inl rfl⟩)
 ·rintro y rest ⟨p,out,st⟩ s1 ⟨h,⟨h',tk,rfl⟩,w7,hF⟩
  have l8:p<b.size:=h.lt;have t7:out.size=p:=h.size;refine aY (by rw[t7,Yq];exact Nat.not_lt.mpr (YO (Nat.lt_trans l8 (Nat.lt_of_lt_of_le hi (by decide))))) (aY (fun e=>Nat.not_le.mpr l8 (by simpa using e)) ?_);refine(Yn b[p].toNat 128).elim (fun hc=>?_) fun hc=>?_
  ·rw[DO l8,if_pos hc];exact WN ⟨h.next (if_pos hc).symm,⟨_,_,rfl⟩,w7,hF⟩
  ·rw[DO l8,if_neg (Nat.not_lt.mpr hc)];refine aY (by simp) ?_;refine WL (YA (WL ?_));refine Gn (h0:=s.heap) w7 hF (getElem?_pos b p l8) hc hi fun e9 s' C5 M_ hF'=>?_;refine gi C5 fun h2 tk2 O3=>?_;clear C5;subst O3;exact WN ⟨h.next (if_neg (Nat.not_lt.mpr hc)).symm,⟨_,_,rfl⟩,M_,hF'⟩
 ·rintro ⟨p,out,st⟩ s1 ⟨h,C5,w7,hF⟩
  have e:out=(ar b).cps:=h.fin;subst e;exact WN (hQ p s1 C5 w7)
theorem SE{b:Array UInt8}{t u1 u2:Tok}(hi:b.size<2^20)
  (hQ:∀u h' tk,(∀a o,s.heap.get? a=some o->h'.get? a=some o)->Q (.str (ar b) u) {s with heap:=h',toks:=tk}) :
  Xq (Xn d7 w) A (call (.builtin "bytes.decode") [.bytes b t,.str sA u1,.str sS u2]) Q E s:=by
 refine XO FB.slot_bytes_decode (typeIs_bytes _ _ _) FB.entry_bytes_decode ?_ (Tc _ _ _);obtain⟨l⟩:=b;cases l with
 |nil =>
  rw[RP];refine WL (YA ?_);unfold retStr;refine WL (Zn ?_ (by decide));have h:=hQ s.toks s.heap (s.toks+1) fun a o q=>q;exact WN ⟨_,rfl,by rw[show Str.empty=ar ⟨[]⟩ from by unfold ar;simp[Str.empty]];exact h⟩
 |cons c cs =>
  rw[RO];refine WL (Zn ?_ (by decide));refine WL (Zn ?_ (by decide));refine WL (Zn ?_ (by decide));refine WL (Zn ?_ (by decide));refine WL (call_function_tree KBd.kind_text KBd.plain_text KBd.entry_text (KBd.args_text _ _ _ _) ?_);rw[RM];refine WL (Yd KBd.like_eq ?_);refine WL (Yd KBd.held_eq ?_);rw[RN];refine WL (WL (Gi hi fun n s' C5 M_=>?_));refine gi C5 fun h' tk O3=>?_;clear C5;subst O3;have hsl:(Array.map ph (c::cs).toArray).size<=XK:=by
   have hi':(c::cs).toArray.size<2^20:=hi;rw[Array.size_map,Yq];omega
  refine Zn ?_ hsl;exact WN (WN ⟨_,rfl,hQ _ _ _ fun a o q=>M_ a o q⟩)
end
section
open PySem PySem.W PySem.Builtin
theorem Rz{t u1 u2:Tok}:Builtin.«str.encode» ⟨[.str x t,.str sA u1,.str sS u2],[]⟩=(_codecs.encodeRoad "str.encode" (.str x t) x sA (some sS)>>=fun v=>ret v):=@_
theorem Rw{v:Value}:_codecs.encodeRoad "str.encode" v x sA (some sS)=(_codecs.encodeNarrow "str.encode" _codecs.asciiCodec (some sS) v x>>=fun b=>mkBytes b):=@_
theorem Eb:Slot "str" "encode" "str.encode" :=
 .of (owner := "str") (n := "encode") (by rw[Ye,XD];kernel_rfl) (by decide +kernel) (by decide +kernel) (by decide +kernel)
  (by first |exact .inl (by decide +kernel) |exact .inr (by decide +kernel)) (by rw[Yb];kernel_rfl)
theorem Rv:typeOf (.builtin "str.encode")=YV (.type "method_descriptor"):=by show builtinType _=_;rw[builtinType_eq_fast];kernel_rfl
theorem Ry:entryFor table "str.encode" = some Builtin.«str.encode» := Zo @_
theorem RA(a b c:Value):c6 "str.encode" ⟨[a,b,c],[]⟩:=by
 unfold c6;kernel_rfl
noncomputable def je(x:Nat):UInt8:=if x<128 then x.toUInt8 else (x-0xDC00).toUInt8
noncomputable def ck(x:Str):Array UInt8:=x.cps.map je
def de(x:Str):Prop:=∀c∈x.cps,c<128∨(0xDC80<=c/\c<=0xDCFF)
theorem AM(l:Array Nat)(q:Nat->Bool)(i:Nat)(hi:i<l.size)(h0:q l[i]=false) :
  ∀n,n=((l.extract i l.size).findIdx? q).getD (l.size-i)->1<=n/\i+n<=l.size/\∀j (hj:j<l.size),i<=j->j<i+n->q l[j]=false:=by
 intro n hn;cases hf:(l.extract i l.size).findIdx? q with
 |none =>
  rw[hf] at hn;have H4:n=l.size-i:=hn;refine⟨H4▸Nat.sub_pos_of_lt hi,H4▸Nat.le_of_eq (Nat.add_sub_cancel' (YO hi)),fun j hj h1 h2=>?_⟩;rw[Array.findIdx?_eq_none_iff] at hf;have hm:l[j]∈l.extract i l.size:=by
   rw[Array.mem_extract_iff_getElem];exact⟨j-i,by rw[Nat.min_self];exact Nat.sub_lt_sub_right h1 hj,by congr 1;exact Nat.add_sub_cancel' h1⟩
  have:=hf _ hm;simpa using this
 |some k =>
  rw[hf] at hn;have H4:n=k:=hn;subst H4;rw[Array.findIdx?_eq_some_iff_getElem] at hf;refine ad hf fun hk hqk l8=>?_;clear hf;rw[Array.size_extract,Nat.min_self] at hk;refine⟨?_,YO (Nat.add_lt_of_lt_sub' hk),fun j hj h1 h2=>?_⟩
  ·rcases Nat.eq_zero_or_pos n with z |z
   ·subst z;simp[h0] at hqk
   ·exact z
  ·have:=l8 (j-i) (Nat.sub_lt_left_of_lt_add h1 h2);simp only[Array.getElem_extract,Nat.add_sub_cancel' h1] at this;simpa using this
theorem DT(l:Array Nat)(f:Nat->UInt8)(i n:Nat)(h:i+n<=l.size) :
  (l.extract 0 (i+n)).map f=(l.extract 0 i).map f++(l.extract i (i+n)).map f:=by
 rw[← Array.map_append];congr 1
 rw[Array.extract_append_extract,Nat.min_eq_left (Xk _),Nat.max_eq_right (Nat.le_add_right _ _)]
theorem Qi(l:List Nat)(f:Nat->UInt8)(g:Nat->List UInt8)(h:∀c∈l,g c=[f c]):∀acc:Array UInt8,
  l.foldl (fun acc y=>acc++(g y).toArray) acc=acc++(l.map f).toArray:=by
 induction l with
 |nil=>intro acc;simp
 |cons c cs ih =>
  intro acc;rw[Yh,ih fun d hd=>h d (WO _ hd),h c (WM ..)];simp
theorem Hy(l:List α)(p:α->Bool)(h:∀c∈l,p c=true):l.takeWhile p=l:=by
 induction l with
 |nil=>rfl
 |cons c cs ih=>rw[List.takeWhile_cons,if_pos (h c (WM ..)),ih fun d hd=>h d (WO _ hd)]
theorem Nc:((some sS).getD (WR "strict")).toString = "surrogateescape" := by decide +kernel
structure A0 (x:Str) (rest:List Nat) (i:Nat) (out:Array UInt8):Prop where
 i_le:i<=x.length
 ex:∃k,rest=Yk k (x.length-k) 1/\k<=x.length/\k<=i
 out_eq:out=(x.cps.extract 0 i).map je
section
variable{y i n:Nat}{rest:List Nat}{out:Array UInt8}
theorem A0.size(h:A0 x rest i out):out.size=i:=by
 rw[h.out_eq,Array.size_map,Array.size_extract,Nat.sub_zero];exact Nat.min_eq_left h.i_le
theorem A0.next(h:A0 x (y::rest) i out)(h1:1<=n)(h2:i+n<=x.length):∃k,rest=Yk k (x.length-k) 1/\k<=x.length/\k<=i+n:=by
 refine aU h.ex fun k hr hk hki=>?_;rcases Nat.eq_zero_or_pos (x.length-k) with q |q
 ·rw[q] at hr;cases hr
 ·obtain⟨m,hm⟩:=Nat.exists_eq_succ_of_ne_zero (Nat.pos_iff_ne_zero.mp q);rw[hm,Zw] at hr;exact⟨k+1,by rw[(Zb hr).2,Nat.sub_add_eq,hm];rfl,Nat.lt_of_sub_pos q,Nat.add_le_add hki h1⟩
theorem A0.low(h:A0 x (y::rest) i out)(l8:i<x.cps.size)(hc:_codecs.asciiCodec.bad x.cps[i]=false):A0 x rest (i+(Array.findIdx? _codecs.asciiCodec.bad (x.cps.extract i)).getD (x.cps.extract i).size)
  (Array.foldl (fun acc y=>acc++(_codecs.asciiCodec.bytesOf y).toArray) out ((x.cps.extract i).extract 0 ((Array.findIdx? _codecs.asciiCodec.bad (x.cps.extract i)).getD (x.cps.extract i).size))):=by
 refine cB (AM x.cps _codecs.asciiCodec.bad i l8 hc _ rfl) fun h1 h2 h3=>?_;rw[show (x.cps.extract i).size=x.cps.size-i by simp];generalize ((x.cps.extract i).findIdx? _codecs.asciiCodec.bad).getD (x.cps.size-i)=n at h1 h2 h3 ⊢;refine⟨h2,h.next h1 h2,?_⟩;rw[DT _ _ _ _ h2,← h.out_eq,← Array.foldl_toList,Qi _ je]
 ·rw[Array.extract_extract,Nat.add_zero,Nat.min_eq_left h2];congr 1
  rw[← Array.toList_inj,Array.toList_map]
 ·intro c S_;rw[Array.mem_toList_iff,Array.mem_extract_iff_getElem] at S_;obtain⟨j,hj,rfl⟩:=S_;have hj:j<n:=Nat.lt_of_lt_of_le hj (XQ (Nat.sub_le ..) (Nat.min_le_left ..))
  have:=h3 (i+j) (Nat.lt_of_lt_of_le (Nat.add_lt_add_left hj i) h2) (Nat.le_add_right _ _) (Nat.add_lt_add_left hj i);simp only[Array.getElem_extract,Nat.zero_add];simp[_codecs.asciiCodec] at this ⊢
  unfold je;rw[if_pos this]
theorem A0.high(h:A0 x (y::rest) i out)(hx:de x)(l8:i<x.cps.size)(hc:(!_codecs.asciiCodec.bad x.cps[i])=false) :
  let n:=(Array.findIdx? (fun y => !_codecs.asciiCodec.bad y) (x.cps.extract i)).getD (x.cps.size-i)
  (x.cps.extract i (i+n)).toList.takeWhile (fun x=>decide (56448<=x)&&decide (x<=56575))=(x.cps.extract i (i+n)).toList/\(x.cps.extract i (i+n)).toList.length=n /\
   A0 x rest (i+n) (out++((x.cps.extract i (i+n)).toList.map fun x=>(x-56320).toUInt8).toArray):=by
 refine cB (AM x.cps (fun y => !_codecs.asciiCodec.bad y) i l8 hc _ rfl) fun h1 h2 h3=>?_;intro n;change 1<=n at h1
 change i+n<=x.cps.size at h2
 change ∀j (hj:j<x.cps.size),i<=j->j<i+n->_ at h3
 generalize n=n at h1 h2 h3 ⊢;have H9:∀c∈(x.cps.extract i (i+n)).toList,(decide (56448<=c)&&decide (c<=56575))=true:=by
  intro c S_;rw[Array.mem_toList_iff,Array.mem_extract_iff_getElem] at S_;obtain⟨j,hj,rfl⟩:=S_;have L5:j<n:=by
   refine Nat.lt_of_lt_of_le hj ?_;rw[Nat.min_eq_left h2,Nat.add_sub_cancel_left];exact Xy n
  have hb:=h3 (i+j) (Nat.lt_of_lt_of_le (Nat.add_lt_add_left L5 i) h2) (Nat.le_add_right _ _) (Nat.add_lt_add_left L5 i);simp[_codecs.asciiCodec] at hb
  rcases hx x.cps[i+j] (Array.getElem_mem ..) with q |q
  ·exact absurd q (Nat.not_lt.mpr hb)
  ·rw[decide_eq_true q.1,decide_eq_true q.2];rfl
 refine⟨Hy _ _ H9,?_,h2,h.next h1 h2,?_⟩
 ·rw[Yz,Array.size_extract,Nat.min_eq_left h2,Nat.add_sub_cancel_left]
 ·rw[DT _ _ _ _ h2,← h.out_eq];congr 1
  rw[← Array.toList_inj,Array.toList_map];refine Zf fun c S_=>?_
  have:=H9 c S_;rw[Yl,decide_eq_true_eq,decide_eq_true_eq] at this;exact(if_neg (Nat.not_lt.mpr (XQ (by decide) this.1))).symm
theorem A0.done(h:A0 x rest i out)(G7:x.cps.size<=i):out=ck x:=by
 rw[h.out_eq,Nat.le_antisymm h.i_le G7];show Array.map je (x.cps.extract 0 x.cps.size)=_;rw[Array.extract_size];rfl
theorem A0.fin(h:A0 x [] i out):out=ck x:=by
 refine aU h.ex fun k hr hk hki=>h.done (XQ ?_ hki);rcases Nat.eq_zero_or_pos (x.length-k) with q |q
 ·exact Nat.le_of_sub_eq_zero q
 ·obtain⟨m,hm⟩:=Nat.exists_eq_succ_of_ne_zero (Nat.pos_iff_ne_zero.mp q);rw[hm,Zw] at hr;cases hr
end
theorem Gm{v:Value}{Q:Array UInt8->WS->Prop}(hx:de x)(hi:x.length<2^20)(hQ:Q (ck x) s) :
  Xq (Xn d7 w) A (_codecs.encodeNarrow "str.encode" _codecs.asciiCodec (some sS) v x) Q E s:=by
 unfold _codecs.encodeNarrow;dsimp only;rw[Std.Legacy.Range.forIn_eq_forIn_range',Nc];have hsz:([0:x.length]:Std.Legacy.Range).size=x.length:=by simp[Std.Legacy.Range.size]
 rw[hsz];refine WL (wpAny_forIn_list _ (fun rest r s'=>s'=s/\A0 x rest r.1 r.2.1) _ (fun y rest r s1 h=>?_) (fun r s1 h=>h.2.fin.symm▸h.1.symm▸WN hQ) _ _ ⟨rfl,Xk _,⟨0,rfl,Xk _,Xk _⟩,by simp⟩);refine av h fun e q=>?_;clear h;subst e;have t7 : ¬ r.2.1.size > XK:=by rw[q.size,Yq];exact Nat.not_lt.mpr (XQ q.i_le (YO (Nat.lt_of_lt_of_le hi (by decide))))
 have q1:("surrogateescape" == "surrogateescape")=true:=by decide +kernel
 have q2:("surrogateescape" == "strict" && !_codecs.asciiCodec.name == "utf-8")=false:=by decide +kernel
 refine(Yn r.1 x.cps.size).elim (fun l8=>(Bool.eq_false_or_eq_true (!_codecs.asciiCodec.bad x.cps[r.1])).elim (fun hc=>?_) fun hc=>?_) fun G7=>?_
 ·refine aY t7 ?_;rw[YI l8];exact dH hc (WN ⟨rfl,q.low l8 (by rw[Bool.not_eq_true'] at hc;exact hc)⟩)
 ·have e1:=(q.high hx l8 hc).1;have e2:=(q.high hx l8 hc).2.1;have e3:=(q.high hx l8 hc).2.2;refine aY t7 ?_;rw[YI l8];refine aY (fun e=>XL (hc.symm.trans e)) (WL (YA (aY (fun e=>XL (q2.symm.trans e)) ?_)));rw[if_pos q1,e1,e2];exact dH (beq_self_eq_true _) (WN ⟨rfl,e3⟩)
 ·refine aY t7 ?_;rw[ZW G7];exact WN (show Xq _ A (YV r.2.1) Q E s1 from(q.done G7).symm▸WN hQ)
end
section
open PySem PySem.W PySem.Builtin
theorem RQ(b:Array UInt8):(ar b).length=b.size:=by show (Array.map ph b).size=_;simp
theorem RC(x:Str):(ck x).size=x.length:=by unfold ck;rw[Array.size_map];rfl
theorem SB{t u1 u2:Tok}(hx:de x)(hi:x.length<2^20)
  (hQ:∀u tk,Q (.bytes (ck x) u) {s with toks:=tk}) :
  Xq (Xn d7 w) A (call (.builtin "str.encode") [.str x t,.str sA u1,.str sS u2]) Q E s:=by
 refine XO Eb (typeIs_str _ _ _) Ry ?_ (RA _ _ _);rw[Rz,Rw];refine WL (WL (Gm hx hi (wpAny_mkBytes ?_ ?_)))
 ·exact WN ⟨_,rfl,hQ _ _⟩
 ·rw[RC,Yq];omega
theorem VF{b:Array UInt8}(hi:b.size<2^20)(h:K (.str (ar b)) st):FC d7 w A B d8 (.blt "bytes.decode") [.bytes b,.str sA,.str sS] [] st K:=FC.b fun s Z S Q E hQ=>Vals.un <| Val.eBytes fun O=>Vals.un <| Val.eStr fun O=>Vals.un <| Val.eStr fun O=>Vals.un0 <| by
 refine SE hi fun u h' tk hk=>?_;refine av (S.keepAll (tk:=tk) hk) fun S' X'=>?_;exact hQ _ _ _ Z st h S' (.str _ _) X'
theorem VE(he:de x)(hi:x.length<2^20)(h:K (.bytes (ck x)) st):FC d7 w A B d8 (.blt "str.encode") [.str x,.str sA,.str sS] [] st K:=FC.b fun s Z S Q E hQ=>Vals.un <| Val.eStr fun O=>Vals.un <| Val.eStr fun O=>Vals.un <| Val.eStr fun O=>Vals.un0 <| SB he hi fun u tk=>hQ _ _ _ Z st h (S.toks tk) (.bytes _ _) (.toks _)
theorem zX{x:Array UInt8}{led:aa}:ds B (.bytes x) led "bytes" := Hl fun s t=>typeIs_bytes s x t
theorem TN{h0:ExceptHandler}{hs:List ExceptHandler}{K:g6->St->Prop}
  (h:T d7 w A B d8 j5 (execs body d8) st K):T d7 w A B d8 j5 (exec (.Try body (h0::hs) [] [] pos) d8) st K:=fun s Z S Q E hQ=>by
 refine wpAny_Try_except (h s Z S _ _ fun v x s' Z' e9 k S' V X=>?_);cases x with
 |next=>exact WN (hQ v .next s' Z' e9 k S' V X)
 |_=>exact hQ v _ s' Z' e9 k S' V X
end
noncomputable abbrev tJ(name q:Str)(params:Arguments)(body:List Stmt)(scope:Scope)(c:XC)(pm:Value):a8 :=
 { name,qualname:=q,params,body:=.stmts body,scope,globals:=YD,closure:=[],closureTuple:=.none,code:=.ref c,builtins:=Zm,defaults:=.none,kwdefaults:=.none,annotations:=none,pyModule:=pm,doc:=.none}
def yw(name q:Str)(params:Arguments)(body:List Stmt)(scope:Scope)(Z:f9)(o:Obj):Prop :=
 ∃c pm oc vs t,o={ cls:=.type "function",data:=.func (tJ name q params body scope c pm)}/\Z c=some oc/\oc.data=.fields vs/\vs[1]?=some (.str q t)
theorem Qj{q:Str}{params:Arguments}{scope:Scope}(Z Z':f9)(o:Obj)(k:f9.le Z Z')(x:yw name q params body scope Z o):yw name q params body scope Z' o:=by
 refine WD x fun c pm oc vs t h1 h2 h3 h4=>?_;clear x;exact UW c pm oc vs t h1 (k _ _ h2) h3 h4
noncomputable abbrev pf(name q:Str)(params:Arguments)(body:List Stmt)(scope:Scope):i9:=.obj (yw name q params body scope) Qj
theorem Uv{f:XC}{q:Str}{params:Arguments}{scope:Scope}{led:aa}{K:AV->aa->Prop}
  (hG:m3 B) (hm:(f,pf name q params body scope)∈led) (hsc:scope.isCoroutine=false/\scope.isGenerator=false/\scope.kind=.function)
  (o5:(scope.names.all fun x=>decide (x.2 ≠ .cell))=true) (n9:A.depth<YU)
  (hb:∀c pm,Binds d7 w A.in1 B (tJ name q params body scope c pm) args kw binds) (u8:((binds.map (·.1)).all fun x=>decide (scope.names.lookup x=some .local))=true)
  (h:∀L c,L∉keys led->T d7 w (A.deeper (cy scope L YD [] q f (.ref c) Zm)) B (cy scope L YD [] q f (.ref c) Zm) j5
   (execs body (cy scope L YD [] q f (.ref c) Zm)) ⟨binds.reverse,led⟩ (hM K)) :
  TC d7 w A B (.ref f) args kw led K:=fun s Z fx xs ks S hf hx H5 R hR=>by
 (have e_:=hf.inv;subst e_)
 obtain⟨o,ho,c,pm,oc,vs,tq,rfl,I7,A5,hq⟩:=S.own _ hm;exact AN (fd:=tJ name q params body scope c pm) hG ho rfl hsc.1 hsc.2.1 hsc.2.2 rfl (fun x hx=>of_decide_eq_true (XF.mp o5 x hx)) rfl (S.frozen _ _ I7) A5 hq n9 (hb c pm)
  (fun x hx=>of_decide_eq_true (XF.mp u8 x hx)) (fun L hL=>h L c hL) S hx H5 hR
theorem Gl{K:Frag}{c P:XC}{q:Str}{scope:Scope}{fl:Nat}{params:Arguments}{fb:FuncBody}{led:aa}(hc:d8.code=.ref c)(I6:jh K c P=true)(hP:(P,bM q)∈led)(S:f1 (am K) s Z led)
  (hQ:∀c' oc vs t s' Z',f1 (am K) s' Z' led->k8 (ah led) s Z s' Z' (ah led)->Z' c'=some oc->oc.data=.fields vs->vs[1]?=some (.str q t)->Q (.ref c') s'):Xq (Xn d7 w) A (functionCode d8 pos fl name q params scope fb) Q E s:=by
 obtain⟨o,vs,W',tf,U9,tg,inF,text,tt,W8,hd,h11,h2,h7,h9,h10⟩:=Em I6;have ho:s.heap.get? c=some o:=S.frozen _ _ (S.base _ _ W8);obtain⟨op,Q5,⟨J0,hsh⟩,ps,G_,D',D6⟩:=S.own _ hP;dsimp only at Q5;have hPZ:Z P=none:=S.apart _ hP;have hcP:c≠P:=fun e=>by have:=S.base _ _ W8;rw[e,hPZ] at this;cases this
 unfold functionCode codeAt;rw[hc,if_neg (show ¬ ((Value.ref c==Yp)=true) from XL)];refine WL (YT ho hd ?_);rw[h11];refine WL (YT Q5 G_ ?_);cases K_:c0 pos ps.toList with
 |some cv =>
  refine pN (D6 pos cv K_) fun c' oc Ž t O5 hz hdc hq=>?_;subst O5;exact WN (hQ c' oc Ž t s Z S .refl hz hdc hq)
 |none =>
  rw[h2,h7,h9,h10];refine WL (wpAny_newCode fun c' P' h' tk hk R5 Ì R_ J9=>?_);refine av (S.grow (h':=h') (tk:=tk) hk) fun S1 X1=>?_;refine pN J9 fun c2 oc ρ t2 Q8 V_ V4 r2=>?_;clear J9;cases Q8
  have w6:s.heap.get? c'=none:=Heap.get?_none_of_le R5;have c_:c'∉keys led:=fun hm=>by
   refine ad (Xu.mp hm) fun p hp e=>?_;refine ak ((S.own p hp).live) fun ob g=>?_;rw[e,w6] at g;cases g
  have É:Z c'=none:=by
   cases e:Z c' with
   |none=>rfl
   |some x=>have:=S.frozen _ _ e;rw[w6] at this;cases this
  refine av (S1.fixZ (s0:=s) (c:=c') (o:=oc) V_ w6 c_ É X1) fun S2 X2=>?_;have T5:=hk _ _ Q5;refine WL (wpAny_updateFieldsOfTheText T5 G_ ?_);have y4:(YY (fun vs=>if (c0 pos vs.toList).isSome=true then vs else vs ++ #[Yu pos.line,Yu pos.col,.ref c']) op).data =
    .fields (ps ++ #[Yu pos.line,Yu pos.col,.ref c']):=by
   rw[ZZ G_,K_];rfl
  have n5:=XH (h:=h') (fun o=>YY (fun vs=>if (c0 pos vs.toList).isSome=true then vs else
   vs ++ #[Yu pos.line,Yu pos.col,.ref c']) o) T5 (Zz y4)
  refine WL (YT n5 y4 ?_);have hl:(ps ++ #[Yu pos.line,Yu pos.col,Value.ref c']).toList=ps.toList++[Yu pos.line,Yu pos.col,.ref c']:=by simp
  rw[hl,codeAmong_snoc _ D' K_];have P3:=S2.upd (Upd.same hP) (h':=h'.update P fun o=>YY (fun vs=>if (c0 pos vs.toList).isSome=true then vs else vs ++ #[Yu pos.line,Yu pos.col,.ref c']) o) (tk:=tk) (fun b ob hb e=>(XE ..).extBut b ob hb e) rfl rfl
   ⟨_,n5,⟨Zz y4,hsh.map _⟩,_,y4,by rw[hl];exact TriplesOk_snoc _ _ _ _ D',fun F6 cv e=>?_⟩
  ·exact WN (hQ c' oc ρ t2 _ _ P3.1 (X2.trans P3.2) (f9.add_at ..) V4 r2)
  ·rw[hl] at e;rcases En _ D' e with e |rfl
   ·refine cA (D6 F6 cv e) fun c3 oc3 ż t3 e3 z3 r3=>?_;exact gg c3 oc3 ż t3 e3 (f9.le_add É _ _ z3) r3
   ·exact Fs c' oc ρ t2 rfl (f9.add_at ..) V4 r2
def Ei(K:Frag):Prop:=∃o es ep bm ob,K.lookup YD=some o/\o.data=.dict es ep/\StrKeys es/\nsFind es "__builtins__" = some (.ref bm)/\bm≠Zm /\
 K.lookup bm=some ob/\ob.cls=.type "module" /\ ob.dict=some Zm/\ob.data=.plain
theorem Se{scope:Scope}(h:(scope.names.all fun x=>decide (x.2 ≠ .free))=true):closureFor scope d8=YV [] :=
 c5 fun x hx=>of_decide_eq_true (XF.mp h x hx)
theorem TV{K:Frag}{c P:XC}{q:Str}{params:Arguments}{scope:Scope}{R:g6->St->Prop}
  (hdef:defaultsOf params d8=([],[])) (hann:annTrees params none d8=[]) (Á:(scope.names.all fun x=>decide (x.2 ≠ .free))=true) (hdoc:docOf body=none)
  (hq:qualnameIn d8 name name=q) (hg:d8.globals=YD) (hK:Ei K) (r0:d8.kindOf name=some .local)
  (hc:d8.code=.ref c) (I6:jh K c P=true) (hP:(P,bM q)∈st.led)
  (h:∀f,f∉keys st.led->R .next ⟨cg st.loc name (.ref f),(f,pf name q params body scope)::st.led⟩) :
  T d7 w A (am K) d8 j5 (exec (.FunctionDef name params body [] none [] scope none name pos) d8) st R:=fun s Z S Q E hQ=>by
 rw[exec_def,hdef,hann,hq];refine WL (XB ?_);refine WL (Xc ?_);refine WL (WN ?_);refine WL (Xc (WN ?_));refine Xc ?_;refine WL (WN ?_);unfold makeFunction;rw[List.zip_nil_right];refine dH rfl (WL (WN (dH rfl (WL (WN (dH rfl (WL (WN (WL (Yd (Se Á) (dH rfl (WL (WN ?_)))))))))))));refine WL (Gl hc I6 hP S.tof1 fun c' oc vs t s₁ Z1 S1 X1 hz hd hr=>?_);refine zA hK fun o es ep bm ob hlg hgd ì hbm t0 hob hcls K6 u9=>?_;clear hK;have C9:=sR (s:=s₁) (Z:=Z1) hlg hgd ì S1.base S1.frozen;rw[hg];refine WL (wpAny_builtinsFor C9 hbm t0 (S1.frozen _ _ (S1.base _ _ hob)) hcls K6 u9 ?_);refine WL (wpAny_nsGet C9 ?_);refine WL (Yd (a:=Yp) (by rw[hdoc]) ?_);refine WL (wpAny_alloc (WN ?_));have P1:=S1.push (o:={ cls:=.type "function",data:=.func (tJ name q params body scope c' ((nsFind es "__name__").getD .none))}) (ao:=pf name q params body scope) rfl s₁.toks
  ⟨_,WW _ rfl,c',_,oc,vs,t,rfl,hz,hd,hr⟩
 have SF:=S.after P1.1 (X1.trans P1.2);refine WL (XB (WL (wpAny_bindName ?_)));have J0:s₁.heap.objs.size∉keys st.led:=S1.lfresh;refine zv (v:=.ref s₁.heap.objs.size) (K:=fun O e9=>R .next e9) r0 rfl (h _ J0) _ Z1 (.ref s₁.heap.objs.size) (.ref _) SF _ _ fun O O s' Z' e9 k S' O X=>?_;exact WN (hQ .next .next s' Z' e9 k S' .next ((X1.trans P1.2).toF.trans X))
def zg(d7:Xh)(w:Xo)(B:f9)(f:AV)(led:aa):Prop :=
 ∀(A:Xg) (s:WS) (Z:f9) (fx:Value),Val Z f fx->f1 B s Z led->∀(Q:Keeper->WS->Prop) (E:Value->WS->Prop),(∀k,Q k s)->Xq (Xn d7 w) A (keeperOf fx) Q E s
theorem oX{f:XC}{q:Str}{params:Arguments}{scope:Scope}{led:aa}(hm:(f,pf name q params body scope)∈led):zg d7 w B (.ref f) led:=fun A s Z fx V S Q E hQ=>by
 (have e_:=V.inv;subst e_)
 obtain⟨o,ho,c,pm,oc,vs,tq,rfl,I7,A5,hq⟩:=S.own _ hm;unfold keeperOf;exact WL (wpAny_load ho (WN (hQ _)))
theorem pR{f:AV}{first:List AV}{args:List Expr}(m8:((Zy pos (XV args d8)).all fun x => !x.1)=true)
  (h:T d7 w A B d8 Vals (spliced (Zy pos (XV args d8))) st fun vs j9=>zg d7 w B f j9.led/\FC d7 w A B d8 f (first++vs) [] j9 K):CA d7 w A B d8 pos f first args st K:=fun s Z fx xs hf Δ S Q E hQ=>by
 unfold callWith;have K7:∀ {Q':Args->WS->Prop},(∀v x s' Z' e9,(zg d7 w B f e9.led/\FC d7 w A B d8 f (first++v) [] e9 K)->g8 B d8 s' Z' e9->Vals Z' v x->k8 (aw d8 st) s Z s' Z' (aw d8 e9)->Q' ⟨x,[]⟩ s') ->
   Xq (Xn d7 w) A (evalArgs fx true (Zy pos (XV args d8)) []) Q' E s:=fun{Q'} g_=>by
  have F8:=h s Z S (fun x s'=>Q' ⟨x,[]⟩ s') E g_;revert F8 m8;generalize Zy pos (XV args d8)=l;intro m8 F8;cases l with
  |nil=>exact yA F8
  |cons y r =>
   obtain⟨b,t⟩:=y
   have:b=false:=by simpa using (XF.mp m8 (b,t) (WM ..))
   subst this;exact Calls.evalArgs_plain F8
 refine WL (Xc (K7 fun vs x s₁ Z1 j9 k₁ S1 V1 X1=>WL (XB ?_)));refine WL (k₁.1 A s₁ Z1 fx (hf.mono X1.le) S1.tof1 _ _ fun k=>?_);have s8:Xq (Xn d7 w) A (call fx (xs++x) []) (fun r s'=>Xq (Xn d7 w) A (do b9 [r] point;YV r) Q E s') E s₁ :=
  k₁.2 s₁ Z1 fx _ [] (hf.mono X1.le) ((Δ.mono X1.le).append V1) .nil S1 _ _ fun v y s' Z' e9 k S' V X=>WL (Xc (wpAny_point (WN (hQ v y s' Z' e9 k S' V (X1.trans X)))))
 have Q5:∀l,Xq (Xn d7 w) A (operate l (call fx (xs++x) [])>>=fun r=>(do b9 [r] point;YV r)) Q E s₁:=fun l=>WL (fun Γ p F7=>by rw[Sem.wp_operate];exact s8 Γ p F7);have hm:∀m,Xq (Xn d7 w) A (callMarked m fx (xs++x) []>>=fun r=>(do b9 [r] point;YV r)) Q E s₁:=fun m=>WL (by unfold callMarked;exact Calls.wpAny_keep s8);generalize (((Zy pos (XV args d8)).any fun x=>x.fst)||([]:List (Option Str×Sem Value)).any fun x=>x.fst.isNone)=b;cases k <;> cases b <;> first
  |exact Q5 _
  |exact hm _
  |exact WL s8
  |exact wpAny_ite (by split <;> first |exact WL s8 |exact hm _)
theorem Mj:PlainAttrs "bytes" :=
 ⟨⟨"bytes.__getattribute__",by rw[Ye,XD];kernel_rfl,by decide +kernel⟩,by rw[Ye,XD];kernel_rfl⟩
theorem Hk:typeOf (.builtin "bytes.decode")=YV (.type "method_descriptor"):=by show builtinType _=_;rw[builtinType_eq_fast];kernel_rfl
theorem Ij:Slot "bytes" BA "bytes.decode" := by
 rw[show (BA:Str)=WR "decode" from by decide +kernel];exact FB.slot_bytes_decode
theorem Ii:Slot "str" KA "str.encode" := by
 rw[show (KA:Str)=WR "encode" from by decide +kernel];exact Eb
noncomputable abbrev dL:Str:=⟨⟨[100,105,102,102,95,98,121,116,101,115,46,60,108,111,99,97,108,115,62,46,100,101,99,111,100,101]⟩⟩
noncomputable abbrev cf:i9:=pf BA dL (ud (aq 11 1)) (bo (aq 11 1)) (jz (aq 11 1))
theorem jg{b:Array UInt8}{f:XC}{led:aa}(hA:g7 A 10)(hm:(f,cf)∈led)(hb:b.size<2^20) :
  TC af w A (aj w) (.ref f) [.bytes b] [] led fun v led'=>v=.str (ar b)/\led'=led:=by
 refine Uv (binds:=[(KN,.bytes b)]) (bG w) hm ⟨@_,@_,@_⟩ @_ hA.lt (fun c pm=>Binds.of1 fun Z v1 h1=>⟨_,@_,.cons h1 .nil⟩) @_ fun L c hL=>?_;simp only[Xw,XG,Xe,WZ];have hG:=dX (d7:=af) (w:=w) (B:=aj w) (A:=A.deeper (cy (jz (aq 11 1)) L YD [] dL f (.ref c) Zm)) (d8:=cy (jz (aq 11 1)) L YD [] dL f (.ref c) Zm) @_ @_ @_ @_ hA.h;refine aC (TN (bv hG 10 (f7.mk (ut (T' := "bytes") (id := "bytes.decode") @_ @_ @_ Mj Ij Hk (ae hG 5 ⟨zX,cp @_ gE (bD hG 10 (VF hb ⟨rfl,rfl⟩))⟩)))))
noncomputable abbrev xW(df:XC)(a b:AV)(ff tf fd td:AV)(n:Nat)(lt:AV)(v1 v2 v3:AV):List (Str×AV) :=
 [(qD,lt),(jB,.int n),(qE,td),(qF,fd),(qG,tf),(qH,ff),(cZ,b),(di,a),(BB,.ref df),(BA,v1),(Bz,v2),(qC,v3)]
noncomputable def AT:Option Value->XC
 |some (.ref a)=>a
 |_=>0
noncomputable def objOf:Option Obj->Obj
 |some o=>o
 |none=>{ cls:=.none,data:=.plain}
theorem RK(w:Xo):Ei (KB w.params) :=
 ⟨_,_,_,AT (nsFind (fV (dS w.params)) "__builtins__"),objOf ((KB w.params).lookup (AT (nsFind (fV (dS w.params)) "__builtins__"))),gM w,bn _,bk _,@_,beq_eq_false_iff_ne.mp @_,@_,@_,@_,@_⟩
theorem A_.of{K:g6->St->List AV->Prop}{led:aa}{l:aa}(e:st=⟨loc,l++led⟩)(h:K .next ⟨loc,l⟩ f0):A_ K f0 led .next st:=by subst e;exact .mk l h
def JD(L:List (Str×AV))(l:aa)(rs:List Str)(P:St->List AV->Prop):Prop:=(∀r∈rs,de r/\r.length<2^20)->P ⟨L,l⟩ (rs.map fun r => .bytes (ck r))
theorem RI{df:XC}{a b:List (Array UInt8)}{ff tf fd td lt:Array UInt8}{led N:aa}{f0:List Str}(hA:g7 A 10)(ö:(286,bM dL)∈N)
  (ha:a.length<10^5) (hb:b.length<10^5) (P7:∀x∈a,x.size<10^4) (η:∀x∈b,x.size<10^4)
  (μ:ff.size<10^4) (ε:tf.size<10^4) (x_:fd.size<10^4) (q_:td.size<10^4) (l8:lt.size<10^4)
  (P8:dE af w (aj w) (.ref df))
  (hdf:∀A',g7 A' 200->∀led',n7 N led'->TC af w A' (aj w) (.ref df) [.lst ((a.map ar).map .str),.lst ((b.map ar).map .str),.str (ar ff),.str (ar tf),.str (ar fd),.str (ar td),.int n,.str (ar lt)] [] led'
   (n8 af w (aj w) N 153 (f0.map .str) led'))
  (Κ:∀r∈f0,de r/\r.length<2^20) :
  TC af w A (aj w) (.ref 291) [.ref df,.lst (a.map .bytes),.lst (b.map .bytes),.bytes ff,.bytes tf,.bytes fd,.bytes td,.int n,.bytes lt] [] led
   (n8 af w (aj w) N 204 (f0.map fun r => .bytes (ck r)) led):=by
 refine zc (m:=201) (xW df (.lst (a.map .bytes)) (.lst (b.map .bytes)) (.bytes ff) (.bytes tf) (.bytes fd) (.bytes td) n (.bytes lt) .any .any .any) (bG w) hA.lt (fun O O O O O O O O O=>@_) @_ @_ (Qp _) fun L=>?_;have hG:=fun(A:Xg) (hh:A.handled=none)=>(((gk w A (az (lg w.params)) L 291 290 @_ @_ hh).g (tF w) @_ @_).g (Ds w) @_ @_).m ⟨KA,0, "str.encode"⟩ jY Ii Rv;refine bJ [] (fun A' f8 led' l3=>aD (hG A' f8.h) 20 .mk) ?_;refine cm (du fun A' f8 led' l3=>TV (K:=KB w.params) (c:=290) (P:=286) (name:=BA) (q:=dL) (params:=ud (aq 11 1)) (body:=bo (aq 11 1)) (scope:=jz (aq 11 1)) @_ @_ @_ @_ @_ @_ (RK w) @_ @_ @_ (l3 _ ö) fun f hf=>A_.of (loc:=xW df (.lst (a.map .bytes)) (.lst (b.map .bytes)) (.bytes ff) (.bytes tf) (.bytes fd) (.bytes td) n (.bytes lt) (.ref f) .any .any) (l:=[(f,cf)]) @_ ?_);refine cm (du fun A' f8 led' l3=>aD (hG A' f8.h) 40 (f7.mk (zm fun m it=>f7.mk ?_)));refine uA (k:=31) (T' := "map") (items:=(a.map ar).map .str) (gl:=eK m it (.ref f) (a.map .bytes) 0 []) (led:=[(f,cf)]++led') (N:=[(f,cf)]) (f8.mono ⋯) (fun p hp=>Yc _ hp)
  (g5.map (N:=[(f,cf)]) (k:=30) (ys:=(a.map ar).map .str) (by simp) (fun i x y hx hy A' D8 led' U_=>?_) a.length 0 (by simp)) (XQ (show _<=10^5 by simp only[WP];omega) (show 10^5<=XK by decide)) (fun s Z S=>?_) (by decide) (by decide) (fun A s Z S Q E h=>xO S h) xP xQ ?_
 ·rw[XM] at hx hy;refine ad (Yt.mp hx) fun t ht O3=>?_;subst O3;refine ad (Yt.mp hy) fun t' ht' O3=>?_;subst O3;rw[XM,ht] at ht';cases ht'
  have:=P7 t (List.mem_of_getElem? ht);exact jg (D8.mono ⋯) (U_ _ (WM ..)) ⋯
 ·exact xR S
 refine .mk [(f,cf)] ?_;refine cm (du fun A' f8 led' l3=>aD (hG A' f8.h) 40 (f7.mk (zm fun m it=>f7.mk ?_)));refine uA (k:=31) (T' := "map") (items:=(b.map ar).map .str) (gl:=eK m it (.ref f) (b.map .bytes) 0 []) (led:=[(f,cf)]++led') (N:=[(f,cf)]) (f8.mono ⋯) (fun p hp=>Yc _ hp)
  (g5.map (N:=[(f,cf)]) (k:=30) (ys:=(b.map ar).map .str) (by simp) (fun i x y hx hy A' D8 led' U_=>?_) b.length 0 (by simp)) (XQ (show _<=10^5 by simp only[WP];omega) (show 10^5<=XK by decide)) (fun s Z S=>?_) (by decide) (by decide) (fun A s Z S Q E h=>xO S h) xP xQ ?_
 ·rw[XM] at hx hy;refine ad (Yt.mp hx) fun t ht O3=>?_;subst O3;refine ad (Yt.mp hy) fun t' ht' O3=>?_;subst O3;rw[XM,ht] at ht';cases ht'
  have:=η t (List.mem_of_getElem? ht);exact jg (D8.mono ⋯) (U_ _ (WM ..)) ⋯
 ·exact xR S
 refine .mk [(f,cf)] ?_;refine bJ [(f,cf)] (fun A' f8 led' l3=>aD (hG A' f8.h) 20 (f7.mk (pR @_ (bD (hG A' f8.h) 10 ⟨oX (WM ..),pH (jg (f8.mono ⋯) (WM ..) ⋯) .mk⟩)))) ?_;refine bJ [(f,cf)] (fun A' f8 led' l3=>aD (hG A' f8.h) 20 (f7.mk (pR @_ (bD (hG A' f8.h) 10 ⟨oX (WM ..),pH (jg (f8.mono ⋯) (WM ..) ⋯) .mk⟩)))) ?_;refine bJ [(f,cf)] (fun A' f8 led' l3=>aD (hG A' f8.h) 20 (f7.mk (pR @_ (bD (hG A' f8.h) 10 ⟨oX (WM ..),pH (jg (f8.mono ⋯) (WM ..) ⋯) .mk⟩)))) ?_;refine bJ [(f,cf)] (fun A' f8 led' l3=>aD (hG A' f8.h) 20 (f7.mk (pR @_ (bD (hG A' f8.h) 10 ⟨oX (WM ..),pH (jg (f8.mono ⋯) (WM ..) ⋯) .mk⟩)))) ?_;refine bJ [(f,cf)] (fun A' f8 led' l3=>aD (hG A' f8.h) 20 (f7.mk (pR @_ (bD (hG A' f8.h) 10 ⟨oX (WM ..),pH (jg (f8.mono ⋯) (WM ..) ⋯) .mk⟩)))) ?_;refine cm (du fun A' f8 led' l3=>aD (hG A' f8.h) 20 (f7.mk (cp @_ P8 (bD (hG A' f8.h) 20 (fy (led:=[(f,cf)]++led') (hdf _ (f8.mono ⋯) _ (l3.app _)) fun v l h=>?_)))));refine cA h fun ga gn gs gl O5 O6 F8=>?_;clear h;subst O5;subst O6;refine A_.of (l:=((ga,.gen gn gs)::gl)++[(f,cf)]) (congrArg (St.mk _) (Xv ..).symm) ?_;refine gJ (k:=154) AV.str (JD (xW df (.lst ((a.map ar).map .str)) (.lst ((b.map ar).map .str)) (.str (ar ff)) (.str (ar tf)) (.str (ar fd)) (.str (ar td)) n (.str (ar lt)) (.ref f) (.ref ga) .any) [(f,cf)]) ⋯ (fun A' f8 led' l3=>ae (hG A' f8.h) 5 ?_) ?_ (fun O=>be rfl) (fun O=>@_)
 ·rw[Xv];exact FW (bG w) F8 fun hI => .mk (l:=[(f,cf)]) (hI _ _) (.mk (fun O y=>y Κ) @_)
 ·refine fun gl r rs h => .mk (fun A' f8 led' l3=>bp (aR rfl rfl)) ?_;refine fw ([(f,cf)]++gl) (fun A' f8 led' l3=>ae (hG A' f8.h) 20 (f7.mk (VE (h r (WM ..)).1 (h r (WM ..)).2 .mk))) ?_ @_ @_;exact be (.next (l:=[(f,cf)]) (.mk (fun O y=>y fun p hp=>h p (WO _ hp)) @_))
noncomputable def aG[DecidableEq α](a:List α):Nat->Nat
 |0=>0
 |n+1=>aG a n+if a[n+1]?=a[n]? then 0 else 1
section
variable[DecidableEq α]
theorem ji(a:List α)(n:Nat):aG a (n+1)=aG a n+if a[n+1]?=a[n]? then 0 else 1:=rfl
theorem Et(a:List α)(m d:Nat):aG a m<=aG a (m+d):=by
 induction d with
 |zero=>exact Xy _
 |succ d ih=>exact XQ ih (Nat.le_add_right ..)
theorem fY(a:List α){m:Nat}(h:m<=n):aG a m<=aG a n:=ak (Nat.le.dest h) fun d e=>e▸Et a m d
theorem Tq{x y:Nat}(h:x<=y) : ¬ y+1=x:=fun e=>absurd (e▸h:y+1<=y) (Nat.not_succ_le_self y)
theorem Er(a:List α)(m d:Nat):(aG a (m+d)=aG a m->a[m+d]?=a[m]?)/\(aG a (m+d)=aG a m+1->a[m+d]? ≠ a[m]?):=by
 induction d with
 |zero=>exact⟨fun O=>rfl,fun h=>absurd h.symm (Nat.succ_ne_self _)⟩
 |succ d ih =>
  have hm:=Et a m d;rw[show m+(d+1)=(m+d)+1 from rfl,ji];by_cases e:a[m+d+1]?=a[m+d]?
  ·rw[if_pos e,e,Nat.add_zero];exact ih
  ·rw[if_neg e];exact⟨fun h=>absurd h (Tq hm),fun h=>(ih.1 (Nat.succ.inj h))▸e⟩
theorem yG(a:List α){m:Nat}(h:m<=n):aG a n=aG a m->a[n]?=a[m]?:=ak (Nat.le.dest h) fun d e=>e▸(Er a m d).1
theorem Es(a:List α){m:Nat}(h:m<=n):aG a n=aG a m+1->a[n]? ≠ a[m]?:=ak (Nat.le.dest h) fun d e=>e▸(Er a m d).2
theorem tW(a:List α){p m:Nat}(h1:p<=m)(h2:m<=i)(e:aG a i=aG a p):a[m]?=a[p]?:=yG a h1 (Nat.le_antisymm (e▸fY a h2) (fY a h1))
theorem Sl(a:List α)(b:List α)(n:Nat):n<a.length->aG (a++b) n=aG a n:=by
 induction n with
 |zero=>exact fun O=>rfl
 |succ n ih =>
  intro h;rw[ji,ji,ih (Nat.lt_of_succ_lt h),List.getElem?_append_left h,List.getElem?_append_left (Nat.lt_of_succ_lt h)]
theorem OX{c:Prop}[Decidable c]:(if c then 0 else 1)<=1:=by split <;> decide
theorem Sh(a:List α)(y:α)(m d:Nat):d<m->aG (a++Zr m y) (a.length+d)<=aG a (a.length-1)+1:=by
 induction d with
 |zero =>
  intro h;rw[Nat.add_zero];cases hl:a.length with
  |zero=>exact Xk _
  |succ n =>
   rw[ji,Sl a _ n (hl▸Zv n)];exact Nat.add_le_add_left OX _
 |succ d ih =>
  intro h;have g:∀k,k<m->(a++Zr m y)[a.length+k]?=some y:=fun k hk=>by
   rw[List.getElem?_append_right (Nat.le_add_right ..),Nat.add_sub_cancel_left,List.getElem?_replicate,if_pos hk]
  have g':(a++Zr m y)[a.length+d+1]?=(a++Zr m y)[a.length+d]?:=(g (d+1) h).trans (g d (Nat.lt_of_succ_lt h)).symm;rw[show a.length+(d+1)=(a.length+d)+1 from rfl,ji,if_pos g'];exact ih (Nat.lt_of_succ_lt h)
theorem Sg(a:List α)(y:α)(m:Nat):aG (a++Zr m y) ((a++Zr m y).length-1)<=aG a (a.length-1)+1:=by
 cases m with
 |zero=>simp
 |succ m =>
  rw[WV,c8];exact Sh a y (m+1) m (Zv m)
theorem Tp{x y u v:Nat}(h:x<y)(h':u<v):x+u+2<=y+v:=XQ (Nat.le_of_eq (Nat.add_add_add_comm x 1 u 1).symm) (Nat.add_le_add h h')
theorem To{x u v:Nat}(h:u<v)(h':v≠u+1):x+u+2<=x+v:=Nat.add_le_add_left (Nat.lt_of_le_of_ne h h'.symm) x
theorem Tm{x u v:Nat}(h:u<v)(h':v≠u+1):u+x+2<=v+x:=XQ (Nat.le_of_eq (Nat.add_right_comm u x 2)) (Nat.add_le_add_right (Nat.lt_of_le_of_ne h h'.symm) x)
theorem DC(a b:List α){p q:Nat}(hp:p<i)(hq:q<j)(h0:a[p]?=b[q]?)(h1:a[i]?=b[j]?)
  (è : ¬ (a[i-1]?=b[j-1]?) ∨ ¬ (a[p+1]?=b[q+1]?)):aG a p+aG b q+2<=aG a i+aG b j:=by
 have H_:=YO hp;have æ:=YO hq;refine(Nat.eq_or_lt_of_le (fY a H_)).elim (fun da=>?_) fun da=>?_
 ·have ea:=yG a H_ da.symm;refine(Nat.eq_or_lt_of_le (fY b æ)).elim (fun db=>?_) fun db=>?_
  ·exact(è.elim (fun h=>h ((tW a (Nat.le_sub_one_of_lt hp) (Nat.sub_le ..) da.symm).trans (h0.trans (tW b (Nat.le_sub_one_of_lt hq) (Nat.sub_le ..) db.symm).symm)))
    fun h=>h ((tW a (Nat.le_succ p) hp da.symm).trans (h0.trans (tW b (Nat.le_succ q) hq db.symm).symm))).elim
  ·exact da▸To db fun e=>Es b æ e (h1.symm.trans (ea.trans h0))
 ·refine(Nat.eq_or_lt_of_le (fY b æ)).elim (fun db=>?_) fun db=>Tp da db;exact db▸Tm da fun e=>Es a H_ e (h1.trans ((yG b æ db.symm).trans h0.symm))
end
theorem NC{fl:Nat->Nat->Nat->Nat->ab}(ok:cn fl)(mx:L4 e fl):∀(f alo g4 f2 f6:Nat),alo<=g4->f2<=f6->∀t∈ci fl f alo g4 f2 f6,k9 e t :=
 oS ok (P:=fun O O O O L=>∀t∈L,k9 e t) (fun O O O O O O=>cw) fun alo g4 f2 f6 i j k l r h1 h2 e O O O O hl hr=>ta hl (e▸mx.run _ _ _ _ h1 h2) hr
structure Pt (a b:List Str) (alo g4 f2 f6 p q:Nat):Prop where
 a1:alo<=p
 a2:p<g4
 b1:f2<=q
 b2:q<f6
 eq:a[p]?=b[q]?
theorem Pt.wide{a b:List Str}{g4 Ù Ú Ö Ø p q:Nat}(h:Pt a b alo g4 f2 f6 p q)(h1:Ù<=alo)(h2:g4<=Ú)(h3:Ö<=f2)(h4:f6<=Ø):Pt a b Ù Ú Ö Ø p q :=
 ⟨XQ h1 h.a1,Nat.lt_of_lt_of_le h.a2 h2,XQ h3 h.b1,Nat.lt_of_lt_of_le h.b2 h4,h.eq⟩
def Gc(a b:List Str)(alo g4 f2 f6:Nat)(L:List ab):Prop:=L=[]∨∃p q p' q',Pt a b alo g4 f2 f6 p q/\Pt a b alo g4 f2 f6 p' q'/\2 * L.length+(aG a p+aG b q)<=aG a p'+aG b q'+2
theorem Tl{l r x y u v:Nat}(h1:2 * l+x<=u)(h2:2 * r+v<=y)(h3:u<=v):2 * (l+(r+1))+x<=y+2:=by
 rw[Nat.mul_add,Nat.add_right_comm];exact XQ (Nat.add_le_add_right (XQ h1 h3) (2 * r+2)) (Nat.add_le_add_right (XQ (Nat.le_of_eq (Nat.add_comm v (2 * r))) h2) 2)
theorem Tk{l x y z:Nat}(h1:2 * l+x<=y+2)(h2:z+2<=x):2 * l+z<=y:=Nat.le_of_add_le_add_right (b:=2) (XQ (Nat.add_le_add_left h2 (2 * l)) h1)
theorem NE(a b:List Str){fl:Nat->Nat->Nat->Nat->ab}(ok:cn fl)(mx:L4 (aB a b) fl):∀(f alo g4 f2 f6:Nat),alo<=g4->f2<=f6->Gc a b alo g4 f2 f6 (ci fl f alo g4 f2 f6) :=
 oS ok (P:=Gc a b) (fun O O O O O O => .inl rfl) fun alo g4 f2 f6 i j k l r h1 h2 he a1 a2 a3 a4 hl hr=>by
  have F_:=mx.run _ _ _ _ h1 h2;have w':=mx.left _ _ _ _ h1 h2;have T3:=mx.right _ _ _ _ h1 h2;rw[he] at F_ w' T3;have e0:a[i]?=b[j]?:=beq_iff_eq.mp (F_ 0 (Nat.succ_pos k));have e1:a[i+k]?=b[j+k]?:=beq_iff_eq.mp (F_ k (Zv k));have p0:Pt a b alo g4 f2 f6 i j:=⟨a1,Nat.lt_of_lt_of_le (Nat.lt_add_of_pos_right (Nat.succ_pos k)) a2,a3,Nat.lt_of_lt_of_le (Nat.lt_add_of_pos_right (Nat.succ_pos k)) a4,e0⟩;have p1:Pt a b alo g4 f2 f6 (i+k) (j+k):=⟨XQ a1 (Nat.le_add_right ..),a2,XQ a3 (Nat.le_add_right ..),a4,e1⟩;have L:∃p q,Pt a b alo g4 f2 f6 p q/\2 * l.length+(aG a p+aG b q)<=aG a i+aG b j:=hl.elim (fun e=>⟨i,j,p0,e▸Nat.le_of_eq (Nat.zero_add _)⟩) fun h =>
   cA h fun p q p' q' h h' c=>⟨p,q,h.wide (Xy _) (YO p0.a2) (Xy _) (YO p0.b2),XQ c (DC a b h'.a2 h'.b2 h'.eq e0 (.inl fun g =>
    w' ⟨Nat.lt_of_le_of_lt h'.a1 h'.a2,Nat.lt_of_le_of_lt h'.b1 h'.b2,beq_iff_eq.mpr g⟩))⟩
  have R:∃p q,Pt a b alo g4 f2 f6 p q/\2 * r.length+(aG a (i+k)+aG b (j+k))<=aG a p+aG b q:=hr.elim (fun e=>⟨i+k,j+k,p1,e▸Nat.le_of_eq (Nat.zero_add _)⟩) fun h =>
   cA h fun p q p' q' h h' c=>⟨p',q',h'.wide (XQ a1 (Nat.le_add_right ..)) (Xy _) (XQ a3 (Nat.le_add_right ..)) (Xy _),Tk c (DC a b h.a1 h.b1 e1 h.eq (.inr fun g =>
    T3 ⟨Nat.lt_of_le_of_lt h.a1 h.a2,Nat.lt_of_le_of_lt h.b1 h.b2,beq_iff_eq.mpr g⟩))⟩
  refine bt L fun p q hp c=>bt R fun p' q' H_ c' => .inr ⟨p,q,p',q',hp,H_,?_⟩;rw[WV,WU];exact Tl c c' (Nat.add_le_add (fY a (Nat.le_add_right ..)) (fY b (Nat.le_add_right ..)))
theorem NA(a b:List Str)(hc:aG a (a.length-1)+aG b (b.length-1)<126):(aW (bQ (aB a b) (aQ a b)) (0,a.length,0,b.length)).length<64:=by
 have ok:=fU (aB a b) (aQ a b);unfold aW;dsimp only;exact(NE a b ok (DM a b) (a.length-0) 0 a.length 0 b.length (Xk _) (Xk _)).elim (fun h=>h▸by decide) fun h=>cA h fun p q p' q' O h c=>Nat.lt_of_mul_lt_mul_left (a:=2) (Nat.lt_of_le_of_lt (XQ (Nat.le_add_right _ _) c) (Nat.add_lt_add_right (Nat.lt_of_le_of_lt (Nat.add_le_add (fY a (Nat.le_sub_one_of_lt h.a2)) (fY b (Nat.le_sub_one_of_lt h.b2))) hc) 2))
section
variable[DecidableEq β]
noncomputable def DW(a b:List β)(i j:Nat):Bool:=decide (a[i]?=b[j]?)
noncomputable def tD(b:List β)(k:β):List Nat:=(List.range b.length).filter fun j=>decide (b[j]?=some k)
noncomputable def Di(a b:List β)(i:Nat):List Nat:=(a[i]?).elim [] fun k=>if decide (200<=b.length)&&decide (b.length / 100+1<(tD b k).length) then [] else tD b k
theorem th{f:β->Str}(hf:∀x y,f x=f y->x=y)(u v:Option β):(u.map f=v.map f)↔u=v:=by
 cases u <;> cases v <;> simp
 exact⟨hf _ _,fun h=>h▸rfl⟩
theorem DV{f:β->Str}(hf:∀x y,f x=f y->x=y)(a b:List β):aB (a.map f) (b.map f)=DW a b:=by
 funext i j
 unfold aB DW;rw[XM,XM,ZK,beq_iff_eq,decide_eq_true_eq];exact th hf _ _
theorem Pj{f:β->Str}(hf:∀x y,f x=f y->x=y)(b:List β)(k:β):ce (b.map f) (f k)=tD b k:=by
 unfold ce tD;rw[WP];refine List.filter_congr fun j O=>?_;rw[XM,ZK,beq_iff_eq,decide_eq_true_eq];exact th hf (b[j]?) (some k)
theorem Dg{f:β->Str}(hf:∀x y,f x=f y->x=y)(a b:List β):aQ (a.map f) (b.map f)=Di a b:=by
 funext i
 unfold aQ Di;rw[XM];cases a[i]? with
 |none=>rfl
 |some x =>
  show bd (b.map f) (f x)=_;unfold bd jU;rw[Pj hf,WP];rfl
theorem QF{f g:β->Str}(hf:∀x y,f x=f y->x=y)(hg:∀x y,g x=g y->x=y)(a b:List β):bQ (aB (a.map f) (b.map f)) (aQ (a.map f) (b.map f))=bQ (aB (a.map g) (b.map g)) (aQ (a.map g) (b.map g)):=by
 rw[DV hf,DV hg,Dg hf,Dg hg]
theorem Eu{f:β->Str}(hf:∀x y,f x=f y->x=y)(a:List β)(n:Nat):aG (a.map f) n=aG a n:=by
 induction n with
 |zero=>rfl
 |succ n ih =>
  rw[ji,ji,ih,XM,XM];congr 1
  simp only[th hf]
end
theorem k9.join{l:Nat}(h1:k9 e (i,j,k))(h2:k9 e (i+k,j+k,l)):k9 e (i,j,k+l):=fun d hd =>
 (Yn d k).elim (h1 d) fun q=>ak (Nat.le.dest q) fun c e=>e▸Nat.add_assoc i k c▸Nat.add_assoc j k c▸h2 c (Nat.lt_of_add_lt_add_left (e.symm▸hd:k+c<k+l))
theorem xK{Q:α->Prop}{xs:List α}{x:α}(h1:∀t∈xs,Q t)(h2:Q x)(t:α)(h:t∈xs++[x]):Q t:=(XR.mp h).elim (h1 t) fun h=>Xi.mp h▸h2
theorem EO{Q:ab->Prop}{s:ab×List ab}(h1:Q s.1)(h2:∀t∈s.2,Q t):∀t∈(if s.1.2.2=0 then s.2 else s.2++[s.1]),Q t:=by
 split
 ·exact h2
 ·exact xK h2 h1
theorem TB(ts:List ab):∀s:ab×List ab,k9 e s.1->(∀t∈s.2,k9 e t)->(∀t∈ts,k9 e t)->∀t∈fq (ts.foldl cI s),k9 e t:=by
 induction ts with
 |nil=>exact fun s h1 h2 O=>EO h1 h2
 |cons x ts ih =>
  intro s h1 h2 h3;have hx:=h3 x (WM ..);have h3':=fun t ht=>h3 t (WO _ ht);rw[Yh];unfold cI;split
  ·rename_i hc
   refine ih _ (k9.join h1 ?_) h2 h3';rw[hc.1,hc.2];exact hx
  ·exact ih _ hx (EO h1 h2) h3'
theorem SJ{fl:Nat->Nat->Nat->Nat->ab}(ok:cn fl)(mx:L4 e fl)(la lb:Nat):∀t∈aP fl la lb,k9 e t :=
 xK (TB _ ((0,0,0),[]) .none cw (NC ok mx _ _ _ _ _ (Xk _) (Xk _))) .none
def ev(o:Op):Prop:=o.tag=aZ
def uI(e:Nat->Nat->Bool)(o:Op):Prop:=ev o->∃k,o.i2=o.i1+k/\o.j2=o.j1+k/\k9 e (o.i1,o.j1,k)
theorem Sq{Q:Op->Prop}(h:∀t i ai j bj,t=cq∨t=cN∨t=cM->Q ⟨t,i,ai,j,bj⟩){ai bj:Nat}:∀o∈dA i ai j bj,Q o:=by
 unfold dA;split
 ·exact fun o ho=>Xi.mp ho▸h _ _ _ _ _ (.inl rfl)
 ·split
  ·exact fun o ho=>Xi.mp ho▸h _ _ _ _ _ (.inr (.inl rfl))
  ·split
   ·exact fun o ho=>Xi.mp ho▸h _ _ _ _ _ (.inr (.inr rfl))
   ·exact cw
theorem MU{t:Str}(h:t=cq∨t=cN∨t=cM):t≠aZ:=by rcases h with rfl |rfl |rfl <;> decide
theorem Mn(ts:List ab):∀s:(Nat×Nat)×List Op,(∀t∈ts,k9 e t)->(∀o∈s.2,uI e o)->∀o∈(ts.foldl cu s).2,uI e o:=by
 induction ts with
 |nil=>exact fun O O h=>h
 |cons t ts ih =>
  intro s h1 h2;refine ih (cu s t) (fun u hu=>h1 u (WO _ hu)) fun o ho=>(XR.mp ho).elim (fun ho=>(XR.mp ho).elim (h2 o) (Sq (fun O O O O O g q=>absurd q (MU g)) o)) ?_;unfold eN;split
  ·exact nofun
  ·exact fun q=>Xi.mp q▸fun O=>⟨t.2.2,rfl,rfl,h1 t (WM ..)⟩
theorem Mq(a b:List Str):∀o∈bN (aP (bQ (aB a b) (aQ a b)) a.length b.length),uI (aB a b) o :=
 Mn _ _ (SJ (fU _ _) (DM a b) _ _) cw
theorem PB(codes:List Op):∀group,cQ n group codes=[]->∀o∈group++codes,ev o:=by
 induction codes with
 |nil=>exact fun group=>(Yi group).symm▸lT (P:=fun l=>l=[]->∀o∈group,ev o) (fun c O=>List.isEmpty_iff.mp c▸cw) (fun c O=>ak (List.length_eq_one_iff.mp c.1) fun x e o ho=>Xi.mp (e▸ho)▸Zi (e▸c.2:Option.map _ (List.head? [x])=_)) fun O O h=>nomatch h
 |cons o os ih=>exact fun group=>yo (P:=fun l=>l=[]->∀p∈group++o::os,ev p) (fun O h=>nomatch h) fun O h=>EJ group o os▸ih _ h
theorem MK{f:Op->Op}(hf:∀o,(f o).tag=o.tag){os:List Op}(h:∀o∈kb f os,ev o):∀o∈os,ev o:=by
 cases os with
 |nil=>exact cw
 |cons x xs=>exact fun o ho=>(WT.mp ho).elim (fun e=>e▸(hf x).symm.trans (h (f x) (WM ..))) fun ho=>h o (WO _ ho)
theorem MH{f:Op->Op}(hf:∀o,(f o).tag=o.tag){os:List Op}:(∀o∈dx f os,ev o)->∀o∈os,ev o :=
 qm (P:=fun os=>(∀o∈dx f os,ev o)->∀o∈os,ev o) os (fun O=>cw) fun l x h=>by
  rw[qO] at h;exact xK (fun o ho=>h o (Yc _ ho)) ((hf x).symm.trans (h (f x) (Xx _ (List.mem_singleton_self _))))
theorem PD{codes:List Op}(h:bL n codes=[]):∀o∈codes,ev o:=by
 have k:=MK (Dl n) (MH (CQ n) (PB _ [] h));split at k
 ·rename_i c
  exact List.isEmpty_iff.mp c▸cw
 ·exact k
theorem Mh{a b:List Str}{i' j':Nat}(os:List Op):∀i,n6 i i os i' j'->(∀o∈os,uI (aB a b) o/\ev o)->i'=j'/\∀d,i<=d->d<i'->a[d]?=b[d]?:=by
 induction os with
 |nil=>exact fun i h O=>⟨h.1.symm.trans h.2,fun d h1 h2=>absurd h2 (Nat.not_lt.mpr (h.1▸h1))⟩
 |cons o os ih =>
  intro i h H9;have q:=H9 o (WM ..);refine aU (q.1 q.2) fun k e1 e2 r=>?_;rw[h.1] at e1 r;rw[h.2.1] at e2 r;have h5:=h.2.2.2.2;rw[e1,e2] at h5;have g:=ih (i+k) h5 fun p hp=>H9 p (WO _ hp);refine⟨g.1,fun d h1 h2=>(Yn d (i+k)).elim (fun z=>?_) fun z=>g.2 d z h2⟩;refine ak (Nat.le.dest h1) fun c e=>?_;subst e;exact beq_iff_eq.mp (r c (Nat.lt_of_add_lt_add_left z))
theorem Sr:dA i i j j=[]:=by unfold dA;rw[if_neg fun h=>Zh _ h.1,if_neg (Zh _),if_neg (Zh _)]
theorem Pz(a b:List Str)(n:Nat):bL n (bN (aP (bQ (aB a b) (aQ a b)) a.length b.length))=[]↔a=b:=by
 constructor
 ·intro h;have r:=Mh _ 0 (Cd (fU _ _) a.length b.length) fun o ho=>⟨Mq a b o ho,PD h o ho⟩;exact List.ext_getElem? fun d=>(Yn d a.length).elim (r.2 d (Xk _)) fun q=>(YQ q).trans (YQ (r.1▸q)).symm
 ·rintro rfl
  have hs:=QE a;have ok:=fU (aB a a) (aQ a a);generalize bQ (aB a a) (aQ a a)=fl at hs ok;generalize a.length=m at hs;cases m with
  |zero =>
   unfold aP;rw[Cu (q:=(0,0,0,0)) (congrArg (fun t=>t.2.2) hs)];exact Dn
  |succ m =>
   have h1:=Cv (q:=(0,m+1,0,m+1)) ok (Xk _) (Xk _) (hs▸Nat.succ_ne_zero _);have z:0+(m+1)=m+1:=Nat.zero_add _;rw[hs,if_neg fun h=>Zh _ h.1,if_neg fun h=>Zh (m+1) (Nat.lt_of_le_of_lt (Nat.le_of_eq z.symm) (show 0+(m+1)<m+1 from h.1))] at h1;unfold aP;rw[h1];show bL n (bN ([(0,0,0+(m+1))]++[(m+1,m+1,0)]))=[];rw[z];show bL n ([]++[⟨aZ,0,0+(m+1),0,0+(m+1)⟩]++dA (0+(m+1)) (m+1) (0+(m+1)) (m+1)++[])=[];rw[z,Sr];exact Do
theorem f1.lose{ao:i9}{led:aa}(S:f1 B s Z ((C,ao)::led)){h':Heap}(hs:Xz C s.heap h') :
  f1 B {s with heap:=h' } Z led/\k8 (ah ((C,ao)::led)) s Z {s with heap:=h' } Z (ah led):=by
 have hC:C∉keys led:=(Xj.mp S.nodup).1;have hCZ:Z C=none:=S.apart _ (WM ..);have S1:=S.drop1;refine⟨⟨S1.base,fun a o e=>hs.extBut a o (fun q=>by rw[q,hCZ] at e;cases e) (S1.frozen a o e),S1.nodup,S1.apart,fun p hp=>(S1.own p hp).mono (.refl _) (fun o e=>hs.extBut _ o (fun q=>hC (q▸Xm hp)) e) (fun O O O e=>e),S1.gnodup,S1.bare⟩,
  ⟨.refl _,fun a o e h=>hs.extBut a o (fun q=>h (q▸WM ..)) e,fun a h => .inl (WO _ h),fun O O e => .inl e,rfl,fun O O e O=>e,fun g h => .inl (DA h)⟩⟩
section
variable{N:aa}
noncomputable abbrev jy(w8:List Expr)(d8:Env):Sem Bool:=forIn w8 true fun c r=>if r=true then do let ok ← isTrue c d8 (Yw c d8);YV (ForInStep.yield ok) else YV (ForInStep.yield r)
theorem mc{K:Bool->St->Prop}(h:K true st):T d7 w A B d8 aH (jy [] d8) st K:=fun s Z S Q E hQ=>WN (hQ true true s Z st h S rfl .refl)
theorem TL{c:Expr}{K:Bool->St->Prop}(h:T d7 w A B d8 aH (isTrue c d8 (Yw c d8)) st K):T d7 w A B d8 aH (jy [c] d8) st K:=fun s Z S Q E hQ =>
 wpAny_tests_one (h s Z S Q E hQ)
theorem Sd{R:Result->WS->Prop}{elt:Expr}{w8:List Expr}{scope:Scope}{it acc:Value}(I:Nat->WS->Prop)
  (turn:∀n s,I n s->Xq (Xn d7 w) A (Zl it) (fun r s₁=>match r with
   |none=>R (.ok .next) s₁
   |some v=>Xq (Xn d7 w) A (Yg e8 it v) (fun O s₁=>Xq (Xn d7 w) A (YE e8 d8 v) (fun O s2 =>
     Xq (Xn d7 w) A (jy w8 d8) (fun ok s3 =>
      if ok=true then Xq (Xn d7 w) A (Yw elt d8) (fun x s4 =>
       Xq (Xn d7 w) A (call (.builtin "list.append") [acc,x]) (fun O s5=>∃m,m<n/\I m s5) (notedBy (Xn d7 w) A d8 fun e s'=>R (.error e) s') s4) (notedBy (Xn d7 w) A d8 fun e s'=>R (.error e) s') s3
      else ∃m,m<n/\I m s3) (notedBy (Xn d7 w) A d8 fun e s'=>R (.error e) s') s2) (notedBy (Xn d7 w) A d8 fun e s'=>R (.error e) s') s₁) (notedBy (Xn d7 w) A d8 fun e s'=>R (.error e) s') s₁) (notedBy (Xn d7 w) A d8 fun e s'=>R (.error e) s') s)
  (n:Nat) (h:I n s) :
  codeAny (Xn d7 w) A (.compLoop (.ListComp elt [⟨e8,iter,w8,0⟩] scope pos) 0 it acc d8) R s:=by
 refine codeAny_loop rfl I (fun n s hI=>?_) n h;show Xq _ A ((compTurn (.ListComp elt [⟨e8,iter,w8,0⟩] scope pos) 0 it acc d8).onRaise (fun x=>do noteFrame x d8;theTreesLotGoes x)) _ _ s;refine wpAny_noted ?_;rw[compTurn_list];refine WL (XB (WL (XU (turn n s hI) (fun r s₁ h1=>?_) fun O O h'=>h')));cases r with
 |none=>exact WN h1
 |some v =>
  refine WL (XU h1 (fun O s1' h1'=>?_) fun O O h'=>h');refine WL (XU h1' (fun O s2 h2=>WL (XU h2 (fun ok s3 M2=>?_) fun O O h'=>h')) fun O O h'=>h');cases ok with
  |false=>exact WN ⟨rfl,M2⟩
  |true =>
   exact WL (WL (XU M2 (fun x s4 h₄=>WL (XU h₄ (fun O s5 h₅=>WN (WN ⟨rfl,h₅⟩)) fun O O h'=>h')) fun O O h'=>h'))
def r9(d7:Xh)(w:Xo)(A:Xg)(B:f9)(l4:Env)(e8 elt:Expr)(w8:List Expr)(N:aa)(J:List (Str×AV)->Prop)(x:AV)(y:Option AV):Prop :=
 ∀loc,J loc->∀led,n7 N led->F1 d7 w A B l4 aJ (YE e8 l4) x ⟨loc,led⟩ fun O u6=>T d7 w A B l4 aH (jy w8 l4) u6 fun b y9 =>
  if b then T d7 w A B l4 Val (Yw elt l4) y9 fun v R7=>y=some v/\R7.led=led/\J R7.loc else y=none/\y9.led=led/\J y9.loc
inductive Q2 (d7:Xh) (w:Xo) (A:Xg) (B:f9) (l4:Env) (e8 elt:Expr) (w8:List Expr) (N:aa) (J:List (Str×AV)->Prop) (k:Nat) (it D:XC) (l0:aa) (Y4:List AV) (o:L7) (s:WS) (Z:f9):Nat->WS->Prop
 |mk {s':WS} {Z':f9} {g9:List (Str×AV)} {gl':aa} {ps:List (AV×Option AV)} {acc:List AV} (ha:acc++ps.filterMap (·.2)=Y4) (hz:acc.length+ps.length<=XK) (hJ:J g9) (S:g8 B l4 s' Z' ⟨g9,((D,.list acc)::l0)++gl'⟩)
  (hI:g5 d7 w B [] k e8 it (ps.map (·.1)) gl') (hs:∀p∈ps,r9 d7 w A B l4 e8 elt w8 N J p.1 p.2) (X:k8 o s Z s' Z' (aw l4 ⟨g9,((D,.list acc)::l0)++gl'⟩)):Q2 d7 w A B l4 e8 elt w8 N J k it D l0 Y4 o s Z ps.length s'
theorem Tr(xs:List α)(y:α)(zs:List α):xs++[y]++zs=xs++y::zs:=Xv ..
theorem Tf{a p m:Nat}(h:a+(p+1)<=m):a+p<=m/\a+1+p<=m/\a<m:=⟨Nat.le_of_succ_le h,XQ (Nat.le_of_eq (Nat.add_right_comm a 1 p)) h,Nat.lt_of_lt_of_le (Nat.lt_succ_of_le (Nat.le_add_right a p)) h⟩
theorem RW{R:Result->WS->Prop}{l4:Env}{elt:Expr}{w8:List Expr}{scope:Scope}{D:XC}{l0 gl:aa}(hA:g7 A k)(hN:n7 N l0)
   {ys:List (Option AV)} (j3:xs.length=ys.length) (hsz:xs.length<=XK)
  (hI:g5 d7 w B [] k e8 it xs gl) (o9:∀p∈xs.zip ys,r9 d7 w A B l4 e8 elt w8 N J p.1 p.2) (hJ:J loc)
  (S:g8 B l4 s Z ⟨loc,((D,.list [])::l0)++gl⟩)
  (hR:∀s' Z' g9,g8 B l4 s' Z' ⟨g9,(D,.list (ys.filterMap id))::l0⟩->k8 (aw l4 ⟨loc,((D,.list [])::l0)++gl⟩) s Z s' Z' (aw l4 ⟨g9,(D,.list (ys.filterMap id))::l0⟩)->R (.ok .next) s') :
  codeAny (Xn d7 w) A (.compLoop (.ListComp elt [⟨e8,iter,w8,0⟩] scope pos) 0 (.ref it) (.ref D) l4) R s:=by
 have e1:(xs.zip ys).map (·.1)=xs:=List.map_fst_zip (Nat.le_of_eq j3);have e2:(xs.zip ys).filterMap (·.2)=ys.filterMap id:=(a7 (f:=fun p:AV×Option AV=>p.2) (g:=id)).symm.trans (congrArg (List.filterMap id) (List.map_snd_zip (Nat.le_of_eq j3.symm)));have e3:(xs.zip ys).length=xs.length:=by rw[List.length_zip,j3,Nat.min_self]
 generalize ys.filterMap id=Y4 at e2 hR;generalize xs.zip ys=ps at e1 e2 e3 o9;subst e1;refine Sd (Q2 d7 w A B l4 e8 elt w8 N J k it D l0 Y4 (aw l4 ⟨loc,((D,.list [])::l0)++gl⟩) s Z) ?_ ps.length (.mk (acc:=[]) e2 (by rw[Xp,Nat.zero_add,e3];exact hsz) hJ S hI o9 .refl);clear hI o9 hJ S hsz e3 e2 j3;intro n s' Y;induction Y with
 | @mk s' Z' g9 gl' ps acc Q7 hsz' W9 S' C1 T2 X' =>
 cases ps with
 |nil=>exact ty C1 hA .nil S' fun s3 Z3 S3 X3=>(show acc=Y4 from(Yi acc).symm.trans Q7)▸hR s3 Z3 g9 (((show acc=Y4 from(Yi acc).symm.trans Q7))▸S3) (((show acc=Y4 from(Yi acc).symm.trans Q7))▸X'.trans X3)
 |cons p ps =>
  have hz:=Tf hsz';refine XU (tx C1 hA .nil S' (Q:=fun r s₁=>match r with
    |none=>False
    |some v=>Xq (Xn d7 w) A (YE e8 l4 v) (fun O s2 =>
     Xq (Xn d7 w) A (jy w8 l4) (fun ok s3 =>
      if ok=true then Xq (Xn d7 w) A (Yw elt l4) (fun m6 s4 =>
       Xq (Xn d7 w) A (call (.builtin "list.append") [.ref D,m6]) (fun O s5=>∃m,m<(p::ps).length/\Q2 d7 w A B l4 e8 elt w8 N J k it D l0 Y4 (aw l4 ⟨loc,((D,.list [])::l0)++gl⟩) s Z m s5) (notedBy (Xn d7 w) A l4 fun e s'=>R (.error e) s') s4) (notedBy (Xn d7 w) A l4 fun e s'=>R (.error e) s') s3
      else ∃m,m<(p::ps).length/\Q2 d7 w A B l4 e8 elt w8 N J k it D l0 Y4 (aw l4 ⟨loc,((D,.list [])::l0)++gl⟩) s Z m s3) (notedBy (Xn d7 w) A l4 fun e s'=>R (.error e) s') s2) (notedBy (Xn d7 w) A l4 fun e s'=>R (.error e) s') s₁)
    fun s3 Z3 v gl3 S3 V3 X3 H6=>?_) (fun r s₁ h1=>?_) fun O O h=>h
  ·refine T2 p (WM ..) g9 W9 _ (fun p hp=>Yc _ (WO _ (hN p hp))) s3 Z3 v V3 S3 _ _ fun O O s4 Z4 y9 k4 S4 O X4=>k4 s4 Z4 S4 _ _ fun b c s5 Z5 R7 k5 S5 V5 X5=>?_;have X6:=((X'.trans X3).trans X4).trans X5;have m8:=fun q hq=>T2 q (WO _ hq);clear X' X3 X4 X5 S3 V3 k4 S4 S' C1 T2 W9 hR;have hb:c=b:=V5;subst hb;clear V5;cases c with
   |false =>
    rw[if_neg XL] at k5 ⊢;obtain⟨y1,led5⟩:=R7;refine cB k5 fun hy e Í=>?_;clear k5;dsimp only at e Í;subst e;exact⟨ps.length,Zv _,.mk ((congrArg (acc ++ ·) (List.filterMap_cons_none hy).symm).trans Q7) hz.1 Í S5 H6 m8 X6⟩
   |true =>
    rw[if_pos rfl] at k5 ⊢;refine k5 s5 Z5 S5 _ _ fun u z s6 Z6 st6 k6 S6 V6 Ü=>?_;have X7:=X6.trans Ü;clear X6 Ü S5 k5;obtain⟨χ,led6⟩:=st6;refine cB k6 fun hy e hJ6=>?_;clear k6;dsimp only at e hJ6;subst e;have hf:FC d7 w A B l4 (.blt "list.append") [.ref D,u] [] ⟨χ,((D,.list acc)::l0)++gl3⟩ fun O e9=>e9=⟨χ,((D,.list (acc++[u]))::l0)++gl3⟩:=zt (xs:=acc) (YO hz.2.2) .here rfl;refine hf s6 Z6 (.builtin "list.append") [.ref D,z] [] (.blt _) (.cons (.ref _) (.cons V6 .nil)) .nil S6 _ _ fun O O s7 Z7 st7 k7 S7 O X₇=>?_;subst k7;exact⟨ps.length,Zv _,.mk (((Tr ..).trans (congrArg (acc ++ ·) (List.filterMap_cons_some hy).symm)).trans Q7) ((WV (as:=acc) (bs:=[u]))▸hz.2.1) hJ6 S7 H6 m8 (X7.trans X₇)⟩
  ·cases r with
   |none=>exact h1.elim
   |some v=>exact h1
end
section
variable{N:aa}
theorem NX(vars:List Str)(y:Str):(vars.map fun x=>(x,AV.any)).lookup y=none∨(vars.map fun x=>(x,AV.any)).lookup y=some .any:=by
 induction vars with
 |nil=>exact .inl rfl
 |cons x vars ih =>
  rw[WY,Xl];cases y==x with
  |true=>exact .inr rfl
  |false=>exact ih
theorem NW{vars:List Str}(h:(vars.map fun x=>(x,AV.any)).lookup y=some v):y∈vars:=by
 induction vars with
 |nil=>cases h
 |cons x vars ih =>
  rw[WY,Xl] at h;cases q:y==x with
  |true=>rw[beq_iff_eq.mp q];exact WM ..
  |false=>rw[q] at h;exact WO _ (ih h)
theorem Ek{RR:Value->XC->Result->WS->Prop}{elt:Expr}{w8:List Expr}{scope:Scope}{cl:List (Str×XC)}{l gl:aa}{vars:List Str}
  (hA:g7 A k) (hN:n7 N l) (o5:∀y∈scope.names,y.2 ≠ .cell) (r0:scope.kind=.function) (hv:∀x∈vars,scope.names.lookup x=some .local)
   {ys:List (Option AV)} (j3:xs.length=ys.length) (hsz:xs.length<=XK)
  (hI:g5 d7 w B [] k e8 it xs gl) (y2:gf d7 w B it gl)
  (o9:∀L,∀p∈xs.zip ys,r9 d7 w A B (compEnvC scope cl L d8) e8 elt w8 N J p.1 p.2) (hJ:J (vars.map fun x=>(x,.any)))
  (S:g8 B d8 s Z ⟨loc,gl++l⟩)
  (hRR:∀D C s' Z' et,f1 B s' Z' ((C,.ns et)::(D,.list (ys.filterMap id))::(d8.locals,.ns loc)::l) ->
   k8 (ah ((d8.locals,.ns loc)::(gl++l))) s Z s' Z' (ah ((C,.ns et)::(D,.list (ys.filterMap id))::(d8.locals,.ns loc)::l))->RR (.ref D) C (.ok .next) s') :
  Xq (Xn d7 w) A (newList []) (fun acc s3=>Xq (Xn d7 w) A (newFunctionEnv scope d8.globals cl [] d8.qual none .none (some d8)) (fun l4 s4 =>
   codeAny (Xn d7 w) A (.compStart (.ListComp elt [⟨e8,iter,w8,0⟩] scope pos) 0 (.ref it) acc {l4 with scope:=relabel scope d8}) (RR acc l4.locals) s4) E s3) E s:=by
 refine XZ ?_;have S0:=S.toL;have P1:=S0.push (o:={ cls:=.type "list",dict:=none,data:=.seq ([]:List Value).toArray}) (ao:=.list []) rfl s.toks ⟨_,_,WW _ rfl,.nil⟩;generalize J8:({s with heap:=s.heap.push {cls:=.type "list",dict:=none,data:=.seq ([]:List Value).toArray},toks:=s.toks}:WS)=s1 at P1;generalize s.heap.objs.size=D at P1 ⊢;refine av P1 fun S1 X1=>?_;clear P1;refine wpAny_newFunctionEnv o5 (by intro y hy;simp at hy) (fun h1 hns1 F9=>?_) r0;have keep:∀b o,s1.heap.get? b=some o->h1.get? b=some o:=fun b o e=>F9.extBut b o (Ys (XT e)) (WX _ e);have P2:=S1.newAt (h':=h1) (ao:=.ns (vars.map fun x=>(x,.any))) rfl (s1.toks+([]:List (Str×Value)).length) keep ⟨_,hns1,fun y=>by
  rcases NX vars y with e |e
  ·rw[e];exact .none
  ·rw[e];exact .any⟩
 generalize r_:({s1 with heap:=h1,toks:=s1.toks+([]:List (Str×Value)).length}:WS)=s2 at P2 ⊢;generalize s1.heap.objs.size=C at P2 ⊢;refine av P2 fun S2 X2=>?_;clear P2;have X9:=X1.trans X2;have hkin:∀x v,(vars.map fun x=>(x,AV.any)).lookup x=some v->(compEnvC scope cl C d8).kindOf x=some .local:=fun x v e=>lookup_relabel_local (hv x (NW e));have pm:((C,i9.ns (vars.map fun x=>(x,.any)))::(D,.list [])::(d8.locals,.ns loc)::(gl++l)).Perm ((C,i9.ns (vars.map fun x=>(x,.any)))::(((D,.list [])::(d8.locals,.ns loc)::l)++gl)) :=
  ZG _ (ZG _ (ZG _ Xd))
 have S3:g8 B (compEnvC scope cl C d8) s2 Z ⟨vars.map fun x=>(x,.any),((D,.list [])::(d8.locals,.ns loc)::l)++gl⟩ :=
  f1.toF (d8:=compEnvC scope cl C d8) (st:=⟨vars.map fun x=>(x,.any),((D,.list [])::(d8.locals,.ns loc)::l)++gl⟩) (S2.perm pm) hkin r0
 have loop:codeAny (Xn d7 w) A (.compLoop (.ListComp elt [⟨e8,iter,w8,0⟩] scope pos) 0 (.ref it) (.ref D) (compEnvC scope cl C d8)) (RR (.ref D) C) s2:=by
  refine RW hA (N:=N) (l0:=(d8.locals,.ns loc)::l) (hN.cons _) j3 hsz hI (o9 C) hJ S3 fun s' Z' g9 S' X'=>?_;refine hRR D C s' Z' g9 S'.toL ?_;rw[dk,dk] at X';refine X9.trans ?_;rw[dM pm];exact X'
 have pm2:((C,i9.ns (vars.map fun x=>(x,.any)))::(D,.list [])::(d8.locals,.ns loc)::(gl++l)).Perm (gl++((C,i9.ns (vars.map fun x=>(x,.any)))::(D,.list [])::(d8.locals,.ns loc)::l)):=by
  refine List.Perm.trans pm ?_;exact Xd (l₁:=(C,i9.ns (vars.map fun x=>(x,.any)))::(D,.list [])::(d8.locals,.ns loc)::l) (l₂:=gl)
 exact codeAny_compStart_list loop (y2 A _ s2 Z (S2.perm pm2) _ _ loop)
def zE(d7:Xh)(w:Xo)(A:Xg)(B:f9)(d8:Env)(k:Nat)(N:aa)(vars:List Str)(scope:Scope)(cl:List (Str×XC))(elt e8:Expr)(w8:List Expr)(J:List (Str×AV)->Prop)(K:List AV->St->Prop)(u:AV)(m5:St):Prop :=
 ∃it gl l xs ys,u=.ref it/\m5.led=gl++l/\g5 d7 w B [] k e8 it xs gl/\gf d7 w B it gl/\n7 N l/\xs.length=ys.length/\xs.length<=XK /\
  (∀L,∀p∈xs.zip ys,r9 d7 w A B (compEnvC scope cl L d8) e8 elt w8 N J p.1 p.2)/\K (ys.filterMap id) ⟨m5.loc,l⟩
theorem pw{elt:Expr}{w8:List Expr}{scope:Scope}{cl:List (Str×XC)}(vars:List Str)
  (hA:g7 A k) (D7:closureFor scope d8=YV cl) (o5:(scope.names.all fun y=>y.2 != .cell)=true) (r0:scope.kind=.function) (M4:(scope.names.all fun x=>x.2 != .local||scope.names.lookup x.1==some .local)=true)
  (hv:(vars.all fun x=>scope.names.lookup x==some .local)=true) (hs:∀x,ZI iter d8 x=YV x) (hJ:J (vars.map fun x=>(x,.any)))
  (h:T d7 w A B d8 Val (Yw iter d8) st fun v j9=>F1 d7 w A B d8 Val pyIter v j9 fun u m5=>zE d7 w A B d8 k N vars scope cl elt e8 w8 J (fun ys u6=>∀D,D∉keys u6.led->K (.ref D) ⟨u6.loc,(D,.list ys)::u6.led⟩) u m5) :
  T d7 w A B d8 Val (Yw (.ListComp elt [⟨e8,iter,w8,0⟩] scope pos) d8) st K:=fun s Z S Q E hQ=>by
 have M9:∀y∈scope.names,y.2 ≠ .cell:=fun y hy=>by simpa using XF.mp o5 y hy
 have H3:∀y∈scope.names,y.2=.local->scope.names.lookup y.1=some .local:=fun y hy e=>by
  have:=XF.mp M4 y hy;simpa[e] using this
 have R9:∀x∈vars,scope.names.lookup x=some .local:=fun x hx=>by simpa using XF.mp hv x hx
 rw[eval_ListComp];refine wpAny_comprehension_free (use:=none) rfl hs D7 r0 H3 (h s Z S _ _ fun v x s₁ Z1 j9 k₁ S1 V1 X1=>k₁ s₁ Z1 x V1 S1 _ _ fun u y s2 Z2 m5 k2 S2 V2 X2=>?_);obtain⟨t8,led2⟩:=m5;refine zA k2 fun it gl l xs ys O6 e hI y2 hN j3 hsz o9 hK=>?_;clear k2;subst O6;dsimp only at e hK;subst e
 (have e_:=V2.inv;subst e_)
 refine Ek (RR:=fun acc C=>compPost (Xn d7 w) A E none Q acc C) hA hN M9 r0 R9 j3 hsz hI y2 o9 hJ S2 fun D C s' Z' et S' X'=>?_;refine ad (S'.own _ (WM ..)) fun m hn O=>?_;refine bb m hn (fun h' C5=>?_);refine av (S'.lose C5) fun S3 X3=>?_;have S4:=S3.perm (l':=(d8.locals,.ns t8)::(D,.list (ys.filterMap id))::l) (YW ..);have SF:g8 B d8 {s' with heap:=h' } Z' ⟨t8,(D,.list (ys.filterMap id))::l⟩:=f1.toF (st:=⟨t8,(D,.list (ys.filterMap id))::l⟩) S4 S2.kinds S2.fn;refine hQ (.ref D) (.ref D) _ Z' _ (hK D (Xj.mp SF.nodup).1) SF (.ref _) ((X1.trans X2).trans ?_);rw[dk,dk];refine(X'.trans X3).trans ?_;rw[dM (l:=(D,.list (ys.filterMap id))::(d8.locals,.ns t8)::l) (l':=(d8.locals,.ns t8)::(D,.list (ys.filterMap id))::l) (YW ..)];exact .refl
theorem EX{px υ:Pos}{elt:Expr}{w8:List Expr}{scope:Scope}{cl:List (Str×XC)}{K:g6->St->Prop}(vars:List Str)
  (hsw:swapsWith (.ListComp elt [⟨e8,iter,w8,0⟩] scope pos) (some (.Name x px)) υ.line d8=YV true)
  (hA:g7 A k) (D7:closureFor scope d8=YV cl) (o5:(scope.names.all fun y=>y.2 != .cell)=true) (r0:scope.kind=.function) (M4:(scope.names.all fun x=>x.2 != .local||scope.names.lookup x.1==some .local)=true)
  (hv:(vars.all fun x=>scope.names.lookup x==some .local)=true) (hs:∀x,ZI iter d8 x=YV x) (hJ:J (vars.map fun x=>(x,.any)))
  (h:T d7 w A B d8 Val (Yw iter d8) st fun v j9=>F1 d7 w A B d8 Val pyIter v j9 fun u m5=>zE d7 w A B d8 k N vars scope cl elt e8 w8 J (fun ys u6=>∀D,D∉keys u6.led->F1 d7 w A B d8 aJ (b0 d8 x) (.ref D) ⟨u6.loc,(D,.list ys)::u6.led⟩ fun O y9=>K .next y9) u m5) :
  T d7 w A B d8 j5 (exec (.Assign [.Name x px] (.ListComp elt [⟨e8,iter,w8,0⟩] scope pos) υ) d8) st K:=fun s Z S Q E hQ=>by
 have M9:∀y∈scope.names,y.2 ≠ .cell:=fun y hy=>by simpa using XF.mp o5 y hy
 have H3:∀y∈scope.names,y.2=.local->scope.names.lookup y.1=some .local:=fun y hy e=>by
  have:=XF.mp M4 y hy;simpa[e] using this
 have R9:∀x∈vars,scope.names.lookup x=some .local:=fun x hx=>by simpa using XF.mp hv x hx
 rw[exec_Assign_Name_used _ _ _ _ hsw];refine WL (XB (WL ?_));show Xq _ A (do let _ ← comprehension (.ListComp elt [⟨e8,iter,w8,0⟩] scope pos) scope d8 _ (newList []) false (Yw iter d8) (some (YE (.Name x px) d8))) _ _ s;refine WL (XU (wpAny_comprehension_free (use:=some (YE (.Name x px) d8)) (Q:=fun O s'=>Q .next s') rfl hs D7 r0 H3
  (h s Z S _ _ fun v x s₁ Z1 j9 k₁ S1 V1 X1=>k₁ s₁ Z1 x V1 S1 _ _ fun u y s2 Z2 m5 k2 S2 V2 X2=>?_)) (fun O s' hq=>WN (WN hq)) fun O O e=>e)
 obtain⟨t8,led2⟩:=m5;refine zA k2 fun it gl l xs ys O6 e hI y2 hN j3 hsz o9 hK=>?_;clear k2;subst O6;dsimp only at e hK;subst e
 (have e_:=V2.inv;subst e_)
 refine Ek (RR:=fun acc C=>compPost (Xn d7 w) A E (some (YE (.Name _ px) d8)) (fun O s'=>Q .next s') acc C) hA hN M9 r0 R9 j3 hsz hI y2 o9 hJ S2 fun D C s' Z' et S' X'=>?_;have S3:=S'.drop1;have S4:=S3.perm (l':=(d8.locals,.ns t8)::(D,.list (ys.filterMap id))::l) (YW ..);have SF:g8 B d8 s' Z' ⟨t8,(D,.list (ys.filterMap id))::l⟩:=f1.toF (st:=⟨t8,(D,.list (ys.filterMap id))::l⟩) S4 S2.kinds S2.fn;refine ad (S'.own _ (WM ..)) fun m hn O=>?_;dsimp only at hn;have hC:C∉keys ((D,.list (ys.filterMap id))::(d8.locals,.ns t8)::l):=(Xj.mp S'.nodup).1;have hCZ:Z' C=none:=S'.apart _ (WM ..);have U7 : ¬ (aw d8 ⟨t8,(D,.list (ys.filterMap id))::l⟩).at_ C:=by
  rintro (q |q)
  ·exact hC (q▸WO _ (WM ..))
  ·rcases WT.mp q with q |q
   ·exact hC (q▸WM ..)
   ·exact hC (WO _ (WO _ q))
 have Xf:k8 (aw d8 st) s Z s' Z' (ah ((C,.ns et)::(D,.list (ys.filterMap id))::(d8.locals,.ns t8)::l)):=by
  have:=X1.trans X2;rw[dk (d8:=d8) ⟨t8,gl++l⟩] at this;exact this.trans X'
 have hCs:(aw d8 st).at_ C∨s.heap.get? C=none:=Xf.grow C (WM ..);have Xa:k8 (aw d8 st) s Z s' Z' (aw d8 ⟨t8,(D,.list (ys.filterMap id))::l⟩):=by
  refine(X1.trans X2).trans ?_;rw[dk,dk];refine X'.less (fun a ha=>?_) fun g hg=>?_
  ·rcases WT.mp ha with q |ha
   ·exact q▸WO _ (WO _ (WM ..))
   ·rcases WT.mp ha with q |ha
    ·exact q▸WO _ (WM ..)
    ·exact WO _ (WO _ (WO _ ha))
  ·exact hg
 show Xq _ A (YE (.Name _ px) d8 (.ref D)) _ _ _;refine wpAny_assign_Name (hK D (Xj.mp SF.nodup).1 s' Z' (.ref D) (.ref _) SF _ _ fun O O s4 Z4 y9 k4 C7 O X4=>?_);refine jq (id hn) fun oc oes oep I7 Λ=>?_;have hoc':=X4.kept _ _ I7 U7;refine bb m ⟨oc,oes,oep,hoc',Λ⟩ (fun h' C5=>?_);have t0:∀a,(aw d8 y9).at_ a->a≠C:=fun a ha q=>by
  subst q;rcases X4.grow a ha with q |q
  ·exact U7 q
  ·rw[I7] at q;cases q
 have hZC:Z4 C=none:=by
  cases e:Z4 C with
  |none=>rfl
  |some o =>
   rcases X4.zgrow C o e with q |q |q
   ·rw[hCZ] at q;cases q
   ·exact(U7 q).elim
   ·rw[I7] at q;cases q
 have keep:∀b o,b≠C->s4.heap.get? b=some o->h'.get? b=some o:=fun b o hb e=>C5.extBut b o hb e;refine hQ _ _ _ Z4 y9 k4 ⟨⟨C7.base,fun a o e=>keep a o (fun q=>by rw[q,hZC] at e;cases e) (C7.frozen a o e),C7.nodup,C7.apart,fun p hp=>(C7.own p hp).mono (.refl _) (fun o e=>keep _ o (t0 _ (.inr (Xm hp))) e) (fun O O O e=>e),C7.gnodup,C7.bare⟩,
  C7.locZ,C7.locL,z5.mono (.refl _) (fun o e=>keep _ o (t0 _ (.inl rfl)) e) C7.loc,C7.kinds,C7.fn⟩ .next ?_
 have Xb:=Xa.trans X4;refine⟨Xb.le,fun a o e h=>keep a o (fun q=>?_) (Xb.kept a o e h),Xb.grow,Xb.zgrow,Xb.os,Xb.gkept,Xb.ggrow⟩;subst q;rcases hCs with q |q
 ·exact h q
 ·rw[q] at e;cases e
end
noncomputable def eI(b:Array UInt8):List AV:=b.toList.map fun c => .int (c.toNat:Int)
noncomputable def dg(x:Str):List AV:=x.cps.toList.map fun c => .str ⟨#[c]⟩
section
variable{N:aa}
theorem tA{fp:List XC}{Pv:Nat->Value->Prop}{St:Nat->Heap->Prop}(y2:∀(A:Xg) (s:WS) (Q:Value->WS->Prop) E,St i s.heap->Q (.ref it) s->Xq (Xn d7 w) A (pyIter (.ref it)) Q E s) :
  gf d7 w B it [(it,dy it fp Pv xs St i)]:=fun A led s Z S Q E hq=>by
 refine gR (S.own _ (WM ..)) fun o ho O O h3=>?_;exact y2 A s Q E (h3 _ ho S.frozen) hq
theorem Wu{b:Array UInt8}{px:Pos}
  (h:∀it gl,(∀B' N,g5 d7 w B' N k (.Name x px) it (eI b) gl)->(∀B',gf d7 w B' it gl)->K (.ref it) ⟨st.loc,gl++st.led⟩):F1 d7 w A B d8 Val pyIter (.bytes b) st K:=fun s Z x V S Q E hQ=>by
 refine ak (Pe V) fun t qv=>?_;subst qv;refine KBw.pyIter_bytes ?_;have j3:(eI b).length=b.size:=by unfold eI;simp
 have P:=S.tof1.push (o:={ cls:=.type "bytes_iterator",data:=.fields #[.bytes b t,.int 0 0]})
  (ao:=dy s.heap.objs.size [s.heap.objs.size] (fun i v=>∃c u,b[i]?=some c/\v=.int (c.toNat:Int) u) (eI b) (fun i h=>KBw.IsBytesIter h s.heap.objs.size b t i) 0) rfl s.toks
  ⟨_,WW _ rfl,fun c hc => .inl (by simpa using hc),fun i y v h1 h2=>by
   refine bt h2 fun c u hc O4=>?_;clear h2;subst O4;unfold eI at h1;rw[XM,Zk,hc] at h1;simp only[c7,YC] at h1;subst h1;exact .int _ _,fun h e1 e2=>⟨_,e1,rfl,rfl⟩⟩
 refine hQ _ _ _ Z _ (h s.heap.objs.size _ (fun B' N=>g5.walks (d7:=d7) (w:=w) (B:=B') (xs:=eI b) (fun A hA=>by exact(Eq.symm (j3))▸KBw.walks hA s.heap.objs.size b t) (fun A i s v Q E m8 hq=>WN hq) (fun i h m8=>by refine ad m8 fun o ho O=>?_;clear m8;exact⟨o,ho⟩) k (eI b).length 0 ⋯) fun B'=>tA fun A s Q E m8 hq=>KBw.pyIter_self m8 hq) (S.after P.1 P.2) (.ref _) P.2.toF
theorem Wo{px:Pos}
  (h:∀it gl,(∀B' N,g5 d7 w B' N k (.Name x px) it (dg y) gl)->(∀B',gf d7 w B' it gl)->K (.ref it) ⟨st.loc,gl++st.led⟩):F1 d7 w A B d8 Val pyIter (.str y) st K:=fun s Z x V S Q E hQ=>by
 refine ak (Pd V) fun t qv=>?_;subst qv;have j3:(dg y).length=y.cps.size:=by unfold dg;simp
 have Ζ:∀ {Z:f9} (i:Nat) (z:AV) (v:Value),(dg y)[i]?=some z->SignAt y i v->Val Z z v:=fun i z v h1 h2=>by
  refine bt h2 fun c u hc O4=>?_;clear h2;subst O4;unfold dg at h1;rw[XM,Zk,hc] at h1;simp only[c7,YC] at h1;subst h1;exact .str _ _
 cases ha:y.cps.all (· < 128)
 ·refine wpAny_pyIter_wide ha ?_;have P:=S.tof1.push (o:={ cls:=.type "str_iterator",data:=.fields #[.str y t,.int 0 0]})
   (ao:=dy s.heap.objs.size [s.heap.objs.size] (SignAt y) (dg y) (fun i h=>h.IsStrIter s.heap.objs.size "str_iterator" y t i) 0) rfl s.toks
   ⟨_,WW _ rfl,fun c hc => .inl (by simpa using hc),Ζ,fun h e1 e2=>⟨_,e1,rfl,rfl⟩⟩
  exact hQ _ _ _ Z _ (h s.heap.objs.size _ (fun B' N=>g5.walks (d7:=d7) (w:=w) (B:=B') (xs:=dg y) (fun A hA=>by exact(Eq.symm (j3))▸Walks.strWide hA s.heap.objs.size y t) (fun A i s v Q E m8 hq=>WN hq) (fun i h m8=>by refine ad m8 fun o ho O=>?_;clear m8;exact⟨o,ho⟩) k (dg y).length 0 ⋯) fun B'=>tA fun A s Q E m8 hq=>wpAny_pyIter_striter_wide m8 hq) (S.after P.1 P.2) (.ref _) P.2.toF
 ·refine wpAny_pyIter_ascii ha ?_;have P:=S.tof1.push (o:={ cls:=.type "str_ascii_iterator",data:=.fields #[.str y t,.int 0 0]})
   (ao:=dy s.heap.objs.size [s.heap.objs.size] (SignAt y) (dg y) (fun i h=>h.IsStrIter s.heap.objs.size "str_ascii_iterator" y t i) 0) rfl s.toks
   ⟨_,WW _ rfl,fun c hc => .inl (by simpa using hc),Ζ,fun h e1 e2=>⟨_,e1,rfl,rfl⟩⟩
  exact hQ _ _ _ Z _ (h s.heap.objs.size _ (fun B' N=>g5.walks (d7:=d7) (w:=w) (B:=B') (xs:=dg y) (fun A hA=>by exact(Eq.symm (j3))▸Walks.strAscii hA s.heap.objs.size y t) (fun A i s v Q E m8 hq=>WN hq) (fun i h m8=>by refine ad m8 fun o ho O=>?_;clear m8;exact⟨o,ho⟩) k (dg y).length 0 ⋯) fun B'=>tA fun A s Q E m8 hq=>wpAny_pyIter_striter_ascii m8 hq) (S.after P.1 P.2) (.ref _) P.2.toF
theorem Wq{a b:Int}(ha : -(2^62)<=a)(ha':a<2^62)(hb : -(2^62)<=b)(ο:b<2^62)
  (h:∀it gl,(∀e8 B' N,g5 d7 w B' N k e8 it (cD a b) gl)->(∀B',gf d7 w B' it gl)->R (.ref it) ⟨st.loc,gl++st.led⟩):F1 d7 w A B d8 Val pyIter (.rng a b) st R:=fun s Z x V S Q E hQ=>by
 refine FY (Dk V) fun r t u v qv e=>?_;subst qv;refine wpAny_pyIter_range (S.frozen _ _ e) (small_one ha ha' hb ο) ?_;have j3:(cD a b).length=(b-a).toNat:=by unfold cD;rw[WP,List.length_range]
 have hsz:Builtin.Range.rangeSize a b 1=((b-a).toNat:Int):=by
  rw[rangeSize_one];split <;> omega
 rw[hsz];have P:=S.tof1.push (o:={ cls:=.type "range_iterator",data:=.fields #[Yu a,Yu ((b-a).toNat:Int),Yu 1]})
  (ao:=dy s.heap.objs.size [s.heap.objs.size] (fun i v=>∃t,v=.int (a+i * 1) t) (cD a b) (fun i h=>IsRangeIter h s.heap.objs.size (a+(i:Nat) * 1) (((b-a).toNat:Int)-(i:Nat)) 1) 0) rfl s.toks
  ⟨_,WW _ rfl,fun c hc => .inl (by simpa using hc),fun i y v h1 h2=>by
   refine ak h2 fun t O2=>?_;clear h2;subst O2;unfold cD at h1;rw[XM] at h1;refine ad (Yt.mp h1) fun j hj O3=>?_;subst O3;have L5:j=i:=by
    refine ak (ZF.mp hj) fun h1 h2=>?_;rw[← h2,List.getElem_range]
   rw[L5,Int.mul_one];exact .int _ _,fun h e1 e2=>by
   show h.get? s.heap.objs.size=_;rw[e1];simp⟩
 exact hQ _ _ _ Z _ (h s.heap.objs.size _ (fun e8 B' N=>g5.walks (d7:=d7) (w:=w) (B:=B') (e8:=e8) (xs:=cD a b) (fp:=[s.heap.objs.size]) (Pv:=fun i v=>∃t,v=.int (a+i * 1) t) (St:=fun i h=>IsRangeIter h s.heap.objs.size (a+(i:Nat) * 1) (((b-a).toNat:Int)-(i:Nat)) 1) (fun A hA=>by exact(Eq.symm (j3))▸Walks.range hA s.heap.objs.size a 1 (b-a).toNat) (fun A i s v Q E m8 hq=>CL m8 hq) (fun i h m8=>⟨_,m8⟩) k (cD a b).length 0 ⋯) fun B'=>tA fun A s Q E m8 hq=>wpAny_pyIter_rangeiter m8 hq) (S.after P.1 P.2) (.ref _) P.2.toF
end
def yH(v:AV)(Z:f9)(o:Obj):Prop:=∃x,o.data=.cell (some x)/\Val Z v x
theorem Su(Z Z':f9)(o:Obj)(k:f9.le Z Z')(x:yH v Z o):yH v Z' o:=x.imp fun O h=>⟨h.1,h.2.mono k⟩
noncomputable abbrev jl(v:AV):i9:=.obj (yH v) Su
def Sv(Z:f9)(o:Obj):Prop:=∃x,o.data=.cell x
noncomputable abbrev pu:i9:=.obj Sv (fun O O O O x=>x)
section
variable{N:aa}
theorem Fd{c:XC}(hk:d8.kindOf x=some .cell)(hc:d8.cells.lookup x=some c)(hm:(c,jl v)∈st.led)(hd:(x==("__debug__" : Str))=false)(h:K v st) :
  T d7 w A B d8 Val (Yw (.Name x pos) d8) st K:=fun s Z S Q E hQ=>by
 obtain⟨o,ho,y,hy,V⟩:=S.own _ hm;exact wpAny_Name (wpAny_loadName_cell S.fn hk hc ⟨o,ho,hy⟩ (hQ _ _ s Z st h S V .refl)) hd
theorem FR{c:XC}{e0:i9}{led led':aa}{K:Unit->St->Prop}(hk:d8.kindOf x=some .cell)(hc:d8.cells.lookup x=some c)(h0:∀Z s,Holds Z s c e0->∃u,s.heap.IsCell c u)(g0:e0.gnum=none)
  (U:Upd c e0 (jl v) led led') (h:K () ⟨loc,led'⟩):F1 d7 w A B d8 aJ (b0 d8 x) v ⟨loc,led⟩ K:=fun s Z u V S Q E hQ=>by
 refine ak (h0 _ _ (S.own _ U.mem)) fun u0 hu=>?_;refine wpAny_storeName_cell S.fn hk hc hu fun h' R5 C5=>?_;refine ad R5 fun o' W6 U2=>?_;clear R5;have P:=S.tof1.upd U (h':=h') (tk:=s.toks) (fun b ob hb e=>C5.extBut b ob hb e) g0 rfl ⟨o',W6,u,U2,V⟩;exact hQ () () _ Z _ h (S.after P.1 P.2) trivial P.2.toF
theorem EB(Z:f9)(s:WS)(c:XC)(h:Holds Z s c pu):∃u,s.heap.IsCell c u:=by
 obtain⟨o,ho,x,hx⟩:=h;exact dF x o ho hx
theorem Ut{f:XC}{fd:a8}{led:aa}{K:AV->aa->Prop}{c:XC}{oc:Obj}{vs:Array Value}{tq:Tok}
  (hG:m3 B) (ho:B f=some o) (hd:o.data=.func fd) (C6:fd.scope.isCoroutine=false) (M6:fd.scope.isGenerator=false) (hk:fd.scope.kind=.function) (y5:fd.body=.stmts body)
  (hcs:∀n,cellsFrom n fd.scope.names []=[(x,n)]) (hclo:fd.closure=[])
  (hc:fd.code=.ref c) (I7:B c=some oc) (A5:oc.data=.fields vs) (hq:vs[1]?=some (.str fd.qualname tq)) (n9:A.depth<YU)
  (hb:Binds d7 w A.in1 B fd args kw binds) (u8:∀x∈binds.map (·.1),fd.scope.names.lookup x=some .local)
  (h:∀L C,L∉keys led->C∉keys led->T d7 w (A.deeper (cy fd.scope L fd.globals [(x,C)] fd.qualname f fd.code fd.builtins)) B (cy fd.scope L fd.globals [(x,C)] fd.qualname f fd.code fd.builtins) j5
   (execs body (cy fd.scope L fd.globals [(x,C)] fd.qualname f fd.code fd.builtins)) ⟨binds.reverse,(C,pu)::led⟩ (hM K)) :
  TC d7 w A B (.ref f) args kw led K:=fun s Z fx xs ks S hf hx H5 R hR=>by
 (have e_:=hf.inv;subst e_)
 refine codeAny_call_function n9 (S.frozen _ _ (S.base _ _ ho)) hd C6 M6 y5 ⟨c,oc,vs,tq,hc,S.frozen _ _ (S.base _ _ I7),A5,hq⟩ ?_;refine hb s Z led xs ks S hx H5 _ _ fun bs s₁ Z1 S1 G1 X1=>?_;have hR:=hR.after X1;clear X1 S;revert s₁ Z1;intro s Z S G1 hR;have u_:∀x∈bs,fd.scope.names.lookup x.1=some .local:=fun x hx=>u8 x.1 (by rw[← G1.keys];exact Xm hx);rw[hclo];refine wpAny_newFunctionEnv_cells hk (fun y hy => .inl (u_ y hy)) fun env' he s' O_=>?_;rw[hcs] at he;have hin':=O_;rw[he] at O_;obtain⟨⟨⟨h1,tk1,rfl⟩,C9,keep,J0⟩,o5,U',f_⟩:=O_;dsimp only[newEnv] at C9 keep o5 U' f_ J0;have H7:s.heap.get? s.heap.objs.size=none:=fk s;have w5:s.heap.get? (s.heap.objs.size+1)=none:=Heap.get?_none_of_le (Nat.le_succ _);have hL:s.heap.objs.size∉keys led:=S.lfresh;have hC:s.heap.objs.size+1∉keys led:=S.lfree w5;have L6:bindL (Env.kindOf (newEnv fd.scope s.heap.objs.size fd.globals [(x,s.heap.objs.size+1)] fd.qualname (some f) fd.code none fd.builtins)) bs (fun O=>none)=fun y=>bs.reverse.lookup y:=by
  have gen:∀(l:List (Str×Value)) (m:Str->Option Value),(∀p∈l,fd.scope.names.lookup p.1=some .local) ->
    bindL (Env.kindOf (newEnv fd.scope s.heap.objs.size fd.globals [(x,s.heap.objs.size+1)] fd.qualname (some f) fd.code none fd.builtins)) l m=fun y=>(l.reverse.lookup y).or (m y):=by
   intro l;induction l with
   |nil=>intro m _;funext y;simp[bindL]
   |cons p l ih =>
    intro m hm;obtain⟨n,v⟩:=p;have hn:Env.kindOf (newEnv fd.scope s.heap.objs.size fd.globals [(x,s.heap.objs.size+1)] fd.qualname (some f) fd.code none fd.builtins) n=some .local:=hm (n,v) (WM ..);rw[bindL,if_pos hn,ih _ fun q hq=>hm q (WO _ hq)];funext y
    rw[Xw];have la:∀(l1 l2:List (Str×Value)),(l1++l2).lookup y=(l1.lookup y).or (l2.lookup y):=by
     intro l1;induction l1 with
     |nil=>intro l2;simp
     |cons q l1 ih1 =>
      intro l2;rw[WZ,Xl,Xl];cases y==q.1 with
      |true=>rfl
      |false=>exact ih1 l2
    rw[la];by_cases e:y=n
    ·subst e;simp[Xl]
    ·have:(y==n)=false:=beq_eq_false_iff_ne.mpr e;simp[Xl,this,e]
  rw[gen bs _ u_];funext y
  simp
 have C9:h1.Ns s.heap.objs.size (fun y=>bs.reverse.lookup y):=by rw[← L6];exact C9
 refine ad (o5 x (s.heap.objs.size+1) (by rw[Xl,beq_self_eq_true])) fun ocl hocl Ν=>?_;subst he;refine⟨hG.lim _ fun a o e=>keep a o (S.frozen a o (S.base a o e)),?_⟩;show codeAny _ A (.func body (cy fd.scope s.heap.objs.size fd.globals [(x,s.heap.objs.size+1)] fd.qualname f fd.code fd.builtins)) R _;refine codeAny_func ?_;exact h _ _ hL hC _ Z (g8.enter (f1.cons (S.keep (s₁:={ s with heap:=h1,toks:=tk1}) keep (fun O O e=>e) S.bare) hC (S.zfree w5) ⟨ocl,hocl,_,Ν⟩ S.gnodup) S.zfresh (fun q=>(WT.mp q).elim (Ys (Zv _)) hL) C9 G1 u8 hk) _ _
  (CO hR keep (fun a q=>q.elim (fun e => .inr (e▸H7)) fun q=>(WT.mp q).elim (fun e => .inr (e▸w5)) .inl) rfl (fun O O h=>h) fun O h=>⟨h,h,h⟩)
end
section
open PySem PySem.W PySem.SeqAt
section
variable{N:aa}
theorem pI{a:Int}(h:K (.int a.natAbs) st):FC d7 w A B d8 (.blt "abs") [.int a] [] st K:=FC.b fun s Z S Q E hQ=>Vals.un <| Val.eInt fun O=>Vals.un0 <| by
 refine PyProof.Rows.call_abs_int fun u tk=>?_;have e:(if a<0 then -a else a)=(a.natAbs:Int):=if h:a<0 then (if_pos h).trans (Int.ofNat_natAbs_of_nonpos (Int.le_of_lt h)).symm else (if_neg h).trans (Int.natAbs_of_nonneg (Int.not_lt.mp h)).symm
 rw[e];exact hQ _ _ _ Z st h (S.toks _) (.int _ _) (.toks _)
theorem FE(hn:n<=0x10FFFF)(h:K (.str ⟨#[n]⟩) st):FC d7 w A B d8 (.blt "chr") [.int n] [] st K:=FC.b fun s Z S Q E hQ=>Vals.un <| Val.eInt fun O=>Vals.un0 <| by
 refine P.chr_of_int (by simp only[Bool.or_eq_false_iff,decide_eq_false_iff_not];omega) ?_;exact hQ _ _ _ Z st h (S.toks _) (.str _ _) (.toks _)
theorem zj{c:Nat}(h:K (.int c) st):FC d7 w A B d8 (.blt "ord") [.str ⟨#[c]⟩] [] st K:=FC.b fun s Z S Q E hQ=>Vals.un <| Val.eStr fun O=>Vals.un0 <| P.ord_of_char (hQ _ _ _ Z st h (S.toks _) (.int _ _) (.toks _))
theorem VQ{a n:Int}(hn:0<=n)(s_:n<=1000000)(ha:a.natAbs<2^64)(h:K (.int (a^n.toNat)) st):F2 d7 w A B d8 Val (binaryOp .Pow) (.int a) (.int n) st K:=F2.of fun s Z S Q E hQ=>Val.eInt fun O=>Val.eInt fun O=>PyProof.Rows.pow_int_small hn s_ ha (hQ _ _ _ Z st h (S.toks _) (.int _ _) (.toks _))
theorem GR(ns:List Int):∀vs:List Value,Vals Z (ns.map .int) vs->PyProof.Rows.IntsAre vs ns:=by
 induction ns with
 |nil=>exact Vals.un0 .nil
 |cons n ns ih=>exact Vals.un (Val.eInt fun t ys h => .cons _ _ (ih ys h))
theorem FH{ns:List Int}(hA:A.handled=none)(hl:j7 st.led v (ns.map .int))(hr:∀n∈ns,0<=n/\n<256)(hz:ns.length<=XK)(h:K (.bytes (byteArr ns)) st) :
  FC d7 w A B d8 (.typ "bytes") [v] [] st K:=FC.t fun s Z S Q E hQ=>Vals.un <| fun O h1=>Vals.un0 <| by
 refine bC (hl.get h1 S.tof1) fun a items n O4 n5 hv=>?_;subst O4;refine call_bytes_ints (l:=a) (vs:=items.toList) (ns:=ns) ⟨_,n5,rfl,n,rfl⟩ (GR _ _ hv) hr (by rw[hv.length,WP];exact hz) hA fun h' t k hk=>?_;have P:=S.tof1.grow (h':=h') (tk:=k) hk;exact hQ _ _ _ Z st h (S.after P.1 P.2) (.bytes _ _) P.2.toF
theorem GP(ns:List Str):∀vs:List Value,Vals Z (ns.map .str) vs->∃l:List (Str×Tok),strValues l=vs/\l.map (·.1)=ns:=by
 induction ns with
 |nil=>exact Vals.un0 ⟨[],rfl,rfl⟩
 |cons n ns ih=>exact Vals.un (Val.eStr fun t ys h=>ad (ih ys h) fun l e1 e2=>bb ((n,t)::l) (e1▸rfl) (e2▸rfl))
theorem Vt{ts:List Str}(hl:j7 st.led v (ts.map .str))(I6:JoinOk x ts=true)(h:K (.str (Txt.join x ts)) st) :
  FC d7 w A B d8 (.blt "str.join") [.str x,v] [] st K:=FC.b fun s Z S Q E hQ=>Vals.un <| Val.eStr fun O=>Vals.un <| fun O h2=>Vals.un0 <| by
 refine bC (hl.get h2 S.tof1) fun a items n O4 n5 hv=>?_;subst O4;refine ad (GP _ _ hv) fun l e1 e2=>?_;refine SC.join (D:=a) (l:=l) (texts:=ts) ⟨_,n5,rfl,n,by rw[e1]⟩ e2 I6 fun t' k=>?_;exact hQ _ _ _ Z st h (S.toks _) (.str _ _) (.toks _)
theorem Vals.rep(h:Vals Z xs vs):∀k,Vals Z (Zr k xs).flatten (Zr k vs).flatten
 |0 => .nil
 |k+1=>by
  rw[List.replicate_succ,List.flatten_cons,List.replicate_succ,List.flatten_cons];exact h.append (Vals.rep h k)
theorem VW{x:Int}(hl:j7 st.led v xs)(h0:0<=x)(h1:x<2^20)(hsz:xs.length * x.toNat<=2^24)
  (h:∀a,a∉keys st.led->K (.ref a) ⟨st.loc,(a,.list (Zr x.toNat xs).flatten)::st.led⟩):F2 d7 w A B d8 Val (binaryOp .Mult) v (.int x) st K:=F2.of fun s Z S Q E hQ=>fun m6 V1=>Val.eInt fun u=>by
 refine bC (hl.get V1 S.tof1) fun a items n O4 n5 hv=>?_;subst O4;have j3:items.size=xs.length:=by simpa using hv.length
 refine wpAny_binaryOp_repeat_ref (T := "list") (U := "int") (by decide) ⟨_,n5,rfl⟩ (fun s'=>typeIs_int s' x u) noFill_list_mul F.fills_int_mul F.slot_int_rmul repeat_list F.slot_int_index.lookup
  (call_meets F.slot_int_rmul (typeIs_int s x u) F.entry_int_rmul (F.args_int_rmul_2 _ _) (lm_int_rmul_list_any x u a items n none #[])
   ⟨n5,rfl,⟨_,n5,rfl⟩,call_meets F.slot_list_mul ⟨_,n5,rfl⟩ F.entry_list_mul (F.args_list_mul_2 _ _)
    (lm_list_mul_any a items n none #[] x u (by simp[Builtin.List.listFitsIndex];omega) (by rw[j3];omega) (by rw[j3];simp[Builtin.List.listTooLong,XK];omega))
    ⟨n5,?_⟩⟩)
 have P:=S.tof1.push (o:={ cls:=.type "list",data:=.seq (List.foldl (fun x1 x2=>x1++x2) #[] (Zr (if items.isEmpty=true then 0 else x.toNat) items))}) (ao:=.list (Zr x.toNat xs).flatten) rfl s.toks
  ⟨_,_,WW _ rfl,by rw[PyProof.Rows.listMul_foldl_if];exact hv.rep _⟩
 exact hQ _ _ _ _ _ (h _ S.tof1.lfresh) (S.after P.1 P.2) (.ref _) P.2.toF
theorem FD{led':aa}(hl:j7 st.led v ys)(hsz:xs.length+ys.length<=2^20)(U:Upd a (.list xs) (.list (xs++ys)) st.led led')(h:K .none ⟨st.loc,led'⟩) :
  FC d7 w A B d8 (.blt "list.extend") [.ref a,v] [] st K:=fun s Z fx zs ks hf hx hk S Q E hQ=>by
 cases hf
 cases hk
 cases hx with
 |cons h1 hx =>
  cases hx with
  |cons h2 hx =>
   (have e_:=hx.inv;subst e_)
   (have e_:=h1.inv;subst e_)
   refine bC (hl.get h2 S.tof1) fun b items2 n2 O4 À W5=>?_;subst O4;refine bt (S.own _ U.mem) fun items n g vs=>?_;dsimp only at g;have j3:items.size=xs.length:=vs.size;have Υ:items2.size=ys.length:=by simpa using W5.length
   have hs:(2:Nat)^20<=XK:=by decide
   refine call_meets F.slot_list_extend (⟨_,g,rfl⟩) F.entry_list_extend (F.args_list_extend_2 _ _) (PySem.AutoSeq1.list_extend_list_list_0 a items n b items2 n2 (by simp[Builtin.List.listTooLong,j3,Υ];intro _;omega) ⋯ ⋯) ⟨g,À,?_⟩;have B0:∃n',(s.heap.update a (XS fun x=>x++items2)).get? a=some {cls:=.type "list",data:=.seq (items++items2) n' }:=⟨_,XH (XS fun x=>x++items2) g rfl⟩;refine ak B0 ?_;clear B0;intro n' B0;have P:=S.tof1.upd U (h':=s.heap.update a (XS fun x=>x++items2)) (tk:=s.toks) (fun b ob hb e=>(XE ..).extBut b ob hb e) rfl rfl ⟨_,n',B0,by simpa using vs.append W5⟩;exact hQ _ _ _ Z _ h (S.after P.1 P.2) .none P.2.toF
def mq[DecidableEq β](f:β->AV):Prop:=∀(Z:f9) (x y:β) (u v:Value),Val Z (f x) u->Val Z (f y) v->∀(A:Xg) (s:WS),EqAt A s u v (decide (x=y))
theorem Rj:mq AV.int:=fun Z x y u v h1 h2 A s=>by
 refine ak h1.inv fun t e=>?_;subst e;refine ak h2.inv fun l_ e=>?_;subst e
 have:=EqAt.int_int (A:=A) (s:=s) x t y l_;rwa [show (x==y)=decide (x=y) from by rw[ZK,beq_iff_eq,decide_eq_true_eq]] at this
theorem tN:mq AV.bytes:=fun Z x y u v h1 h2 A s=>by
 refine ak h1.inv fun t e=>?_;subst e;refine ak h2.inv fun l_ e=>?_;subst e;have e:(x.toList==y.toList)=decide (x=y):=by rw[ZK,beq_iff_eq,decide_eq_true_eq];exact Array.toList_inj
 intro d7 w E Q h;unfold eqBool;refine Xc ?_;refine wpAny_ite_split (fun f_=>?_) (fun O=>?_)
 ·have:x=y:=by have:=eq_of_beq f_;injection this
  rw[decide_eq_true this] at h;exact WL (YA (WN h))
 ·exact WL (PySem.W.eq_bytes (by rw[e];exact wpAny_truthy_bool h))
theorem EM[DecidableEq β](as bs:List β)(h:as.length=bs.length):(List.range as.length).all (fun j=>decide (as[j]?=bs[j]?))=decide (as=bs):=by
 rw[ZK,XF,decide_eq_true_eq];constructor
 ·intro h1;refine List.ext_getElem? fun j=>?_;by_cases q:j<as.length
  ·simpa using h1 j (List.mem_range.mpr q)
  ·rw[YQ ⋯,YQ ⋯]
 ·rintro rfl j _
  simp
theorem j7.isList{led:aa}(h:j7 led v xs){x:Value}(V:Val Z v x)(S:f1 B s Z led):∃a items,x=.ref a/\s.heap.IsList a items/\Vals Z xs items.toList:=by
 refine bC (h.get V S) fun a items n O4 n5 hv=>?_;subst O4;exact uv a items rfl ⟨_,n5,rfl,n,rfl⟩ hv
theorem DX[DecidableEq β]{f:β->AV}(hf:mq f){as bs:List β}{items items2:Array Value}(h1:Vals Z (as.map f) items.toList)(h2:Vals Z (bs.map f) items2.toList)(hsz:as.length=bs.length)(A:Xg)(s:WS) :
  ∀j (q1:j<items.size) (q2:j<items2.size),EqAt A s items[j] items2[j] (decide (as[j]?=bs[j]?)):=fun j q1 q2=>by
 have l1:items.size=as.length:=by simpa using h1.length
 have l2:items2.size=bs.length:=by simpa using h2.length
 refine ad (h1.get (i:=j) (x:=f (as[j]'⋯)) (by rw[XM,Xs ⋯];rfl)) fun u e1 V1=>?_;refine ad (h2.get (i:=j) (x:=f (bs[j]'⋯)) (by rw[XM,Xs ⋯];rfl)) fun v e2 V2=>?_;have g1:items[j]=u:=by rw[Zk,YI q1] at e1;exact Zi e1
 have g2:items2[j]=v:=by rw[Zk,YI q2] at e2;exact Zi e2
 rw[g1,g2]
 have:=hf Z _ _ u v V1 V2 A s;rwa [show decide (as[j]'⋯ = bs[j]'⋯)=decide (as[j]?=bs[j]?) from by
  rw[Xs (show j<as.length by omega),Xs (show j<bs.length by omega),ZK,decide_eq_true_eq,decide_eq_true_eq,YC]] at this
theorem FQ[DecidableEq β]{f:β->AV}(hf:mq f){u:AV}{as bs:List β}(hA:g7 A 1)(hl:j7 st.led v (as.map f))(hr:j7 st.led u (bs.map f))(h:K (.bool (decide (as=bs))) st) :
  F2 d7 w A B d8 Val (Zx .Eq) v u st K:=fun s Z m6 x2 V1 V2 S Q E hQ=>by
 refine br (hl.isList V1 S.tof1) fun a items O3 hi hv=>?_;subst O3;refine br (hr.isList V2 S.tof1) fun b items2 O3 Ψ W5=>?_;subst O3;have l1:items.size=as.length:=by simpa using hv.length
 have l2:items2.size=bs.length:=by simpa using W5.length
 by_cases hsz:as.length=bs.length
 ·refine PySem.SeqAt.eq_listAt (e:=fun j=>decide (as[j]?=bs[j]?)) hi Ψ ⋯ hA.ult (DX hf hv W5 hsz _ _) ?_;rw[l1,EM as bs hsz];exact hQ _ _ s Z st h S (.bool _) .refl
 ·refine PySem.SeqAt.eq_list_lengthsAt hi Ψ (by simp;omega) hA.ult ?_;rw[decide_eq_false (fun e=>hsz (by rw[e]))] at h;exact hQ _ _ s Z st h S (.bool _) .refl
theorem FM[DecidableEq β]{f:β->AV}(hf:mq f){u:AV}{as bs:List β}(hA:g7 A 1)(hl:j7 st.led v (as.map f))(hr:j7 st.led u (bs.map f))(h:K (.bool (!decide (as=bs))) st) :
  F2 d7 w A B d8 Val (Zx .NotEq) v u st K:=fun s Z m6 x2 V1 V2 S Q E hQ=>by
 refine br (hl.isList V1 S.tof1) fun a items O3 hi hv=>?_;subst O3;refine br (hr.isList V2 S.tof1) fun b items2 O3 Ψ W5=>?_;subst O3;have l1:items.size=as.length:=by simpa using hv.length
 have l2:items2.size=bs.length:=by simpa using W5.length
 by_cases hsz:as.length=bs.length
 ·refine RcNeAt.lists (e:=fun j=>decide (as[j]?=bs[j]?)) hi Ψ ⋯ hA.ult (DX hf hv W5 hsz _ _) d7 w E _ ?_;rw[l1,EM as bs hsz];exact hQ _ _ s Z st h S (.bool _) .refl
 ·refine RcNeAt.lists_lengths hi Ψ (by simp;omega) hA.ult d7 w E _ ?_;rw[decide_eq_false (fun e=>hsz (by rw[e]))] at h;exact hQ _ _ s Z st h S (.bool _) .refl
theorem VU{a b:Bool}(h:K (.bool (!(a==b))) st):F2 d7 w A B d8 Val (Zx .NotEq) (.bool a) (.bool b) st K:=F2.of fun s Z S Q E hQ=>Val.eBool <| Val.eBool <| RcNeAt.bool_bool a b d7 w E _ (hQ _ _ s Z st h S (.bool _) .refl)
theorem RG{t:XC}{items:Array Value}(t0:t≠it):∀(n i:Nat) (s:WS) (Q:List Value->WS->Prop),s.heap.IsListIter it t i->s.heap.IsList t items->i+n<=items.size ->
  (∀h',h'.IsListIter it t (i+n)->Xz it s.heap h'->Q ((items.toList.drop i).take n) {s with heap:=h' })->Xq (Xn d7 w) A (draw (.ref it) n) Q E s:=by
 intro t_;induction t_ with
 |zero =>
  intro i s Q hit _ _ hQ;show Xq _ _ (YV []) Q E s;exact WN (by simpa using hQ s.heap hit (Heap.SameBut.refl ..))
 |succ n ih =>
  intro i s Q hit ht hle hQ;have l8:i<items.size:=by omega
  show Xq _ _ (Zl (.ref it)>>=_) Q E s;refine WL (wpAny_pyNext_list_item hit ht (x:=items[i]) (by simp[l8]) fun h1 M5 J8=>?_);refine WL (Xc (ih (i+1) _ _ M5 (ht.extBut J8.extBut t0) ⋯ fun h2 O' r_=>WN ?_));have hd:items.toList.drop i=items[i]::items.toList.drop (i+1):=by simp[YH,l8]
  have:=hQ h2 (by rw[show i+(n+1)=i+1+n by omega];exact O') (J8.trans r_);rw[hd,List.take_succ_cons] at this;exact this
theorem GT{t:XC}{items:Array Value}{Q:List Value->WS->Prop}(hh:A.handled=none)(ht:s.heap.IsList t items)
  (hQ:∀h',Heap.ExtBut s.heap.objs.size s.heap h'->Q items.toList {s with heap:=h' }):Xq (Xn d7 w) A (unpackItems (.ref t) items.size none) Q E s:=by
 have l8:t≠s.heap.objs.size:=by refine ad ht fun o ho O=>?_;clear ht;exact Ys (XT ho)
 unfold unpackItems;refine WL ?_
 ·unfold notIterableAtAll;refine WL (a9 ht.typeIs slot_list_iter.lookup ?_);refine WN ?_;simp only[XI,if_false];refine WL (Xc (wpAny_pyIter_list ht ?_));refine WL (Xc (RG l8 items.size 0 _ _ ⟨_,WW _ rfl,rfl,rfl⟩ (ht.push _) ⋯ fun h1 M5 J8=>?_));have H9:List.take items.size (List.drop 0 items.toList)=items.toList:=by
   rw[List.drop_zero];exact List.take_of_length_le (by simp)
  rw[H9];refine aY (by simp) ?_;have ht1:h1.IsList t items:=(ht.push _).extBut J8.extBut l8;refine WL (Xc (wpAny_pyNext_list_end hh M5 ht1 (by simp) fun h2 ð=>?_));simp only[Option.isSome_none,XI,if_false];refine WN (hQ h2 fun b o hb e=>ð b o hb (J8.extBut b o hb (WX _ e)))
theorem WB{x1:Nat}{vs:List AV}{K:Unit->St->Prop}(hh:A.handled=none)(hl:j7 st.led v vs)(hn:(YN elts d8).length=vs.length)(A4:(YN elts d8).findIdx? (·.1)=none)
  (h:FA d7 w A B d8 ((YN elts d8).map (·.2)) vs st K):F1 d7 w A B d8 aJ (YE (.Tuple elts x1 pos) d8) v st K:=fun s Z u V S Q E hQ=>by
 refine br (hl.isList V S.tof1) fun a items O3 hi hv=>?_;subst O3;have l1:items.size=vs.length:=by simpa using hv.length
 rw[arm_assign_Tuple];refine WL (XB ?_);unfold unpack;rw[hn,A4,← l1];refine WL (Xc (GT hh hi fun h' he=>?_));refine av (S.ext1 he) fun S' X'=>?_;exact h _ Z _ hv S' Q E fun v x z1 y0 l7 k' u7 V' J2=>hQ v x z1 y0 l7 k' u7 V' (X'.trans J2)
end
end
noncomputable def eo:Nat->Nat->List Nat
 |0,_=>[]
 |f+1,x=>if x=0 then [] else x % 256::eo f (x / 256)
noncomputable def fF(x:Nat):Array UInt8:=byteArr ((eo 4 x).map fun n:Nat=>(n:Int))
theorem Ci:∀f x,∀n∈eo f x,n<256
 |0,_,n,h=>by cases h
 |f+1,x,n,h=>by
  exact iteInduction (motive:=fun l=>n∈l->n<256) (fun O=>cw (P:=(· < 256)) n) (fun O h=>(WT.mp h).elim (fun e=>e▸Nat.mod_lt _ (by decide)) (Ci f _ n)) h
theorem wz:∀f x,(eo f x).length<=f
 |0,_=>Xy _
 |f+1,x=>by
  exact iteInduction (motive:=fun l:List Nat=>l.length<=f+1) (fun O=>Xk _) fun O=>Nat.succ_le_succ (wz f (x / 256))
theorem wA(x:Nat):(fF x).size<=4:=by
 unfold fF;rw[byteArr_size,WP];exact wz 4 x
theorem mo{a b:Nat}(hb:b≠0)(h:K (.int (a % b:Nat)) st):F2 d7 w A B d8 Val (binaryOp .Mod) (.int a) (.int b) st K :=
 VX ⋯ (by rw[Int.fmod_eq_emod_of_nonneg _ ⋯,← Int.natCast_emod];exact h)
theorem pJ{a b:Nat}(hb:b≠0)(hs:b<1073741824)(h:K (.int (a / b:Nat)) st):F2 d7 w A B d8 Val (binaryOp .FloorDiv) (.int a) (.int b) st K :=
 FO ⋯ ⋯ (by rw[Int.fdiv_eq_ediv_of_nonneg _ ⋯,← Int.natCast_ediv];exact h)
structure L3 (x:Nat) (acc:List Nat) (y:Nat):Prop where
 len:acc.length<=4
 e:acc++eo (4-acc.length) y=eo 4 x
noncomputable abbrev fG(acc:List Nat):List AV:=(acc.map fun n:Nat=>(n:Int)).map .int
theorem wB(acc:List Nat):(fG acc).length=acc.length:=by rw[WP,WP]
theorem L3.step{x y:Nat}{acc:List Nat}(h:L3 x acc y)(c1:(0:Int)<y)(c2:((fG acc).length:Int)<4):y / 256<y/\L3 x (acc++[y % 256]) (y / 256):=by
 rw[wB] at c2;have c2:acc.length<4:=Int.ofNat_lt.mp c2;have c1:0<y:=Int.ofNat_lt.mp c1;refine⟨Nat.div_lt_self c1 (by decide),by rw[WV];exact c2,?_⟩;rw[← h.e,Xv,WV,Zj,(Nat.succ_sub (Nat.le_of_lt_succ c2)).trans (congrArg Nat.succ (Nat.succ_sub_succ 3 acc.length).symm)];exact congrArg (acc ++ ·) (if_neg (Nat.ne_of_gt c1)).symm
theorem L3.stop1{x y:Nat}{acc:List Nat}(h:L3 x acc y)(c : ¬ (0:Int)<y):acc=eo 4 x:=by
 have h0:y=0:=Nat.eq_zero_of_not_pos fun q=>c (Int.ofNat_lt.mpr q);subst h0
 have:eo (4-acc.length) 0=[]:=by cases 4-acc.length <;> rfl
 rw[← h.e,this,Yi]
theorem L3.stop2{x y:Nat}{acc:List Nat}(h:L3 x acc y)(c : ¬ ((fG acc).length:Int)<4):acc=eo 4 x:=by
 rw[wB] at c;have h4:acc.length=4:=Nat.le_antisymm h.len (Nat.not_lt.mp fun q=>c (Int.ofNat_lt.mpr q));rw[← h.e,h4,show eo (4-4) y=[] from rfl,Yi]
section
variable(x:Nat)(o:XC)(led:aa)
def UU(y:Nat)(P:St->Prop):Prop:=∀acc,L3 x acc y->P ⟨[(wt,.int (y:Nat)),(By,.ref o)],(o,.list (fG acc))::led⟩
def Ý(P:St->Prop):Prop:=P ⟨[(wt,.any),(By,.ref o)],(o,.list (fG (eo 4 x)))::led⟩
variable{x o led}
theorem Ý.mk{acc:List Nat}(e:acc=eo 4 x):Nx (Ý x o led) .next ⟨[(wt,v),(By,.ref o)],(o,.list (fG acc))::led⟩:=.mkE (fun O y=>y) (by rw[e]) @_
end
theorem CP{x:Nat}{led:aa}(hA:g7 A 20):TC af w A (aj w) (.ref 298) [.int x] [] led fun v led'=>led'=led/\v=.bytes (fF x):=by
 refine TC.weak (dD [(wt,.int x),(By,.any)] (bG w) hA.lt (fun O=>@_) @_ @_ (Qo _) fun L hL=>?_);have hG:=(((gk w (A.deeper (ba (az (iC w.params)) L 298 297)) (az (iC w.params)) L 298 297 @_ @_ hA.h).g (lU w) @_ @_).g (yp w) @_ @_).m ⟨JN,1, "list.append"⟩ F.plainAttrs_list mE F.type_list_append;refine aC (aD hG 10 (f7.mk (ec rfl fun o ho=>?_)));refine aC (T.join (Ý x o led) (me (UU x o led) (fun y acc h=>?_) (n:=x) (.mk (fun O y=>y [] ⟨by decide,rfl⟩) @_)) ?_)
 ·have hl:=wB acc;have h4:=h.len;refine bZ hG 20 (bh (fun c1=>f7.mk (gP (.own (WM ..)) ⋯ (bh (fun c2=>?_) fun c2=>Ý.mk (h.stop2 c2)))) fun c1=>Ý.mk (h.stop1 c1));refine bv hG 30 ⟨bS (WM ..),f7.mk (mo (a:=y) (b:=256) ⋯ (f7.mk (FI (ys:=fG (acc++[y % 256])) (by rw[fG,fG,Xr,Xr];rfl) .here (by rw[Yq];omega) ?_)))⟩;exact f7.mk (pJ (a:=y) (b:=256) ⋯ ⋯ ⟨_,(h.step c1 c2).1,.mk (fun O y=>y _ (h.step c1 c2).2) @_⟩)
 ·refine bv hG 20 (f7.mk (FH hA.h (j7.own (WM ..)) (fun n hn=>?_) (by rw[WP];exact XQ (wz 4 x) (by decide)) ⟨_,.drop,rfl,rfl⟩));refine ad (Xu.mp hn) fun m hm O3=>?_;subst O3
  have:=Ci 4 x m hm;omega
noncomputable def dI(c:Nat):Nat:=if c<128 then c else 1383-c
noncomputable def bg(b:Array UInt8):Str:=⟨b.map fun c=>dI c.toNat⟩
theorem CW:∀cs:List Nat,Str.join ⟨#[]⟩ (cs.map fun c=>(⟨#[c]⟩:Str))=⟨cs.toArray⟩
 | []=>rfl
 | [c]=>rfl
 |c::d::cs=>by
  have ih:=CW (d::cs);rw[WY,WY,Str.join,← WY (f:=fun c=>(⟨#[c]⟩:Str)),ih];case x_2=>exact fun h=>nomatch h
  show Str.mk (_++_)=_;congr 1
  simp[Array.append]
  rfl
theorem mu{γ:Type}(f:α->β)(h:α->γ):∀(g:List α),(g.map f).zip (g.map h)=g.map fun o=>(f o,h o)
 | []=>rfl
 |_::g=>by rw[WY,WY,ZA,mu f h g,WY]
theorem Ih:Slot "str" Ky "str.join" := by
 rw[show (Ky:Str)=WR "join" from by decide +kernel];exact F.slot_str_join
theorem Ho(b:Array UInt8):((b.toList.map fun c=>(some (AV.str ⟨#[dI c.toNat]⟩):Option AV)).filterMap id)=(((b.toList.map fun c=>dI c.toNat).map fun c=>(⟨#[c]⟩:Str)).map .str):=by
 simp[a7]
theorem VG{z:Int}(e:z=n)(hn:n<=0x10FFFF)(h:K (.str ⟨#[n]⟩) st):FC d7 w A B d8 (.blt "chr") [.int z] [] st K:=by subst e;exact FE hn h
theorem iZ{b:Array UInt8}{led:aa}(hA:g7 A 20)(hb:b.size<2^20):TC af w A (aj w) (.ref 303) [.bytes b] [] led fun v led'=>led'=led/\v=.str (bg b):=by
 refine TC.weak (dD [(By,.bytes b)] (bG w) hA.lt (fun O=>@_) @_ @_ (Qn _) fun L hL=>?_);have f8:=hA.deeper (k:=17) (d8:=ba (az (iB w.params)) L 303 302);have hG:=(gk w (A.deeper _) (az (iB w.params)) L 303 302 @_ @_ f8.h).m ⟨Ky,0, "str.join"⟩ jY Ih F.type_str_join;refine bv hG 20 (f7.mk (pw (k:=5) (N:=[]) (cl:=[]) (J:=fun loc=>∃v,loc=[(Kx,v)]) [Kx] (f8.mono ⋯) (c5 (by decide)) @_ @_ @_ @_ (fun O=>@_) ⟨_,rfl⟩ (ae hG 5 (Wu fun it gl hI hS=>⟨it,gl,_,eI b,b.toList.map fun c=>some (.str ⟨#[dI c.toNat]⟩),rfl,rfl,hI _ _,hS _,.nil,by rw[eI,WP,WP],by rw[eI,WP,Yz];exact XQ (YO hb) (by decide),fun L' p hp=>?_,fun D hD=>?_⟩))))
 ·intro loc Y2;refine ak Y2 fun v Q9=>?_;clear Y2;subst Q9;intro led' l3;obtain⟨c,hc,rfl⟩:∃c:UInt8,c∈b.toList/\p=(.int (c.toNat:Int),some (.str ⟨#[dI c.toNat]⟩)):=by
   unfold eI at hp;rw[mu] at hp;refine ad (Xu.mp hp) fun c hc O3=>?_;subst O3;exact bb c hc rfl
  have l8:=c.toNat_lt;refine bp (aR rfl (mc (ae ((dX @_ @_ @_ @_ f8.h).g (PU w) @_ @_) 20 (bh (fun q=>?_) fun q=>?_))))
  ·exact f7.mk (FE (n:=c.toNat) ⋯ ⟨by rw[dI,if_pos ⋯],rfl,_,rfl⟩)
  ·exact f7.mk (VG (n:=1383-c.toNat) ⋯ ⋯ ⟨by rw[dI,if_neg ⋯],rfl,_,rfl⟩)
 ·rw[Ho];refine f7.mk (Vt (j7.own (WM ..)) ?_ ?_)
  ·unfold JoinOk;have hf:Builtin.Str.tooLong (((b.toList.map fun c=>dI c.toNat).map fun c=>(⟨#[c]⟩:Str)).toArray.foldl (fun a p=>a+p.length+(⟨⟨[]⟩⟩:Str).length) 0)=false:=StrLaws.joinFits (B:=1) (fun y hy=>by
    refine ad (Xu.mp hy) fun c O O3=>?_;subst O3;exact Xy 1) (by
    simp only[WP,Yz];show b.size * 1+b.size * 0<=_;omega)
   rw[hf];rfl
  ·refine ed _ .drop rfl ?_;congr 1
   unfold Txt.join;rw[StrLaws.glued_eq_join];show Str.join ⟨#[]⟩ _=_;rw[CW,bg];congr 1
   apply Array.toList_inj.mp
   simp
noncomputable def fo(c:Nat):Int:=if c<128 then c else 1383-c
noncomputable def gH(x:Str):Array UInt8:=byteArr (x.cps.toList.map fo)
def uL(x:Str):Prop:=∀c∈x.cps,c<128∨(1128<=c/\c<=1255)
theorem Ox{led:aa}(hA:g7 A 20)(hx:uL x)(hb:x.length<2^20):TC af w A (aj w) (.ref 308) [.str x] [] led fun v led'=>led'=led/\v=.bytes (gH x):=by
 refine TC.weak (dD [(Ku,.str x)] (bG w) hA.lt (fun O=>@_) @_ @_ (Qm _) fun L hL=>?_);have f8:=hA.deeper (k:=17) (d8:=ba (az (iA w.params)) L 308 307);have hsz:x.cps.size<2^20:=hb;have hG:=(gk w (A.deeper _) (az (iA w.params)) L 308 307 @_ @_ f8.h).g (yp w) @_ @_;refine bv hG 20 (f7.mk (pw (k:=5) (N:=[]) (cl:=[]) (J:=fun loc=>∃v,loc=[(Ks,v)]) [Ks] (f8.mono ⋯) (c5 (by decide)) @_ @_ @_ @_ (fun O=>@_) ⟨_,rfl⟩ (ae hG 5 (Wo fun it gl hI hS=>⟨it,gl,_,dg x,x.cps.toList.map fun c=>some (.int (fo c)),rfl,rfl,hI _ _,hS _,.nil,by rw[dg,WP,WP],by rw[dg,WP,Yz];exact XQ (YO hsz) (by decide),fun L' p hp=>?_,fun D hD=>?_⟩))))
 ·intro loc Y2;refine ak Y2 fun v Q9=>?_;clear Y2;subst Q9;intro led' l3;obtain⟨c,hc,rfl⟩:∃c:Nat,c∈x.cps.toList/\p=(.str ⟨#[c]⟩,some (.int (fo c))):=by
   unfold dg at hp;rw[mu] at hp;refine ad (Xu.mp hp) fun c hc O3=>?_;subst O3;exact bb c hc rfl
  refine bp (aR rfl (mc (ae ((dX @_ @_ @_ @_ f8.h).g (PL w) @_ @_) 20 (f7.mk (zj (bh (fun q=>?_) fun q=>?_))))))
  ·exact f7.mk (zj ⟨by rw[fo,if_pos ⋯],rfl,_,rfl⟩)
  ·exact f7.mk (zj ⟨by rw[fo,if_neg ⋯],rfl,_,rfl⟩)
 ·have e:(x.cps.toList.map fun c=>(some (AV.int (fo c)):Option AV)).filterMap id=(x.cps.toList.map fo).map .int:=by
   simp[a7]
  rw[e];refine f7.mk (FH f8.h (j7.own (WM ..)) (fun n hn=>?_) (by rw[WP,Yz];exact XQ (YO hsz) (by decide)) ⟨_,.drop,rfl,rfl⟩);refine ad (Xu.mp hn) fun c hc O3=>?_;subst O3
  have:=hx c (by simpa using hc);unfold fo;split <;> omega
section
open PySem PySem.W PySem.SeqAt
theorem PY:Yx (.type "generator") "__len__" = YV none:=by rw[Ye,XD];kernel_rfl
theorem PZ:Yx (.type "generator") "__length_hint__" = YV none:=by rw[Ye,XD];kernel_rfl
theorem isi_meta_bytes:typeOf (.type "bytes")=YV (.type "type"):=by first |exact F.isi_meta_bytes |kernel_rfl
theorem Il(items:Array Value)(a b:Nat)(f_:a<=b):slicePick items (some a) (some b) none=((items.toList.drop a).take (b-a)).toArray:=by
 rw[slicePick_plain];simp only[Option.elim,clipAt_nat];congr 1
 have hl:items.toList.length=items.size:=Yz;rcases Nat.le_total b items.size with h |h
 ·rw[Nat.min_eq_left h,Nat.min_eq_left (XQ f_ h)]
 ·rw[Nat.min_eq_right h];rcases Nat.le_total a items.size with h' |h'
  ·rw[Nat.min_eq_left h',List.take_of_length_le (by rw[List.length_drop,hl];exact Xy _),List.take_of_length_le (by rw[List.length_drop,hl];exact Nat.sub_le_sub_right h a)]
  ·rw[Nat.min_eq_right h',YG (Nat.le_of_eq hl),YG (XQ (Nat.le_of_eq hl) h'),List.take_nil,List.take_nil]
section
variable{N:aa}
theorem Uk{value lo hi:Expr}{p:Pos}(ht:∀o r,letTemporaryGo value o r=YV ())
  (h:T d7 w A B d8 Val (Yw value d8) st fun v j9=>T d7 w A B d8 Val (Yw lo d8) j9 fun l m5=>T d7 w A B d8 Val (Yw hi d8) m5 fun u u6 =>
   ∃xs:List AV,∃i j:Nat,j7 u6.led v xs/\l=.int i/\u=.int j/\i<=j/\xs.length<=XK/\R (.lst ((xs.drop i).take (j-i))) u6) :
  T d7 w A B d8 Val (Yw (.Subscript value (.Slice (some lo) (some hi) none p) pos) d8) st R:=fun s Z S Q E hQ=>by
 refine wpAny_Subscript_list_slice (h s Z S _ _ fun v x s₁ Z1 j9 k₁ S1 V1 X1=>k₁ s₁ Z1 S1 _ _ fun l y s2 Z2 m5 k2 S2 V2 X2=>k2 s2 Z2 S2 _ _ fun u z s3 Z3 u6 k3 S3 V3 X3=>?_) ht;refine ef k3 fun xs i j hl O5 O6 A9 hsz k=>?_;clear k3;subst O5;subst O6;refine bC (hl.get (V1.mono (X2.le.trans X3.le)) S3.tof1) fun a items n O4 g vs=>?_;subst O4;have j3:items.size=xs.length:=vs.size;refine ak V2.inv fun t e=>?_;subst e;refine ak V3.inv fun l_ e=>?_;subst e;refine Fr a items (some i) (some j) rfl ⟨_,g,rfl,n,rfl⟩ ⋯ (.int _ _) (.int _ _) ?_;rw[Il items i j A9];have P1:=S3.tof1.push0 (o:={ cls:=.type "slice",data:=.fields #[.int i t,.int j l_,.none]}) s3.toks;have P2:=P1.1.pushZ (o:={ cls:=.type "list",data:=.seq ((items.toList.drop i).take (j-i)).toArray}) rfl s3.toks;have X:=P1.2.trans P2.2;have hs:(s3.heap.push {cls:=.type "slice",data:=.fields #[.int i t,.int j l_,.none]}).objs.size=s3.heap.objs.size+1:=ZV ..;refine hQ _ _ _ _ _ k (S3.after P2.1 X) ?_ (((X1.trans X2).trans X3).trans X.toF);rw[← hs];exact .lst (f9.add_at ..) (((vs.drop i).take (j-i)).mono X.le)
theorem WA{x1:Nat}{vs:List AV}{K:Unit->St->Prop}(hh:A.handled=none)(hl:j7 st.led v vs)(he:(YN elts d8).map (·.2)=elts.map fun e=>YE e d8)(hn:elts.length=vs.length)(A4:(YN elts d8).findIdx? (·.1)=none)
  (h:FT d7 w A B d8 elts vs st K):F1 d7 w A B d8 aJ (YE (.Tuple elts x1 pos) d8) v st K :=
 WB hh hl (by have:=congrArg ZP he;simp only[WP] at this;omega) A4 (by exact(Eq.symm (he))▸h)
theorem VP{a:Nat}(s_:n<=1000000)(ha:a<2^64)(h:K (.int ((a^n:Nat):Int)) st):F2 d7 w A B d8 Val (binaryOp .Pow) (.int a) (.int n) st K :=
 VQ (Int.natCast_nonneg n) (Int.ofNat_le.mpr s_) (by rw[Int.natAbs_natCast];exact ha) (by rw[XJ,← Int.natCast_pow];exact h)
theorem Fx{ga g:Nat}{gs:ZQ}{gl led:aa}(hG:m3 B)(hA:g7 A (n+4))(hN:n7 N led)(h0:t6 d7 w B N n f0 gl gs)(hsz:f0.length<=XK)(h:R (.lst f0) ⟨loc,led⟩) :
  FC d7 w A B d8 (.typ "list") [.ref ga] [] ⟨loc,((ga,.gen g gs)::gl)++led⟩ R:=by
 refine uA (k:=n+1) (T' := "generator") hA hN (g5.gen hG (fun O O O O O O O O A Q E hq=>WN hq) h0) hsz (fun s Z S=>?_) (by decide) (by decide) (fun A s Z S Q E hq=>?_) PY PZ h
 ·exact(S.own _ (WM ..)).1.typeIs
 ·exact wpAny_pyIter_gen (S.own _ (WM ..)).1 hq
end
end
noncomputable abbrev fW(w:Xo)(L C:XC):Env:=cy (az (iz w.params)).scope L YD [(wi,C)] (az (iz w.params)).qualname 313 (.ref 312) Zm
noncomputable def dz:List Int->Nat
 | []=>0
 |x::_=>x.natAbs
noncomputable def sY(d9:List Int):Nat:=dz d9 % 8
noncomputable def aO(d9:List Int)(k:Nat):Array UInt8:=fF (dz d9 / 8 / 3^k)
noncomputable def cc(d9:List Int):List (Array UInt8)×List (Array UInt8):=if d9.length % 2=0∨d9.length=1 then ([#[228]],[#[246]]) else ([],[])
noncomputable def dm(x:Int):List (Array UInt8):=Zr (x.natAbs / 3 % 4+1) (fF (x.natAbs / 12))
noncomputable def dq(a:List (Array UInt8))(x:Int):List (Array UInt8):=if x.natAbs % 3≠2 then a++dm x else a
noncomputable def dB(b:List (Array UInt8))(x:Int):List (Array UInt8):=if x.natAbs % 3≠1 then b++dm x else b
noncomputable def restOf(d9:List Int):List Int:=(d9.drop 1).take 62
noncomputable def dC(d9:List Int):List (Array UInt8):=(restOf d9).foldl dq (cc d9).1
noncomputable def dn(d9:List Int):List (Array UInt8):=(restOf d9).foldl dB (cc d9).2
noncomputable abbrev tr(d9:List Int)(v1 v2 v3 v4 v5 v6 va vb vx vl v7 v8 v9 M0 L9:AV):List (Str×AV) :=
 [(Kr,.lst (d9.map .int)),(jB,v1),(Kp,v2),(Ko,v3),(Kn,v4),(Km,v5),(Kl,v6),(di,va),(cZ,vb),(wt,vx),(Bz,vl),(Kx,v7),(Kj,v8),(Ki,v9),(Kh,M0),(Kg,L9)]
def mt(w:Xo)(N:aa)(a b:List (Array UInt8))(Y7 new od nd lt:Array UInt8)(n:Nat)(x:AV):Prop :=
 ∃(df:XC) (R1 R2:List Str),x=.ref df/\dE af w (aj w) (.ref df) /\
  (∀A',g7 A' 200->∀led',n7 N led'->TC af w A' (aj w) (.ref df) [.lst ((a.map ar).map .str),.lst ((b.map ar).map .str),.str (ar Y7),.str (ar new),.str (ar od),.str (ar nd),.int n,.str (ar lt)] [] led' (n8 af w (aj w) N 153 (R1.map .str) led')) /\
  (∀A',g7 A' 200->∀led',n7 N led'->TC af w A' (aj w) (.ref df) [.lst ((a.map bg).map .str),.lst ((b.map bg).map .str),.str (bg Y7),.str (bg new),.str (bg od),.str (bg nd),.int n,.str (bg lt)] [] led' (n8 af w (aj w) N 153 (R2.map .str) led')) /\
  (∀r∈R1,de r/\r.length<2^20)/\(∀r∈R2,uL r/\r.length<2^20)/\R2.map gH=R1.map ck/\(R1=[]↔a=b)/\R1.length<=2^20
theorem CK{x:Int}:∀y∈dm x,y.size<=4:=fun y hy=>by
 rw[(List.mem_replicate.mp hy).2];exact wA _
theorem yt{f:List (Array UInt8)->Int->List (Array UInt8)}(hf:∀a x,(∀y∈a,y.size<=4)->∀y∈f a x,y.size<=4):∀(xs:List Int) (a:List (Array UInt8)),(∀y∈a,y.size<=4)->∀y∈xs.foldl f a,y.size<=4
 | [],a,h=>h
 |x::xs,a,h=>yt hf xs (f a x) (hf a x h)
theorem yP(d9:List Int):∀y∈dC d9,y.size<=4:=by
 refine yt (fun a x h y hy=>?_) _ _ fun y hy=>?_
 ·unfold dq at hy;split at hy
  ·exact(XR.mp hy).elim (h y) (CK y)
  ·exact h y hy
 ·unfold cc at hy;split at hy
  ·rw[Xi] at hy;rw[hy];decide
  ·cases hy
theorem yK(d9:List Int):∀y∈dn d9,y.size<=4:=by
 refine yt (fun a x h y hy=>?_) _ _ fun y hy=>?_
 ·unfold dB at hy;split at hy
  ·exact(XR.mp hy).elim (h y) (CK y)
  ·exact h y hy
 ·unfold cc at hy;split at hy
  ·rw[Xi] at hy;rw[hy];decide
  ·cases hy
theorem yv{f:List (Array UInt8)->Int->List (Array UInt8)}(hf:∀a x,(f a x).length<=a.length+4):∀(xs:List Int) (a:List (Array UInt8)),(xs.foldl f a).length<=a.length+4 * xs.length
 | [],a=>Xy _
 |x::xs,a=>by
  have h1:=yv hf xs (f a x);have h2:=hf a x;rw[Yh,WU];omega
theorem oV(x:Int):(dm x).length<=4:=by
 have h4:x.natAbs / 3 % 4<4:=Nat.mod_lt _ ⋯;rw[dm,c8];omega
theorem qr(d9:List Int):(restOf d9).length<=62:=by unfold restOf;rw[List.length_take];omega
theorem yQ(d9:List Int):(dC d9).length<=249:=by
 have h:=yv (f:=dq) (fun a x=>by have:=oV x;unfold dq;split <;> (try rw[WV]) <;> omega) (restOf d9) (cc d9).1;have h1:=qr d9;have h2:(cc d9).1.length<=1:=by unfold cc;split <;> simp
 unfold dC;omega
theorem yL(d9:List Int):(dn d9).length<=249:=by
 have h:=yv (f:=dB) (fun a x=>by have:=oV x;unfold dB;split <;> (try rw[WV]) <;> omega) (restOf d9) (cc d9).2;have h1:=qr d9;have h2:(cc d9).2.length<=1:=by unfold cc;split <;> simp
 unfold dn;omega
theorem E8.drop2{p q:XC×i9}{l:aa}:E8 (p::q::l) l:=⟨[p,q],.refl _⟩
theorem FG{N:aa}{f:AV}{led:aa}(h:TC d7 w A B f args kw led (n8 d7 w B N n f0 led))
  (hk:∀ga gn gs gl,t6 d7 w B N n f0 gl gs->K (.ref ga) ⟨loc,((ga,.gen gn gs)::gl)++led⟩):FC d7 w A B d8 f args kw ⟨loc,led⟩ K :=
 fy h fun v l h=>by
  refine cA h fun ga gn gs gl O5 O6 F8=>?_;clear h;subst O5;subst O6;exact hk _ _ _ _ F8
theorem FL[DecidableEq β]{f:β->AV}(hf:mq f){u:AV}{as bs:List β}(hA:g7 A 1)(hl:j7 st.led v (as.map f))(hr:j7 st.led u (bs.map f))(e:as=bs)(h:K (.bool false) st) :
  F2 d7 w A B d8 Val (Zx .NotEq) v u st K:=FM hf hA hl hr (by rw[decide_eq_true e];exact h)
theorem VT{p q:Prop}[Decidable p][Decidable q](e:p↔q)(h:K (.bool false) st):F2 d7 w A B d8 Val (Zx .NotEq) (.bool (decide p)) (.bool (decide q)) st K :=
 VU (by rw[show decide p=decide q from decide_eq_decide.mpr e,beq_self_eq_true];exact h)
theorem tU{f:β->AV}{g:β->Option AV}{xs:List β}{p:Pos}{elt:Expr}{w8:List Expr}{scope:Scope}{vars:List Str}{K:List AV->St->Prop}(e:(xs.map g).filterMap id=ys)(hsz:xs.length<=XK)
  (hs:∀L,∀y∈xs,r9 d7 w A B (compEnvC scope [] L d8) (.Name x p) elt w8 [] J (f y) (g y)) (h:K ys st):F1 d7 w A B d8 Val pyIter (.lst (xs.map f)) st fun u m5=>zE d7 w A B d8 k [] vars scope [] elt (.Name x p) w8 J K u m5 :=
 FV fun it gl hI hS=>⟨it,gl,_,xs.map f,xs.map g,rfl,rfl,hI _ _,hS _,.nil,by rw[WP,WP],by rw[WP];exact hsz,fun L p hp=>by
  rw[mu] at hp;refine ad (Xu.mp hp) fun y hy O3=>?_;subst O3;exact hs L y hy,e▸h⟩
theorem vD{γ:Type}(f:γ->AV)(g:β->γ)(xs:List β):(xs.map fun y=>some (f (g y))).filterMap id=(xs.map g).map f:=by rw[a7,YF];exact List.filterMap_eq_map▸rfl
theorem MV(xs:List β):(xs.map fun O=>(none:Option AV)).filterMap id=[]:=by rw[a7];exact List.filterMap_eq_nil_iff.mpr fun O O=>rfl
noncomputable abbrev N2:aa:=[(271,bM eD),(286,bM dL)]
theorem n7.push{N l:aa}(h:n7 N l)(p:XC×i9):n7 N (p::l):=fun q hq=>WO _ (h q hq)
structure Y_ (d9 ys:List Int) (a b:List (Array UInt8)):Prop where
 fa:ys.foldl dq a=dC d9
 fb:ys.foldl dB b=dn d9
 la:a.length+4 * ys.length<=249
 lb:b.length+4 * ys.length<=249
theorem HO(d9:List Int):(cc d9).1.length<=1/\(cc d9).2.length<=1:=by unfold cc;split <;> exact⟨by decide,by decide⟩
theorem Y_.start(d9:List Int):Y_ d9 (restOf d9) (cc d9).1 (cc d9).2:=by
 have h:=qr d9;have h2:=HO d9;exact⟨rfl,rfl,by omega,by omega⟩
theorem TJ(a:List (Array UInt8))(y:Int):(dq a y).length<=a.length+4:=by
 have:=oV y;unfold dq;split
 ·rw[WV];omega
 ·omega
theorem TF(a:List (Array UInt8))(y:Int):(dB a y).length<=a.length+4:=by
 have:=oV y;unfold dB;split
 ·rw[WV];omega
 ·omega
section
variable{d9 ys:List Int}{y:Int}{a b:List (Array UInt8)}
theorem Y_.step(h:Y_ d9 (y::ys) a b):Y_ d9 ys (dq a y) (dB b y):=by
 have h1:=TJ a y;have h2:=TF b y;have h3:=h.la;have h4:=h.lb;rw[WU] at h3 h4;exact⟨h.fa,h.fb,by omega,by omega⟩
theorem TI(c:(y.natAbs % 3:Nat)≠(2:Int)):a.map AV.bytes++(dm y).map .bytes=(dq a y).map .bytes:=by rw[dq,if_pos (fun e=>c (by rw[e];rfl)),Xr]
theorem TK(c:(y.natAbs % 3:Nat)=(2:Int)):a.map AV.bytes=(dq a y).map .bytes:=by rw[dq,if_neg (fun e=>e ⋯)]
theorem TE(c:(y.natAbs % 3:Nat)≠(1:Int)):a.map AV.bytes++(dm y).map .bytes=(dB a y).map .bytes:=by rw[dB,if_pos (fun e=>c (by rw[e];rfl)),Xr]
theorem TH(c:(y.natAbs % 3:Nat)=(1:Int)):a.map AV.bytes=(dB a y).map .bytes:=by rw[dB,if_neg (fun e=>e ⋯)]
theorem Oi:(Zr ((y.natAbs / 3 % 4:Nat)+1:Int).toNat [AV.bytes (fF (y.natAbs / 12))]).flatten=(dm y).map .bytes:=by
 rw[show ((y.natAbs / 3 % 4:Nat)+1:Int).toNat=y.natAbs / 3 % 4+1 from rfl,PyProof.Rows.lm_rep_flat_one,dm,List.map_replicate]
end
section
variable(d9:List Int)(C:XC)(m0:aa)
noncomputable abbrev iX(va vb vx vl v7 v8 v9 M0 L9:AV):List (Str×AV):=tr d9 (.int (sY d9:Nat)) (.bytes (aO d9 0)) (.bytes (aO d9 1)) (.bytes (aO d9 2)) (.bytes (aO d9 3)) (.bytes (aO d9 4)) va vb vx vl v7 v8 v9 M0 L9
def UT(P:St->Prop):Prop:=∀l,P ⟨tr d9 .any .any .any .any .any .any .any .any .any .any .any .any .any .any .any,l++(C,jl (.int (dz d9)))::m0⟩
def US(P:St->Prop):Prop:=∀al bl,P ⟨iX d9 (.ref al) (.ref bl) .any .any .any .any .any .any .any,(bl,.list ((cc d9).2.map .bytes))::(al,.list ((cc d9).1.map .bytes))::m0⟩
end
section
variable(d9:List Int)(al bl:XC)
def û(ys:List Int)(P:St->Prop):Prop:=∀a b l,Y_ d9 ys a b->n7 N2 l->P ⟨iX d9 (.ref al) (.ref bl) .any .any .any .any .any .any .any,(bl,.list (b.map .bytes))::(al,.list (a.map .bytes))::l⟩
def Fp(P:St->Prop):Prop:=∀l,n7 N2 l->P ⟨iX d9 (.ref al) (.ref bl) .any .any .any .any .any .any .any,(bl,.list ((dn d9).map .bytes))::(al,.list ((dC d9).map .bytes))::l⟩
theorem û.nil:û d9 al bl [] (Nx (Fp d9 al bl) .next):=fun a b l h hN =>
 .mkE (fun O y=>y l hN) (by rw[show a=dC d9 from h.fa,show b=dn d9 from h.fb]) @_
end
def UV(w:Xo)(a b:List (Array UInt8))(o0 o1 o2 o3 o4:Array UInt8)(n:Nat)(L:List (Str×AV))(xs:List AV)(P:St->Prop):Prop:=(∀x∈xs,mt w N2 a b o0 o1 o2 o3 o4 n x)->∀l,n7 N2 l->P ⟨L,l⟩
theorem VL{a:Int}(e:a.natAbs=n)(h:K (.int n) st):FC d7 w A B d8 (.blt "abs") [.int a] [] st K:=by subst e;exact pI h
theorem Pn(c:(!decide (d9=[]))=true):(d9.map AV.int)[(0:Int).toNat]?=some (.int (d9.headD 0)):=by
 cases d9 with
 |nil=>cases c
 |cons x xs=>rfl
theorem QI(d9:List Int):(d9.headD 0).natAbs=dz d9:=by cases d9 <;> rfl
theorem QH(c:(!decide (d9=[]))=false):dz d9=0:=by
 cases d9 with
 |nil=>rfl
 |cons x xs=>cases c
theorem Jm:cD 0 5=(Yk 0 5).map fun(i:Nat)=>AV.int (i:Int):=AR 0 5
theorem r9.oct{px:Pos}{elt:Expr}{w8:List Expr}{N:aa}{p:AV×Option AV}(hp:p∈((Yk 0 5).map fun(i:Nat)=>AV.int (i:Int)).zip ((Yk 0 5).map fun(i:Nat)=>some (AV.bytes (aO d9 i))))
  (h:∀v (i:Nat),i<5->∀led,n7 N led->F1 d7 w A B d8 aJ (YE (.Name x px) d8) (.int (i:Int)) ⟨[(x,v)],led⟩ fun O u6=>T d7 w A B d8 aH (jy w8 d8) u6 fun b y9 =>
   if b then T d7 w A B d8 Val (Yw elt d8) y9 fun v R7=>some (AV.bytes (aO d9 i))=some v/\R7.led=led/\∃v,R7.loc=[(x,v)] else some (AV.bytes (aO d9 i))=none/\y9.led=led/\∃v,y9.loc=[(x,v)]) :
  r9 d7 w A B d8 (.Name x px) elt w8 N (fun loc=>∃v,loc=[(x,v)]) p.1 p.2:=by
 rw[mu] at hp;refine ad (Xu.mp hp) fun i hi O3=>?_;subst O3;intro loc Y2;refine ak Y2 fun v Q9=>?_;clear Y2;subst Q9;intro led' l3;exact h v i (by simpa using hi) led' l3
theorem Ax(h:(((d9.map AV.int).length % 2:Nat):Int)=0∨((d9.map AV.int).length:Int)=1):cc d9=([#[228]],[#[246]]):=if_pos (by rw[WP] at h;exact h.imp Int.ofNat.inj Int.ofNat.inj)
theorem HP(h1:(((d9.map AV.int).length % 2:Nat):Int)≠0)(h2:((d9.map AV.int).length:Int)≠1):cc d9=([],[]):=if_neg (by rw[WP] at h1 h2;exact fun q=>q.elim (fun e=>h1 (congrArg Int.ofNat e)) fun e=>h2 (congrArg Int.ofNat e))
theorem VV{x:Int}(hl:j7 st.led v xs)(h0:0<=x)(h1:x<2^20)(hsz:xs.length * x.toNat<=2^24)(e:(Zr x.toNat xs).flatten=ys)
  (h:∀a,a∉keys st.led->K (.ref a) ⟨st.loc,(a,.list ys)::st.led⟩):F2 d7 w A B d8 Val (binaryOp .Mult) v (.int x) st K:=by subst e;exact VW hl h0 h1 hsz h
section
variable(d9:List Int)(al bl:XC)(y:Int)(a b:List (Array UInt8))(l gl:aa)
def UR(P:St->Prop):Prop:=∀Z_ o_ X1 X2,P ⟨iX d9 (.ref al) (.ref bl) (.int y) (.ref o_) .any .any .any .any .any,(o_,X2)::(Z_,X1)::(((bl,.list ((dB b y).map .bytes))::(al,.list ((dq a y).map .bytes))::l)++gl)⟩
end
theorem Ea(R:List Str):(R.map ck).map AV.bytes=R.map fun r=>AV.bytes (ck r):=by rw[YF];rfl
theorem Ow{L:XC}{a b:List (Array UInt8)}{o0 o1 o2 o3 o4:Array UInt8}{l:aa}{K:g6->St->Prop}(f8:g7 A 397)(hN:n7 N2 l)(J1:a.length<=249)(L6:b.length<=249)(has:∀y∈a,y.size<=4)(G1:∀y∈b,y.size<=4)
  (h0:o0.size<=4) (h1:o1.size<=4) (h2:o2.size<=4) (h3:o3.size<=4) (h4:o4.size<=4) (hq1:mt w N2 a b o0 o1 o2 o3 o4 n (.ref 261)) (hq2:mt w N2 a b o0 o1 o2 o3 o4 n (.ref 276)) (hK:∀st,n7 N2 st.led->K (.ret (.bool true)) st) :
  T af w A (aj w) (fW w L C) j5 (execs ((bo (aE 16)).drop 5) (fW w L C)) ⟨tr d9 (.int n) (.bytes o0) (.bytes o1) (.bytes o2) (.bytes o3) (.bytes o4) (.lst (a.map .bytes)) (.lst (b.map .bytes)) .any .any .any .any .any .any .any,l⟩ K:=by
 have hh:=f8.h;have h20:∀n:Nat,n<=249->n<=XK:=fun n h=>XQ h (by decide);have hG:=(((((((((dX (d7:=af) (w:=w) (B:=aj w) (A:=A) (d8:=fW w L C) @_ @_ @_ @_ hh).g (tF w) @_ @_).g (tG w) @_ @_).g (Dv w) @_ @_).g (Dp w) @_ @_).g (Dw w) @_ @_).f (f:=303) (bK @_)).f (f:=291) (bK @_)));refine aC (EX (k:=5) (N:=[]) (cl:=[]) (J:=fun loc=>∃v,loc=[(qC,v)]) [qC] @_ (f8.mono ⋯) (c5 (by decide)) @_ @_ @_ @_ (fun O=>@_) ⟨_,rfl⟩ (ae hG 20 (tU (g:=fun y=>some (.str (bg y))) (vD AV.str bg _) (h20 _ J1) (fun L2 y hy=>?_) fun D hD=>aR rfl (T.freeze (a:=D) (xs:=(a.map bg).map .str) (by repeat constructor) ?_))))
 ·intro loc Y2;refine ak Y2 fun v Q9=>?_;clear Y2;subst Q9;intro led' l3
  have:=has y hy;exact bp (aR rfl (mc (ae (((dX @_ @_ @_ @_ hh).g (tG w) @_ @_).f (f:=303) (bK @_)) 20 (f7.mk (cY (iZ (f8.mono ⋯) ⋯) ⟨rfl,rfl,_,rfl⟩)))))
 refine aC (EX (k:=5) (N:=[]) (cl:=[]) (J:=fun loc=>∃v,loc=[(qC,v)]) [qC] @_ (f8.mono ⋯) (c5 (by decide)) @_ @_ @_ @_ (fun O=>@_) ⟨_,rfl⟩ (ae hG 20 (tU (g:=fun y=>some (.str (bg y))) (vD AV.str bg _) (h20 _ L6) (fun L2 y hy=>?_) fun D hD=>aR rfl (T.freeze (a:=D) (xs:=(b.map bg).map .str) (by repeat constructor) ?_))))
 ·intro loc Y2;refine ak Y2 fun v Q9=>?_;clear Y2;subst Q9;intro led' l3
  have:=G1 y hy;exact bp (aR rfl (mc (ae (((dX @_ @_ @_ @_ hh).g (tG w) @_ @_).f (f:=303) (bK @_)) 20 (f7.mk (cY (iZ (f8.mono ⋯) ⋯) ⟨rfl,rfl,_,rfl⟩)))))
 refine aC (pv (k:=5) (fun x=>x) (UV w a b o0 o1 o2 o3 o4 n (tr d9 (.int n) (.bytes o0) (.bytes o1) (.bytes o2) (.bytes o3) (.bytes o4) (.lst (a.map .bytes)) (.lst (b.map .bytes)) .any .any (.lst ((a.map bg).map .str)) (.lst ((b.map bg).map .str)) .any .any .any)) (f8.mono ⋯) (ae hG 20 (FU (k:=5) fun it gl hI => .mk hI (.mk (gs:=[AV.ref 261,AV.ref 276]) (fun O y=>y (fun x hx=>?_) l hN) @_))) ?_ (fun O l hN=>?_) fun O=>@_)
 ·rcases WT.mp hx with rfl |hx
  ·exact hq1
  ·exact(Xi.mp hx)▸hq2
 ·intro gl x xs I6 l hN;have hN2:n7 N2 (l++gl):=fun p hp=>Yc _ (hN p hp);refine pO (I6 x (WM ..)) fun df R1 R2 e P8 hdf1 hdf2 Μ Q4 h6 h7 h8=>?_;have M':R1.length<=XK:=XQ h8 (by decide);have b_:R2.length<=XK:=by have:=congrArg ZP h6;rw[WP,WP] at this;exact this▸M'
  have hiff:R1.map ck=[]↔a=b:=List.map_eq_nil_iff.trans h7;have hok2:=fun x hx=>I6 x (WO _ hx);subst e;refine⟨rfl,?_⟩;refine aC (aD hG 40 (f7.mk (FG (led:=l++gl) (RI (N:=N2) (f0:=R1) (f8.mono ⋯) (WO _ (WM ..)) ⋯ ⋯ (fun y hy=>Nat.lt_of_le_of_lt (has y hy) (by decide)) (fun y hy=>Nat.lt_of_le_of_lt (G1 y hy) (by decide)) ⋯ ⋯ ⋯ ⋯ ⋯ P8 hdf1 Μ) fun ga gn gs gl' F8=>f7.mk (Fx (bG w) (f8.mono ⋯) hN2 F8 (by rw[WP];exact M') ?_))));refine aC (cX rfl rfl rfl (pA @_ (ae hG 5 (cp @_ CT (Fj @_ (pA @_ (ae hG 5 (cp @_ P8 (bD hG 40 ?_)))))))));refine f7.mk (cY (iZ (f8.mono ⋯) ⋯) (f7.mk (cY (iZ (f8.mono ⋯) ⋯) (f7.mk (cY (iZ (f8.mono ⋯) ⋯) (f7.mk (cY (iZ (f8.mono ⋯) ⋯) (f7.mk (cY (iZ (f8.mono ⋯) ⋯) (FG (hdf2 _ (f8.mono ⋯) _ hN2) fun ga gn gs gl' F8=>pC (Fx (bG w) (f8.mono ⋯) hN2 F8 (by rw[WP];exact b_) (bp (aR rfl ?_)))))))))))));refine aC (aD hG 40 (f7.mk (pw (k:=5) (N:=[]) (cl:=[]) (J:=fun loc=>∃v,loc=[(Ke,v)]) [Ke] (f8.mono ⋯) (c5 (by decide)) @_ @_ @_ @_ (fun O=>@_) ⟨_,rfl⟩ (ae hG 20 (tU (g:=fun y=>some (.bytes (gH y))) (vD AV.bytes gH R2) b_ (fun L2 y hy=>?_) fun D hD=>?_)))))
  ·intro loc Y2;refine ak Y2 fun v Q9=>?_;clear Y2;subst Q9;intro led' l3;exact bp (aR rfl (mc (ae (((dX @_ @_ @_ @_ hh).g (PO w) @_ @_).f (f:=308) (bK @_)) 20 (f7.mk (cY (Ox (f8.mono ⋯) (Q4 y hy).1 (Q4 y hy).2) ⟨rfl,rfl,_,rfl⟩)))))
  ·refine f7.mk (FL (f:=AV.bytes) tN (as:=R1.map ck) (bs:=R2.map gH) (f8.mono ⋯) (Ea R1▸.frz) (.own (WM ..)) h6.symm ?_);refine f7.mk (pw (k:=5) (N:=[]) (cl:=[]) (J:=fun loc=>∃v,loc=[(Ke,v)]) [Ke] (f8.mono ⋯) (c5 (by decide)) @_ @_ @_ @_ (fun O=>@_) ⟨_,rfl⟩ (ae hG 20 (tU (g:=fun O=>none) (MV R1) M' (fun L2 y hy=>?_) fun D2 hD2=>?_)))
   ·intro loc Y2;refine ak Y2 fun v Q9=>?_;clear Y2;subst Q9;intro led' l3;exact bp (aR rfl (TL (bZ (((dX @_ @_ @_ @_ hh).g (Du w) @_ @_).g (yp w) @_ @_) 20 (f7.mk (uB isi_meta_bytes F.sub_bytes_bytes zX ⟨rfl,rfl,_,rfl⟩)))))
   ·refine f7.mk (ec @_ fun e1 he1=>f7.mk (FL (f:=AV.bytes) tN (as:=[]) (bs:=[]) (f8.mono ⋯) (.own (WO _ (WM ..))) (.own (WM ..)) rfl ?_));refine bv hG 40 (f7.mk (ec @_ fun e2 ð=>f7.mk (FQ (f:=AV.bytes) tN (as:=R1.map ck) (bs:=[]) (f8.mono ⋯) (Ea R1▸.frz) (.own (WM ..)) ?_)));refine f7.mk (FQ (f:=AV.bytes) tN (as:=a) (bs:=b) (f8.mono ⋯) .frz .frz (f7.mk (VT hiff ?_)));exact .next (l:=_::_::_::_::l) (.lk (gs:=xs) (fun O y=>y hok2 _ ((((hN.push _).push _).push _).push _)) @_)
 ·exact aC (aD hG 20 (hK _ hN))
theorem Ou{led:aa}(hA:g7 A 400)(hs:d9.length<=63)
  (hq1:mt w N2 (dC d9) (dn d9) (aO d9 0) (aO d9 1) (aO d9 2) (aO d9 3) (aO d9 4) (sY d9) (.ref 261))
  (hq2:mt w N2 (dC d9) (dn d9) (aO d9 0) (aO d9 1) (aO d9 2) (aO d9 3) (aO d9 4) (sY d9) (.ref 276)) :
  TC af w A (aj w) (.ref 313) [.lst (d9.map .int)] [] ((271,bM eD)::(286,bM dL)::led) fun v led'=>v=.bool true/\n7 [(271,bM eD),(286,bM dL)] led':=by
 refine Ut (x:=wi) (binds:=[(Kr,.lst (d9.map .int))]) (o:=iz w.params) (fd:=az (iz w.params)) (body:=bo (aE 16)) (c:=312) (oc:=kT w.params) (vs:=aL (kT w.params)) (tq:=cb ((aL (kT w.params)).getD 1 .none)) (bG w)
  @_ @_ @_ @_ @_ @_ (fun n=>@_) @_ @_ @_ @_ @_ hA.lt (Binds.of1 fun Z v1 h1=>⟨_,@_,.cons h1 .nil⟩) (fun x hx=>?_) fun L C hL hC=>?_
 ·rw[WY,ZL,Xi] at hx;subst hx;kernel_rfl
 ·have f8:=hA.deeper (k:=397) (d8:=fW w L C);have hh:=f8.h;have hN:n7 N2 ((271,bM eD)::(286,bM dL)::led):=fun p hp=>Yc led hp;have hG:=(((((((((((((((dX (d7:=af) (w:=w) (B:=aj w) (A:=A.deeper (fW w L C)) (d8:=fW w L C) @_ @_ @_ @_ hh).g (PW w) @_ @_).g (lU w) @_ @_).g (Dr w) @_ @_).g (tF w) @_ @_).g (Dt w) @_ @_).g (tG w) @_ @_).g (Dv w) @_ @_).g (Dp w) @_ @_).g (Dw w) @_ @_).f (f:=298) (bK @_)).f (f:=303) (bK @_)).f (f:=291) (bK @_)).m ⟨Kk,1, "list.extend"⟩ F.plainAttrs_list It F.type_list_extend));generalize A7:((271,bM eD)::(286,bM dL)::led:aa)=m0 at hN ⊢;show T af w (A.deeper (fW w L C)) (aj w) (fW w L C) j5 (execs (bo (aE 16)) (fW w L C)) ⟨[(Kr,.lst (d9.map .int))],(C,pu)::m0⟩ _;clear A7;refine T.spares [jB,Kp,Ko,Kn,Km,Kl,di,cZ,wt,Bz,Kx,Kj,Ki,Kh,Kg] @_ ?_;dsimp only[List.map,WZ,Xe];refine aC (T.join (UT d9 C m0) (cX rfl rfl rfl (ae hG 20 (f7.mk (ec rfl fun nn M3=>f7.mk (FM (f:=AV.int) Rj (as:=d9) (bs:=[]) (f8.mono ⋯) .frz (.own (WM ..)) ?_))))) fun l=>?_)
  ·refine cE (fun c=>?_) fun c=>?_
   ·exact f7.mk (fA (x:=.int (d9.headD 0)) .frz (by decide) (by decide) (Pn c) (f7.mk (VL (QI d9) (bp (FR (c:=C) (e0:=pu) @_ @_ (fun Z s h=>EB Z s C h) rfl (.there .here) (.mk (fun O y=>y [(nn,.list [])]) @_))))))
   ·exact bp (FR (c:=C) (e0:=pu) @_ @_ (fun Z s h=>EB Z s C h) rfl (.there .here) (.mkE (fun O y=>y [(nn,.list [])]) (by rw[QH c];rfl) @_))
  ·refine aC (cX rfl rfl rfl (zb (Fd (c:=C) (v:=.int (dz d9)) @_ @_ (Xx _ (WM ..)) @_ (ae hG 20 (mo (a:=dz d9) (b:=8) ⋯ (bp (aR rfl ?_)))))));refine aC (cX rfl rfl rfl (pw (k:=5) (N:=[(C,jl (.int (dz d9)))]) (cl:=[(wi,C)]) (J:=fun loc=>∃v,loc=[(q1,v)]) [q1] (f8.mono ⋯) @_ @_ @_ @_ @_ (fun O=>@_) ⟨_,rfl⟩ (ae hG 20 (f7.mk (Vp (Wq (k:=5) ⋯ ⋯ ⋯ ⋯ fun it gl hI hS=>⟨it,gl,_,(Yk 0 5).map fun(i:Nat)=>AV.int (i:Int),(Yk 0 5).map fun(i:Nat)=>some (AV.bytes (aO d9 i)),rfl,rfl,Jm▸hI _ _ _,hS _,zf (Xx _ (WM ..)),rfl,by decide,fun L' p hp=>r9.oct hp fun v i hi led' l3=>?_,fun D hD=>?_⟩))))))
   ·refine bp (aR rfl (mc (ae (((dX @_ @_ @_ @_ hh).g (Dt w) @_ @_).f (f:=298) (bK @_)) 20 (f7.mk (Fd (c:=C) (v:=.int (dz d9)) @_ @_ (l3 _ (WM ..)) @_ (f7.mk (pJ (a:=dz d9) (b:=8) ⋯ ⋯ (f7.mk (VP (a:=3) (n:=i) ⋯ ⋯ (f7.mk (pJ (a:=dz d9 / 8) (b:=3^i) (Nat.pos_iff_ne_zero.mp (Nat.pow_pos ⋯)) (Nat.lt_of_le_of_lt (Nat.pow_le_pow_right ⋯ (show i<=4 by omega)) (by decide)) (f7.mk (cY (CP (f8.mono ⋯)) ⟨rfl,rfl,_,rfl⟩)))))))))))))
   ·refine WA hh (vs:=[.bytes (aO d9 0),.bytes (aO d9 1),.bytes (aO d9 2),.bytes (aO d9 3),.bytes (aO d9 4)]) (.own (WM ..)) @_ @_ @_ (cz _ rfl _ _ rfl rfl ?_);refine aC (T.join (US d9 ((D,.list [.bytes (aO d9 0),.bytes (aO d9 1),.bytes (aO d9 2),.bytes (aO d9 3),.bytes (aO d9 4)])::(l++(C,jl (.int (dz d9)))::m0))) (cX rfl rfl rfl (ae hG 40 (f7.mk (gP (xs:=d9.map .int) .frz (by rw[WP];omega) (f7.mk (mo (a:=(d9.map AV.int).length) (b:=2) ⋯ (jX (fun c=>?_) fun c=>f7.mk (gP (xs:=d9.map .int) .frz (by rw[WP];omega) (jX (fun c2=>?_) fun c2=>?_))))))))) fun al bl=>?_)
    ·have e:=Ax (d9:=d9) (.inl c);exact f7.mk (gL (bD hG 5 (f7.mk (uq ⟨by decide,fun al J1=>f7.mk (gL (bD hG 5 (f7.mk (uq ⟨by decide,fun bl L6=>dv hh @_ @_ @_ (cz _ rfl _ _ rfl rfl (.mkE (fun O y=>y al bl) (by rw[e];rfl) @_))⟩))))⟩))))
    ·have e:=Ax (d9:=d9) (.inr c2);exact f7.mk (gL (bD hG 5 (f7.mk (uq ⟨by decide,fun al J1=>f7.mk (gL (bD hG 5 (f7.mk (uq ⟨by decide,fun bl L6=>dv hh @_ @_ @_ (cz _ rfl _ _ rfl rfl (.mkE (fun O y=>y al bl) (by rw[e];rfl) @_))⟩))))⟩))))
    ·have e:=HP c c2;exact f7.mk (ec rfl fun al J1=>f7.mk (ec rfl fun bl L6=>dv hh @_ @_ @_ (cz _ rfl _ _ rfl rfl (.mkE (fun O y=>y al bl) (by rw[e];rfl) @_))))
    ·have hN3:n7 N2 ((D,i9.list [.bytes (aO d9 0),.bytes (aO d9 1),.bytes (aO d9 2),.bytes (aO d9 3),.bytes (aO d9 4)])::(l++(C,jl (.int (dz d9)))::m0)):=fun p hp=>WO _ (Xx _ (WO _ (hN p hp)));generalize ((D,i9.list [.bytes (aO d9 0),.bytes (aO d9 1),.bytes (aO d9 2),.bytes (aO d9 3),.bytes (aO d9 4)])::(l++(C,jl (.int (dz d9)))::m0))=o8 at hN3 ⊢;refine aC (T.join (Fp d9 al bl) (pv (k:=5) AV.int (û d9 al bl) (f8.mono ⋯) (Uk (fun O O=>@_) (ae hG 5 (ae hG 5 (ae hG 5 ⟨d9.map .int,1,63,.frz,rfl,rfl,by decide,by rw[WP];exact XQ hs (by decide),?_⟩)))) ?_ (û.nil _ _ _) fun O=>@_) fun l hN5=>?_)
     ·rw[← List.map_drop,← List.map_take];exact gh (k:=5) fun it gl hI => .mk hI (.mk (fun O y=>y _ _ _ (Y_.start d9) hN3) @_)
     ·intro gl y ys a b l h hN4;refine⟨rfl,T.joinW (UR d9 al bl y a b l gl) ?_ fun Z_ o_ X1 X2=>⟨_,E8.drop2,.next (.mk (fun O y=>y _ _ _ h.step hN4) @_)⟩⟩;have h3:=Nat.mod_lt (y.natAbs / 3) (show 4 > 0 by decide);refine aC (aD hG 40 (f7.mk (gL (bD hG 20 ?_))));refine f7.mk (pI (f7.mk (pJ (a:=y.natAbs) (b:=12) ⋯ ⋯ (f7.mk (cY (CP (f8.mono ⋯)) ⟨(by decide:1<=XK),fun Z_ h1=>?_⟩)))));refine f7.mk (pI (f7.mk (pJ (a:=y.natAbs) (b:=3) ⋯ ⋯ (f7.mk (mo (a:=y.natAbs / 3) (b:=4) ⋯ ?_)))));refine f7.mk (VV (xs:=[.bytes (fF (y.natAbs / 12))]) (ys:=(dm y).map .bytes) (.own (WM ..)) ⋯ ⋯ (by simp only[WU,Xp];omega) Oi fun o_ hln2=>?_);have hl4:=oV y;have P7:=h.la;have η:=h.lb;refine aC (T.join (KW (iX d9 (.ref al) (.ref bl) (.int y) (.ref o_) .any .any .any .any .any) (fun o=>(o_,.list ((dm y).map .bytes))::(Z_,.list [.bytes (fF (y.natAbs / 12))])::(((bl,.list (b.map .bytes))::(al,o)::l)++gl)) ((dq a y).map .bytes)) (aD hG 40 (f7.mk (pI (f7.mk (mo (a:=y.natAbs) (b:=3) ⋯ (qL (fun c=>⟨bS (xs:=a.map .bytes) (by repeat constructor),f7.mk (FD (xs:=a.map .bytes) (ys:=(dm y).map .bytes) (.own (WM ..)) (by simp only[WP];omega) (by repeat constructor) (KW.mk (TI c) @_ rfl))⟩) fun c=>KW.mk (TK c) @_ rfl)))))) ?_);refine bv hG 40 (f7.mk (pI (f7.mk (mo (a:=y.natAbs) (b:=3) ⋯ (qL (fun c=>⟨bS (xs:=b.map .bytes) (by repeat constructor),f7.mk (FD (xs:=b.map .bytes) (ys:=(dm y).map .bytes) (.own (WM ..)) (by simp only[WP];omega) (by repeat constructor) ?_)⟩) fun c=>?_)))))
      ·exact .mkE (fun O y=>y Z_ o_ _ _) (by rw[TE (a:=b) c];rfl) @_
      ·exact .mkE (fun O y=>y Z_ o_ _ _) (by rw[TH (a:=b) c]) @_
     ·have ho:∀k,(aO d9 k).size<=4:=fun k=>wA _;refine T.freeze (a:=bl) (xs:=(dn d9).map .bytes) (g9:=iX d9 (.ref al) (.lst ((dn d9).map .bytes)) .any .any .any .any .any .any .any) (by repeat constructor) (T.freeze (a:=al) (xs:=(dC d9).map .bytes) (g9:=iX d9 (.lst ((dC d9).map .bytes)) (.lst ((dn d9).map .bytes)) .any .any .any .any .any .any .any) (by repeat constructor) (Ow f8 hN5 (yQ d9) (yL d9) (yP d9) (yK d9) (ho 0) (ho 1) (ho 2) (ho 3) (ho 4) hq1 hq2 fun st h=>⟨rfl,h⟩))
def eV(x:Str):Prop:=∀c∈x.cps,c<128
theorem ub(hx:eV x)(hy:eV y):eV (x++y):=fun c hc=>(Array.mem_append.mp hc).elim (hx c) (hy c)
theorem jm(n:Int):eV (WR (ZY n)):=fun c hc=>by
 by_cases h:c<128
 ·exact h
 ·exact absurd (by simpa using hc) (PyProof.Rows.int_text_free' c ⟨by omega,by omega⟩ n)
theorem eS(h:(x.cps.all fun c=>decide (c<128))=true):eV x:=fun c hc=>of_decide_eq_true (Array.all_eq_true_iff_forall_mem.mp h c hc)
theorem tY(a b:Int):eV (bx a b):=by
 have hc:=fun x y=>ub (ub (jm x) (eS (x:=WR ",") (by decide +kernel))) (jm y);unfold bx;split
 ·exact jm _
 ·split
  ·exact hc _ _
  ·exact hc _ _
theorem tZ(a b:Int):eV (bz a b):=by
 unfold bz;split
 ·exact jm _
 ·split
  ·exact jm _
  ·exact ub (ub (jm _) (eS (by decide +kernel))) (jm _)
noncomputable def AS(c:Nat):Nat:=if c<128 then c else 1383-(c-0xDC00)
noncomputable def RS(x:Str):Str:=⟨x.cps.map AS⟩
theorem UO(x y:Str):RS (x++y)=RS x++RS y:=congrArg Str.mk (Array.map_append ..)
theorem hm{x' y':Str}(h:RS x=x')(h':RS y=y'):RS (x++y)=x'++y':=h▸h'▸UO x y
theorem mh(h:eV x):RS x=x:=congrArg Str.mk ((Array.map_congr_left fun c hc=>if_pos (h c hc)).trans (Array.map_id' ..))
theorem lm(h:(x.cps.all fun c=>decide (c<128))=true):RS x=x:=mh (eS h)
theorem Fk(x:Str):(RS x).length=x.length:=Array.size_map ..
noncomputable def dO(n:Nat):Nat:=if n<128 then n else 0xDC00+n
theorem Ec{c:Nat}(h:c<128∨(0xDC80<=c/\c<=0xDCFF)):∃n,n<256/\c=dO n:=h.elim (fun h=>⟨c,Nat.lt_trans h (by decide),(if_pos h).symm⟩) fun h =>
 ak (Nat.le.dest h.1) fun d e=>by
  subst e;have q:d<128:=Nat.lt_of_add_lt_add_left (n:=0xDC80) (Nat.lt_succ_of_le h.2);exact⟨128+d,Nat.add_lt_add_left q 128,((if_neg (Nat.not_lt.mpr (Nat.le_add_right ..))).trans (Nat.add_assoc 0xDC00 128 d).symm).symm⟩
theorem iw:∀n,n<256->AS (dO n)=dI n/\(fo (dI n)).toNat.toUInt8=je (dO n)/\(dI n<128∨(1128<=dI n/\dI n<=1255))/\(dO n<128∨(0xDC80<=dO n/\dO n<=0xDCFF))/\(je (dO n)).toNat=n:=by decide +kernel
theorem yD(b:Array UInt8):de (ar b):=fun c hc=>ad (Array.mem_map.mp hc) fun d O e=>e▸(iw _ d.toNat_lt).2.2.2.1
theorem gN(b:Array UInt8):RS (ar b)=bg b :=
 congrArg Str.mk (Array.map_map.trans (Array.map_congr_left fun d O=>(iw _ d.toNat_lt).1))
theorem yN(h:de x):gH (RS x)=ck x:=by
 unfold gH ck byteArr;apply Array.toList_inj.mp
 simp only[RS,Array.toList_map,YF,List.toList_toArray];exact Zf fun c hc=>ad (Ec (h c (Array.mem_toList_iff.mp hc))) fun n hn e=>e▸(congrArg (fun m=>(fo m).toNat.toUInt8) (iw n hn).1).trans (iw n hn).2.1
theorem TA(h:de x):uL (RS x):=fun c hc=>ad (Array.mem_map.mp hc) fun d hd e=>ad (Ec (h d hd)) fun n hn q=>e▸q▸(iw n hn).1.symm▸(iw n hn).2.2.1
theorem tQ(b:Array UInt8):ck (ar b)=b:=Array.map_map.trans ((Array.map_congr_left fun d O=>UInt8.toNat_inj.mp (iw _ d.toNat_lt).2.2.2.2).trans (Array.map_id' ..))
theorem yE(x y:Array UInt8)(h:ar x=ar y):x=y:=tQ x▸tQ y▸congrArg ck h
theorem zY(x y:Array UInt8)(h:bg x=bg y):x=y:=by
 rw[← gN,← gN] at h;rw[← tQ x,← tQ y,← yN (yD x),← yN (yD y),h]
theorem Hp(b:Array UInt8):(bg b).length=b.size:=Array.size_map ..
theorem uu(d:Str):RS (cW d)=cW (RS d):=by
 unfold cW;rw[Fk];split
 ·exact lm (by decide +kernel)
 ·exact hm (lm (by decide +kernel)) rfl
theorem UE(a:List Str)(i j:Nat):(bw a i j).map RS=bw (a.map RS) i j:=(List.map_take ..).trans (congrArg _ (List.map_drop ..))
theorem pD{p:Str}(hp:eV p)(a:List Str)(i j:Nat):((bw a i j).map (p ++ ·)).map RS=(bw (a.map RS) i j).map (p ++ ·) :=
 UE a i j▸YF.trans ((Zf fun x O=>hm (mh hp) rfl).trans YF.symm)
theorem jo{c:Prop}[Decidable c]{xs ys us vs:List Str}(h:xs.map RS=ys)(h':us.map RS=vs):(if c then xs else us).map RS=if c then ys else vs:=by
 split
 ·exact h
 ·exact h'
theorem fZ{xs ys us vs:List Str}(h:xs.map RS=ys)(h':us.map RS=vs):(xs++us).map RS=ys++vs:=h▸h'▸Xr ..
theorem gO{us vs:List Str}(h:RS x=y)(h':us.map RS=vs):(x::us).map RS=y::vs:=h▸h'▸rfl
theorem UH(a b:List Str)(o:Op):(dN a b o).map RS=dN (a.map RS) (b.map RS) o :=
 jo (pD (eS (by decide +kernel)) ..) (fZ (jo (pD (eS (by decide +kernel)) ..) rfl) (jo (pD (eS (by decide +kernel)) ..) rfl))
theorem ze{f g:Op->List Str}(h:∀o,(g o).map RS=f o)(os:List Op):(os.flatMap g).map RS=os.flatMap f:=by
 induction os with
 |nil=>rfl
 |cons o os ih=>exact fZ (h o) ih
theorem UK(ff tf fd td lt:Str):(yk ff tf fd td lt).map RS=yk (RS ff) (RS tf) (RS fd) (RS td) (RS lt) :=
 gO (hm (hm (hm (lm (by decide +kernel)) rfl) (uu _)) rfl) (gO (hm (hm (hm (lm (by decide +kernel)) rfl) (uu _)) rfl) rfl)
theorem UM(a b:List Str)(lt:Str)(g:List Op):(tE a b lt g).map RS=tE (a.map RS) (b.map RS) (RS lt) g :=
 gO (hm (hm (hm (hm (hm (lm (by decide +kernel)) (mh (tY _ _))) (lm (by decide +kernel))) (mh (tY _ _))) (lm (by decide +kernel))) rfl) (ze (UH a b) g)
theorem UF(a b:List Str)(ff tf fd td lt:Str)(gs:List (List Op)):∀s:Bool,ek (a.map RS) (b.map RS) (RS ff) (RS tf) (RS fd) (RS td) (RS lt) s gs=(ek a b ff tf fd td lt s gs).map RS:=by
 induction gs with
 |nil=>exact fun s=>by cases s <;> rfl
 |cons g gs ih =>
  have t:=fZ (UM a b lt g) (ih true).symm;intro s;cases s with
  |false=>exact(fZ (UK ff tf fd td lt) t).symm
  |true=>exact(fZ (xs:=[]) rfl t).symm
theorem ua(t:Str):eV (eH t):=by
 unfold eH;split
 ·exact eS (by decide +kernel)
 ·split
  ·exact eS (by decide +kernel)
  ·split
   ·exact eS (by decide +kernel)
   ·exact eS (by decide +kernel)
theorem UJ(a:List Str)(o:Op):(dR a o).map RS=dR (a.map RS) o:=jo rfl (pD (ua _) ..)
theorem UI(a:List Str)(o:Op):(dQ a o).map RS=dQ (a.map RS) o:=jo rfl (pD (ua _) ..)
theorem UL(ff tf fd td lt:Str):(yl ff tf fd td lt).map RS=yl (RS ff) (RS tf) (RS fd) (RS td) (RS lt) :=
 gO (hm (hm (hm (lm (by decide +kernel)) rfl) (uu _)) rfl) (gO (hm (hm (hm (lm (by decide +kernel)) rfl) (uu _)) rfl) rfl)
theorem UN(a b:List Str)(lt:Str)(g:List Op):(lS a b lt g).map RS=lS (a.map RS) (b.map RS) (RS lt) g :=
 gO (hm (lm (by decide +kernel)) rfl) (gO (hm (hm (hm (lm (by decide +kernel)) (mh (tZ _ _))) (lm (by decide +kernel))) rfl) (fZ (jo (ze (UJ a) g) rfl)
  (gO (hm (hm (hm (lm (by decide +kernel)) (mh (tZ _ _))) (lm (by decide +kernel))) rfl) (jo (ze (UI b) g) rfl))))
theorem UG(a b:List Str)(ff tf fd td lt:Str)(gs:List (List Op)):∀s:Bool,dh (a.map RS) (b.map RS) (RS ff) (RS tf) (RS fd) (RS td) (RS lt) s gs=(dh a b ff tf fd td lt s gs).map RS:=by
 induction gs with
 |nil=>exact fun s=>by cases s <;> rfl
 |cons g gs ih =>
  have t:=fZ (UN a b lt g) (ih true).symm;intro s;cases s with
  |false=>exact(fZ (UL ff tf fd td lt) t).symm
  |true=>exact(fZ (xs:=[]) rfl t).symm
theorem RB(hx:de x)(hy:de y):de (x++y):=fun c hc=>(Array.mem_append.mp hc).elim (hx c) (hy c)
theorem jd(h:eV x):de x:=fun c hc => .inl (h c hc)
def m4(k:Nat)(x:Str):Prop:=de x/\x.length<=k
theorem m4.app{m:Nat}(hx:m4 k x)(hy:m4 m y):m4 (k+m) (x++y):=⟨RB hx.1 hy.1,(Str.length_append x y).symm▸Nat.add_le_add hx.2 hy.2⟩
theorem m4.mono{m:Nat}(hx:m4 k x)(h:k<=m):m4 m x:=⟨hx.1,XQ hx.2 h⟩
theorem cV(h:(x.cps.all fun c=>decide (c<128))=true)(hk:decide (x.length<=20)=true):m4 20 x:=⟨jd (eS h),of_decide_eq_true hk⟩
theorem tI{d:Str}(h:m4 4 d):m4 24 (cW d):=by
 unfold cW;split
 ·exact(cV (by decide +kernel) (by decide +kernel)).mono (Yo rfl)
 ·exact(cV (by decide +kernel) (by decide +kernel)).app h
theorem Ni{a:List Str}(h:x∈bw a i j):x∈a:=List.mem_of_mem_drop (List.mem_of_mem_take h)
theorem Ik(a:List Str)(i j:Nat):(bw a i j).length<=a.length:=XQ (List.length_take_le' ..) (XQ (Nat.le_of_eq (List.length_drop ..)) (Nat.sub_le ..))
structure Rows (n:Nat) (xs:List Str):Prop where
 fine:∀r∈xs,m4 400 r
 len:xs.length<=n
theorem Rows.nil:Rows n []:=⟨cw,Xk _⟩
theorem Rows.mono{m:Nat}{xs:List Str}(h:Rows n xs)(k:n<=m):Rows m xs:=⟨h.1,XQ h.2 k⟩
theorem Rows.app{m:Nat}{xs ys:List Str}(h:Rows n xs)(h':Rows m ys):Rows (n+m) (xs++ys):=⟨fun r hr=>(XR.mp hr).elim (h.1 r) (h'.1 r),(WV (as:=xs) (bs:=ys)).symm▸Nat.add_le_add h.2 h'.2⟩
theorem Rows.cons{xs:List Str}(hx:m4 k x)(h:Rows n xs)(hk:k<=400:=by exact Yo rfl):Rows (n+1) (x::xs):=⟨fun r hr=>(WT.mp hr).elim (fun e=>e▸hx.mono hk) (h.1 r),Nat.succ_le_succ h.2⟩
theorem Rows.cond{c:Prop}[Decidable c]{xs ys:List Str}(h:Rows n xs)(h':Rows n ys):Rows n (if c then xs else ys):=by
 split
 ·exact h
 ·exact h'
theorem Rows.pre{p:Str}(hp:m4 20 p){a:List Str}(ha:∀x∈a,m4 4 x):Rows a.length ((bw a i j).map (p ++ ·)) :=
 ⟨fun r hr=>ad (Xu.mp hr) fun x hx e=>e▸(hp.app (ha x (Ni hx))).mono (Yo rfl),(WP (as:=bw a i j) _).symm▸Ik ..⟩
theorem Rows.flat{f:Op->List Str}{M:Nat}(h:∀o,Rows M (f o))(os:List Op):Rows (M * os.length) (os.flatMap f):=by
 induction os with
 |nil=>exact .nil
 |cons o os ih=>exact((h o).app ih).mono (Nat.le_of_eq (Nat.add_comm ..))
theorem Mt{a b:List Str}(ha:∀x∈a,m4 4 x)(hb:∀x∈b,m4 4 x)(o:Op):Rows (a.length+b.length) (dN a b o) :=
 .cond ((Rows.pre (cV (by decide +kernel) (by decide +kernel)) ha).mono (Nat.le_add_right ..))
  (.app (.cond (.pre (cV (by decide +kernel) (by decide +kernel)) ha) .nil) (.cond (.pre (cV (by decide +kernel) (by decide +kernel)) hb) .nil))
theorem ME{a:List Str}(ha:∀x∈a,m4 4 x)(o:Op):Rows a.length (dR a o):=.cond .nil (.pre ⟨jd (ua _),XQ (Nat.le_of_eq (qK _)) (by decide)⟩ ha)
theorem MB{b:List Str}(hb:∀x∈b,m4 4 x)(o:Op):Rows b.length (dQ b o):=.cond .nil (.pre ⟨jd (ua _),XQ (Nat.le_of_eq (qK _)) (by decide)⟩ hb)
noncomputable def fD(gs:List (List Op)):Nat:=(gs.map ZP).sum
theorem Th{g s l:Nat}(h:s<=1+2 * l):g+1+s<=g+2 * (l+1):=XQ (Nat.le_of_eq (Nat.add_assoc g 1 s)) (Nat.add_le_add_left (XQ (Nat.add_le_add_left h 1) (Nat.le_of_eq (by rw[← Nat.add_assoc,Nat.add_comm];rfl))) g)
theorem Tg{g s l:Nat}(h:s<=g+1+2 * l):s<=g+2 * (l+1):=XQ h (XQ (Nat.le_of_eq (Nat.add_assoc g 1 _)) (Nat.add_le_add_left (Nat.le_succ_of_le (Nat.le_of_eq (Nat.add_comm 1 (2 * l)))) g))
theorem PH(n:Nat)(codes:List Op):∀group,(cQ n group codes).length<=codes.length+1/\fD (cQ n group codes)<=group.length+2 * codes.length:=by
 induction codes with
 |nil=>exact fun group=>lT (P:=fun l=>l.length<=1/\fD l<=group.length) (fun O=>⟨Xk _,Xk _⟩) (fun O=>⟨Xk _,Xk _⟩) fun O O=>⟨Xy _,Xy _⟩
 |cons o os ih =>
  intro group;have hl:∀x:Op,(group++[x]).length=group.length+1:=fun x=>WV;exact yo (P:=fun l=>l.length<=os.length+1+1/\fD l<=group.length+2 * (os.length+1)) (fun O=>⟨Nat.succ_le_succ (ih _).1,XQ (Nat.le_of_eq (congrArg (· + _) (hl _))) (Th (ih _).2)⟩) fun O=>⟨Nat.le_succ_of_le (ih _).1,Tg ((hl o)▸(ih _).2)⟩
theorem Py(n:Nat)(codes:List Op):(bL n codes).length<=codes.length+2/\fD (bL n codes)<=2 * (codes.length+1) :=
 have h:=PH n (fB n codes) []
 ⟨XQ h.1 (Nat.succ_le_succ (vy codes)),XQ h.2 (XQ (Nat.le_of_eq (Nat.zero_add _)) (Nat.mul_le_mul_left 2 (vy codes)))⟩
section
variable{a b:List Str}{g:List Op}(h:p6 a.length b.length g)(ha:a.length<10^5)(hb:b.length<10^5)
include h ha hb
theorem Dm:(0:Int)<=(aA g).i1/\((aA g).i1:Int)<=(ay g).i2/\((ay g).i2:Int)<10^9/\(0:Int)<=(aA g).j1/\((aA g).j1:Int)<=(ay g).j2/\((ay g).j2:Int)<10^9 :=
 ⟨Int.natCast_nonneg _,Int.ofNat_le.mpr h.ii,Int.ofNat_lt.mpr (Nat.lt_of_le_of_lt h.i2.1 (Nat.lt_trans ha (Yo rfl))),Int.natCast_nonneg _,Int.ofNat_le.mpr h.jj,Int.ofNat_lt.mpr (Nat.lt_of_le_of_lt h.i2.2 (Nat.lt_trans hb (Yo rfl)))⟩
theorem QJ:m4 100 (bx (aA g).i1 (ay g).i2)/\m4 100 (bx (aA g).j1 (ay g).j2) :=
 zC (Dm h ha hb) fun a1 a2 a3 b1 b2 b3=>⟨⟨jd (tY _ _),YO (qt a1 a2 a3)⟩,⟨jd (tY _ _),YO (qt b1 b2 b3)⟩⟩
theorem QK:m4 100 (bz (aA g).i1 (ay g).i2)/\m4 100 (bz (aA g).j1 (ay g).j2) :=
 zC (Dm h ha hb) fun a1 a2 a3 b1 b2 b3=>⟨⟨jd (tZ _ _),YO (qw a1 a2 a3)⟩,⟨jd (tZ _ _),YO (qw b1 b2 b3)⟩⟩
end
theorem Td{M g l s:Nat}:3+M * g+(3 * l+M * s)<=3 * (l+1)+M * (g+s):=Nat.le_of_eq (by rw[Nat.add_add_add_comm,Nat.mul_add M,Nat.add_comm 3 (3 * l)];rfl)
theorem AO{f0:Bool->List (List Op)->List Str}{grp:List Op->List Str}{ν:List Str}{M:Nat}(e0:∀s,f0 s []=[])(e1:∀s g gs,f0 s (g::gs)=(if s=true then [] else ν)++(grp g++f0 true gs))(hh:Rows 2 ν)
  {gs:List (List Op)} (hg:∀g∈gs,Rows (3+M * g.length) (grp g)):Rows (2+(3 * gs.length+M * fD gs)) (f0 false gs):=by
 have key:Rows (3 * gs.length+M * fD gs) (f0 true gs):=by
  induction gs with
  |nil=>exact(e0 true).symm▸.nil
  |cons g gs ih=>exact(e1 true g gs).symm▸((hg g (WM ..)).app (ih fun g h=>hg g (WO _ h))).mono Td
 cases gs with
 |nil=>exact(e0 false).symm▸.nil
 |cons g gs=>exact(e1 false g gs).symm▸hh.app (show Rows _ ([]++(grp g++f0 true gs)) from e1 true g gs▸key)
section
variable{a b:List Str}{ff tf fd td lt:Str}(ha:∀x∈a,m4 4 x)(hb:∀x∈b,m4 4 x)(μ:m4 4 ff)(ε:m4 4 tf)(x_:m4 4 fd)(q_:m4 4 td)(l8:m4 4 lt)(J1:a.length<10^5)(L6:b.length<10^5)
include ha hb μ ε x_ q_ l8 J1 L6
theorem Jg(gs:List (List Op))(hg:∀g∈gs,p6 a.length b.length g):Rows (2+(3 * gs.length+(a.length+b.length) * fD gs)) (ek a b ff tf fd td lt false gs) :=
 AO (fun s=>by cases s <;> rfl) (fun O O O=>rfl) (.cons ((((cV (by decide +kernel) (by decide +kernel)).app μ).app (tI x_)).app l8) (.cons ((((cV (by decide +kernel) (by decide +kernel)).app ε).app (tI q_)).app l8) (.nil (n:=0)))) fun g h =>
  have r:=QJ (hg g h) J1 L6
  (Rows.cons ((((((cV (by decide +kernel) (by decide +kernel)).app r.1).app (cV (by decide +kernel) (by decide +kernel))).app r.2).app (cV (by decide +kernel) (by decide +kernel))).app l8) (.flat (Mt ha hb) g)).mono (by rw[Nat.add_comm];exact Nat.add_le_add_right (by decide) _)
theorem Ji(gs:List (List Op))(hg:∀g∈gs,p6 a.length b.length g):Rows (2+(3 * gs.length+(a.length+b.length) * fD gs)) (dh a b ff tf fd td lt false gs) :=
 AO (fun s=>by cases s <;> rfl) (fun O O O=>rfl) (.cons ((((cV (by decide +kernel) (by decide +kernel)).app μ).app (tI x_)).app l8) (.cons ((((cV (by decide +kernel) (by decide +kernel)).app ε).app (tI q_)).app l8) (.nil (n:=0)))) fun g h =>
  have r:=QK (hg g h) J1 L6
  (Rows.cons ((cV (by decide +kernel) (by decide +kernel)).app l8) (.cons ((((cV (by decide +kernel) (by decide +kernel)).app r.1).app (cV (by decide +kernel) (by decide +kernel))).app l8)
   (.app (.cond (.flat (ME ha) g) .nil) (.cons ((((cV (by decide +kernel) (by decide +kernel)).app r.2).app (cV (by decide +kernel) (by decide +kernel))).app l8) (.cond (.flat (MB hb) g) .nil))))).mono (by rw[Nat.add_mul];omega)
end
theorem Tj{m c l:Nat}(h1:m<=n+l)(h2:n<=c+1):m<=c+(l+1):=XQ h1 (XQ (Nat.add_le_add_right h2 l) (Nat.le_of_eq (Nat.add_right_comm c 1 l)))
theorem Si{f:List (Array UInt8)->Int->List (Array UInt8)}(hf:∀a x,f a x=a∨f a x=a++dm x)(xs:List Int):∀a:List (Array UInt8),aG (xs.foldl f a) ((xs.foldl f a).length-1)<=aG a (a.length-1)+xs.length:=by
 induction xs with
 |nil=>exact fun O=>Xy _
 |cons x xs ih=>exact fun a=>Tj (ih (f a x)) ((hf a x).elim (fun e=>e.symm▸Nat.le_succ _) fun e=>e.symm▸Sg a (fF (x.natAbs / 12)) (x.natAbs / 3 % 4+1))
theorem Sf{a:List (Array UInt8)}(h:a.length<=1):aG a (a.length-1)=0:=by
 rw[Nat.sub_eq_zero_of_le h];rfl
theorem Ev{f:List (Array UInt8)->Int->List (Array UInt8)}(hf:∀a x,f a x=a∨f a x=a++dm x)(d9:List Int){a:List (Array UInt8)}(h:a.length<=1):aG ((restOf d9).foldl f a) (((restOf d9).foldl f a).length-1)<=62 :=
 XQ (Si hf (restOf d9) a) ((Sf h).symm▸(Nat.zero_add _).symm▸qr d9)
theorem CY{c:Prop}[Decidable c]{x y:α}:(if c then x else y)=y∨(if c then x else y)=x:=by
 split
 ·exact .inr rfl
 ·exact .inl rfl
theorem Sn(d9:List Int):aG (dC d9) ((dC d9).length-1)<=62 :=
 Ev (f:=dq) (fun a x=>CY) d9 (by unfold cc;split <;> decide)
theorem Sj(d9:List Int):aG (dn d9) ((dn d9).length-1)<=62 :=
 Ev (f:=dB) (fun a x=>CY) d9 (by unfold cc;split <;> decide)
theorem AU{f:Array UInt8->Str}(hf:∀x y,f x=f y->x=y){a b:List (Array UInt8)}(h:aG a (a.length-1)+aG b (b.length-1)<126) :
  (aW (aN (a.map f) (b.map f)) (0,(a.map f).length,0,(b.map f).length)).length<64 :=
 NA _ _ (by rw[Eu hf,Eu hf,WP,WP];exact h)
theorem gF{x:Array UInt8}(h:x.size<=4):m4 4 (ar x):=⟨yD x,RQ x▸h⟩
theorem CC(a:List (Array UInt8)):a.map bg=(a.map ar).map RS:=by
 rw[YF];exact Zf fun x O=>(gN x).symm
noncomputable abbrev pe(a b:List (Array UInt8))(n:Nat):List (List Op):=bL n (bN (aP (aN (a.map ar) (b.map ar)) (a.map ar).length (b.map ar).length))
theorem Pu(a b:List (Array UInt8))(n:Nat):bL n (bN (aP (aN (a.map bg) (b.map bg)) (a.map bg).length (b.map bg).length))=pe a b n:=by
 have e:aN (a.map bg) (b.map bg)=aN (a.map ar) (b.map ar):=QF zY yE a b;rw[e,WP,WP,pe,WP,WP]
theorem NL{a b:List (Array UInt8)}:a.map ar=b.map ar↔a=b:=by
 constructor
 ·intro h;refine List.ext_getElem? fun i=>?_
  have:=congrArg (fun l=>l[i]?) h;simp only[XM] at this;exact(th yE _ _).mp this
 ·rintro rfl;rfl
theorem Pw(a b:List (Array UInt8))(n:Nat):pe a b n=[]↔a=b:=(Pz (a.map ar) (b.map ar) n).trans NL
theorem Jh(a b:List Str)(ff tf fd td lt:Str)(gs:List (List Op)):ek a b ff tf fd td lt false gs=[]↔gs=[]:=by
 cases gs with
 |nil=>exact⟨fun O=>rfl,fun O=>rfl⟩
 |cons g gs=>exact⟨nofun,nofun⟩
theorem Jj(a b:List Str)(ff tf fd td lt:Str)(gs:List (List Op)):dh a b ff tf fd td lt false gs=[]↔gs=[]:=by
 cases gs with
 |nil=>exact⟨fun O=>rfl,fun O=>rfl⟩
 |cons g gs=>exact⟨nofun,nofun⟩
section
variable{N:aa}{a b:List (Array UInt8)}{o0 o1 o2 o3 o4:Array UInt8}
theorem Te{la lb l s o t:Nat}(h1:la<=249)(h2:lb<=249)(h3:l<=o+2)(h4:s<=2 * (o+1))(h5:o<=2 * t)(h6:t<=la+2):2+(3 * l+(la+lb) * s)<=2^20 :=
 have ho:o<=502:=XQ h5 (Nat.mul_le_mul_left 2 (XQ h6 (Nat.add_le_add_right h1 2)))
 XQ (Nat.add_le_add_left (Nat.add_le_add (Nat.mul_le_mul_left 3 (XQ h3 (Nat.add_le_add_right ho 2))) (Nat.mul_le_mul (Nat.add_le_add h1 h2) (XQ h4 (Nat.mul_le_mul_left 2 (Nat.succ_le_succ ho))))) 2) (by decide)
theorem Tz{R:List Str}(h:∀r∈R,m4 400 r):(∀r∈R,de r/\r.length<2^20)/\(∀r∈R.map RS,uL r/\r.length<2^20)/\(R.map RS).map gH=R.map ck :=
 have l:=fun r hr=>Nat.lt_of_le_of_lt (h r hr).2 (Yo rfl:401<=2^20)
 ⟨fun r hr=>⟨(h r hr).1,l r hr⟩,List.forall_mem_map.mpr fun x hx=>⟨TA (h x hx).1,(Fk x).symm▸l x hx⟩,YF.trans (Zf fun x hx=>yN (h x hx).1)⟩
theorem CN(h:x.length<=4):x.length<10^4:=Nat.lt_of_le_of_lt h (Yo rfl)
theorem Ep{f:XC}{f0:List Str->List Str->Str->Str->Str->Str->Str->Bool->List (List Op)->List Str}(hk:dE af w (aj w) (.ref f))
  (call:∀(A':Xg) (led':aa),g7 A' 200->∀(a b:List Str) (ff tf fd td lt:Str),a.length<10^5->b.length<4000->ff.length<10^4->tf.length<10^4->fd.length<10^4->td.length<10^4->lt.length<10^4 ->
   (∀x∈a,x.length<10^4)->(∀x∈b,x.length<10^4)->(aW (aN a b) (0,a.length,0,b.length)).length<64 ->
   TC af w A' (aj w) (.ref f) [.lst (a.map .str),.lst (b.map .str),.str ff,.str tf,.str fd,.str td,.int n,.str lt] [] led' (n8 af w (aj w) N 153 ((f0 a b ff tf fd td lt false (bL n (bN (aP (aN a b) a.length b.length)))).map .str) led'))
  (ok:∀ {a b:List Str} {ff tf fd td lt:Str},(∀x∈a,m4 4 x)->(∀x∈b,m4 4 x)->m4 4 ff->m4 4 tf->m4 4 fd->m4 4 td->m4 4 lt->a.length<10^5->b.length<10^5->∀gs,(∀g∈gs,p6 a.length b.length g) ->
   Rows (2+(3 * gs.length+(a.length+b.length) * fD gs)) (f0 a b ff tf fd td lt false gs))
  (rs:∀(a b:List Str) (ff tf fd td lt:Str) (gs:List (List Op)) (s:Bool),f0 (a.map RS) (b.map RS) (RS ff) (RS tf) (RS fd) (RS td) (RS lt) s gs=(f0 a b ff tf fd td lt s gs).map RS)
  (nl:∀(a b:List Str) (ff tf fd td lt:Str) (gs:List (List Op)),f0 a b ff tf fd td lt false gs=[]↔gs=[])
  (J1:a.length<=249) (L6:b.length<=249) (has:∀y∈a,y.size<=4) (G1:∀y∈b,y.size<=4) (h0:o0.size<=4) (h1:o1.size<=4) (h2:o2.size<=4) (h3:o3.size<=4) (h4:o4.size<=4)
  (hc:aG a (a.length-1)+aG b (b.length-1)<126):mt w N a b o0 o1 o2 o3 o4 n (.ref f):=by
 have l1:∀f:Array UInt8->Str,(a.map f).length<=249:=fun f=>(WP (as:=a) f).symm▸J1;have l2:∀f:Array UInt8->Str,(b.map f).length<=249:=fun f=>(WP (as:=b) f).symm▸L6;have la:=fun f=>Nat.lt_of_le_of_lt (l1 f) (Yo rfl:250<=10^5);have lb:=fun f=>Nat.lt_of_le_of_lt (l2 f) (Yo rfl:250<=10^5);have lc:=fun f=>Nat.lt_of_le_of_lt (l2 f) (Yo rfl:250<=4000);have q:=fun{x:Array UInt8} (h:x.size<=4)=>CN (gF h).2;have q':=fun{x:Array UInt8} (h:x.size<=4)=>CN (x:=bg x) ((Hp x).symm▸h);have r:=ok (List.forall_mem_map.mpr fun x hx=>gF (has x hx)) (List.forall_mem_map.mpr fun x hx=>gF (G1 x hx)) (gF h0) (gF h1) (gF h2) (gF h3) (gF h4) (la ar) (lb ar) (pe a b n) (ym (a.map ar) (b.map ar) n (la ar));have ag:=Tz r.1;have gs:=Py n (bN (aP (aN (a.map ar) (b.map ar)) (a.map ar).length (b.map ar).length));refine UZ f _ _ rfl hk (fun A' f8 led' O=>call A' led' f8 _ _ _ _ _ _ _ (la ar) (lc ar) (q h0) (q h1) (q h2) (q h3) (q h4) (List.forall_mem_map.mpr fun x hx=>q (has x hx)) (List.forall_mem_map.mpr fun x hx=>q (G1 x hx)) (AU yE hc))
  (fun A' f8 led' O=>?_) ag.1 ag.2.1 ag.2.2 ((nl ..).trans (Pw a b n)) (XQ r.2 (Te (l1 ar) (l2 ar) gs.1 gs.2 (wy _) (yI (fU (aB (a.map ar) (b.map ar)) (aQ (a.map ar) (b.map ar))) _ _)))
 have e:=rs (a.map ar) (b.map ar) (ar o0) (ar o1) (ar o2) (ar o3) (ar o4) (pe a b n) false;rw[← CC,← CC,gN,gN,gN,gN,gN] at e;exact e▸Pu a b n▸call A' led' f8 _ _ _ _ _ _ _ (la bg) (lc bg) (q' h0) (q' h1) (q' h2) (q' h3) (q' h4) (List.forall_mem_map.mpr fun x hx=>q' (has x hx)) (List.forall_mem_map.mpr fun x hx=>q' (G1 x hx)) (AU zY hc)
end
theorem Ov{led:aa}(hA:g7 A 400)(hs:d9.length<=63) :
  TC af w A (aj w) (.ref 313) [.lst (d9.map .int)] [] ((271,bM eD)::(286,bM dL)::led) fun v led'=>v=.bool true/\n7 [(271,bM eD),(286,bM dL)] led' :=
 have ho:∀k,(aO d9 k).size<=4:=fun k=>wA _;have hn:sY d9<10^5:=Nat.lt_of_lt_of_le (Nat.mod_lt _ (by decide)) (by decide);have hc:aG (dC d9) ((dC d9).length-1)+aG (dn d9) ((dn d9).length-1)<126:=Nat.lt_of_le_of_lt (Nat.add_le_add (Sn d9) (Sj d9)) (by decide)
 Ou hA hs (Ep (f0:=ek) (CU (DG _)) (fun O O h O O O O O O O=>GU h hn) Jg UF Jh (yQ _) (yL _) (yP _) (yK _) (ho _) (ho _) (ho _) (ho _) (ho _) hc)
  (Ep (f0:=dh) (CU (DF _)) (fun O O h O O O O O O O=>RV h (WM ..) hn) Ji UG Jj (yQ _) (yL _) (yP _) (yK _) (ho _) (ho _) (ho _) (ho _) (ho _) hc)
theorem NV(ts:List XC)(K:Frag)(a:XC)(o:Obj):(K.filter fun p => !ts.contains p.1).lookup a=some o->K.lookup a=some o/\ts.contains a=false:=by
 induction K with
 |nil=>exact nofun
 |cons p K ih =>
  intro h;rw[Xl];by_cases hp:ts.contains p.1=true
  ·rw[List.filter_cons_of_neg (by simpa using hp)] at h;have r:=ih h;have t0:(a==p.1)=false:=beq_eq_false_iff_ne.mpr fun e=>XL (r.2.symm.trans (e▸hp));exact t0.symm▸r
  ·rw[List.filter_cons_of_pos (by simpa using hp),Xl] at h;cases q:a==p.1 with
   |true =>
    rw[q] at h;exact⟨h,beq_iff_eq.mp q▸Bool.eq_false_iff.mpr hp⟩
   |false =>
    rw[q] at h;exact ih h
theorem OT{R:WRecords}{xs:List WData}:WShape.hasItems R xs .int=true->∃ns:List Int,xs=ns.map .int:=by
 induction xs with
 |nil=>exact fun O=>⟨[],rfl⟩
 |cons x xs ih =>
  intro h;rw[WShape.hasItems,Yl] at h;exact ak (hasW_int h.1) fun i e=>ak (ih h.2) fun ns e'=>⟨i::ns,e▸e'▸rfl⟩
theorem IV{l:OpenLaw}(hm:l.most=some 63)(hb:l.bound=none){args:List WData}(h:l.row.toRowW.claim.pre args=true):∃d9:List Int,args=[.list (d9.map .int)]/\d9.length<=63:=by
 refine av (pre_splitW h) fun h1 h2=>?_;refine br (hasAllW_cons (e:=.list .int) (es:=[]) h1) fun d r O3 h3 h4=>?_;subst O3;obtain rfl:=hasAllW_nil h4;refine ad (hasW_list h3) fun xs O2 h5=>?_;subst O2;refine ak (OT h5) fun ns O2=>?_;subst O2;refine bb ns rfl ?_;have h2:WTm.holds l.row.toRowW.records l.pre {args:=[.list (ns.map .int)]}=true:=h2;unfold OpenLaw.pre at h2;rw[hm,hb] at h2;by_cases q:ns.length<=63
 ·exact q
 ·exfalso
  have e0:(WTm.len (.arg 0)).value l.row.toRowW.records {args:=[.list (ns.map .int)]}=some (.int ns.length):=by simp[WTm.value]
  have e1:=w_lt (a:=.lit (.int (63:Nat))) (b:=.len (.arg 0)) (R:=l.row.toRowW.records) (e:={ args:=[.list (ns.map .int)]}) rfl e0;rw[decide_eq_true ⋯] at e1;have e2:(WTm.not (.lt (.lit (.int (63:Nat))) (.len (.arg 0)))).value l.row.toRowW.records {args:=[.list (ns.map .int)]}=some (.bool false):=by rw[WTm.value,e1];rfl
  unfold WTm.holds at h2;rw[WTm.value,e2] at h2;cases h2
theorem GQ{P:WQ}{h:Heap}{ns:List Int}:∀ {vs:List Value},WellAll P h vs (ns.map .int)->Vals Z (ns.map .int) vs:=by
 induction ns with
 |nil=>exact fun w=>by cases w;exact .nil
 |cons n ns ih =>
  intro vs w;cases w with
  |cons w1 w2=>cases w1;exact .cons (.int _ _) (ih w2)
theorem CZ{K:Frag}{h:Heap}{c P:XC}(hK:K.In h)(h1:K.lookup c=some o)(h2:o.cls=.type "code")(h3:o.data=.fields (aL o))(h4:(aL o)[11]?=some (.ref P)):isCodeTable h P:=⟨c,o,_,hK _ _ h1,h2,h3,h4⟩
theorem Al{h h':Heap}{b:XC}{o':Obj}{q:Str}(ho:o=⟨.none,none,.fields ⟨[]⟩,⟨[]⟩⟩)(hT:isCodeTable h b)(hg:h'.get? b=some o')(hp:ql q Z o'):asItWas h h' b o:=by
 obtain⟨⟨_,h1,h2,h3⟩,ps,h4,_⟩:=hp;subst ho;refine .inr (.inl ⟨hT,rfl,#[],ps,rfl,?_⟩);rw[hg];obtain⟨c,d,dt,sl⟩:=o';dsimp only at h1 h2 h3 h4;subst h1 h2 h3 h4;simp
theorem Jk:g7 callerA 400:=⟨rfl,by decide +kernel,by decide +kernel⟩
theorem Cn{h:Heap}{b:XC}{o':Obj}(h1:h.get? a=some o)(h2:h.get? b=some o')(hc:o.cls≠o'.cls):a≠b:=fun e=>hc (congrArg Obj.cls (Zi (h1.symm.trans (e▸h2))))
noncomputable abbrev xY:aa:=[(271,bM eD),(286,bM dL)]
theorem HS{b:XC}(hK:(KO w.params).In s.heap)(n5:s.heap.get? b=some {cls:=.type "list",data:=.seq vs.toArray})(T8:s.gens=#[]) :
  f1 (aj w) s ((aj w).add b {cls:=.type "list",data:=.seq vs.toArray}) xY:=by
 have Ñ:s.heap.get? 271=some (lp w.params):=hK _ _ @_;have Ð:s.heap.get? 286=some (li w.params):=hK _ _ @_;have n271:(271:XC)≠b:=Cn Ñ n5 ((by kernel_rfl:(lp w.params).cls=.none)▸fun e=>nomatch e);have n286:(286:XC)≠b:=Cn Ð n5 ((by kernel_rfl:(li w.params).cls=.none)▸fun e=>nomatch e);have hB:∀x ox,aj w x=some ox->s.heap.get? x=some ox:=fun x ox e=>hK _ _ (NV Ak _ _ _ e).1;have hle:f9.le (aj w) ((aj w).add b {cls:=.type "list",data:=.seq vs.toArray}):=fun x ox e=>by
  unfold f9.add;by_cases q:x=b
  ·rw[if_pos q];exact(q▸n5:s.heap.get? x=_).symm.trans (hB _ _ e)
  ·rw[if_neg q];exact e
 have S0:f1 (aj w) s ((aj w).add b {cls:=.type "list",data:=.seq vs.toArray}) []:=⟨hle,fun x ox e=>(f9.add_inv e).elim (hB x ox) fun q=>q.1▸q.2▸n5,List.nodup_nil,fun O h=>absurd h YM,fun O h=>absurd h YM,List.nodup_nil,fun x hx=>by rw[T8] at hx;simp at hx⟩;exact f1.cons (f1.cons S0 YM ((if_neg n286).trans @_) ⟨_,Ð,⟨@_,@_,@_,@_⟩,#[],@_,trivial,fun pos cv e=>nomatch e⟩ List.nodup_nil)
  (by decide) ((if_neg n271).trans @_) ⟨_,Ñ,⟨@_,@_,@_,@_⟩,#[],@_,trivial,fun pos cv e=>nomatch e⟩ List.nodup_nil
theorem Ru{s':WS}{Z':f9}{led':aa}(hK:(KO w.params).In s.heap)(S':f1 (aj w) s' Z' led')(hN:n7 xY led')(X:k8 (ah xY) s Z s' Z' (ah led'))(x:XC)(ox:Obj)(e:s.heap.get? x=some ox) :
  asItWas s.heap s'.heap x ox/\∃o',s'.heap.get? x=some o':=by
 by_cases n1:x=271
 ·refine ad (S'.own _ (hN _ (WM ..))) fun p q r=>?_;subst n1;have q1:=Zi ((hK _ _ @_:s.heap.get? 271=some (lp w.params)).symm.trans e);exact⟨Al (q1.symm.trans @_) (CZ (c:=275) (o:=iE w.params) hK @_ @_ @_ @_) q r,_,q⟩
 ·by_cases n2:x=286
  ·refine ad (S'.own _ (hN _ (WO _ (WM ..)))) fun p q r=>?_;subst n2;have q1:=Zi ((hK _ _ @_:s.heap.get? 286=some (li w.params)).symm.trans e);exact⟨Al (q1.symm.trans @_) (CZ (c:=290) (o:=iD w.params) hK @_ @_ @_ @_) q r,_,q⟩
  ·have g:=X.kept x ox e fun h=>(WT.mp h).elim n1 fun h=>n2 (Xi.mp h);exact⟨.inl g,_,g⟩
theorem GN:WalkO qV iW (fun O O=>True) dW.says PySem.Challenge.rw_dm0049_04.row.toRowW fQ [] (fun f vs=>PySem.call f vs):=by
 intro w o6 s₁ mg mb G Y a o pm cd doc dV kV ho H2 hcr hdf hmg T8 args vals as hpre hlay hrd Ε hsys;have hK:(KO w.params).In s₁.heap:=kIn_of Y;refine jp (id G.T.g) fun og es ep hog hd hk hm=>?_;have hog':s₁.heap.get? YD=some (dS w.params):=hK _ _ @_;rw[hog'] at hog;obtain rfl:=Zi hog;have hes:fV (dS w.params)=es:=by unfold fV;rw[hd]
 have ha:a=313:=by
  have h1:=hm fQ.name;rw[hmg,← hes] at h1;have h2:nsFind (fV (dS w.params)) fQ.name=some (.ref 313):=@_;rw[h2] at h1;injection h1 with h1
  injection h1 with h1
  exact h1.symm
 subst ha;refine ad (IV (l:=XX) rfl rfl hpre) fun d9 O2 hs=>?_;subst O2;obtain _ |⟨w1,w2⟩:=Ε
 cases w2
 cases w1 with
 | @list b vs _ n5 hwv =>
  have S:=HS hK n5 T8;refine Zu (Ov (d9:=d9) (led:=[]) Jk hs s₁ _ (.ref 313) [.ref b] [] S (.ref _) (.cons (.lst (f9.add_at ..) (GQ hwv)) .nil) .nil _ fun v x s' Z' led' k S' V X=>?_);refine av k fun O1 hN=>?_;clear k;subst O1;cases V
  have F:=Ru hK S' hN X;refine⟨.inl ⟨.bool true,.bool true,[],rfl,fun O=>rfl,.bool true,?_,fun O=>⟨List.nodup_nil,fun a ha=>by cases ha⟩⟩,⟨fun x ox e=>(F x ox e).1,fun x ox e=>(F x ox e).2⟩,X.os,S'.bare⟩
  ·show (WShape.has PySem.Challenge.rw_dm0049_04.row.toRowW.records (.bool true) .bool&&WTm.holds PySem.Challenge.rw_dm0049_04.row.toRowW.records (.eq .res (.lit (.bool true))) _)=true;exact @_
theorem WK:PySem.Challenge.rw_dm0049_04.Holds:=Pf GN
end Mine.Internal
theorem PySem.Challenge.cw_dm0049_04_holds : PySem.Challenge.rw_dm0049_04.Holds :=
  Mine.Internal.WK
