import PyProof.Rows.All
import Wide.All
import OpenK.AllK
import Wide.FinOn
import KE.KNest
import Lean
import PySem.Challenge.RW_bc0033_01
set_option maxRecDepth 100000
set_option linter.all false
set_option Elab.async false
set_option autoImplicit true
namespace Tw
open PySem PySem.W PyProof.Rows
section
open PySem.W.X
def ac:=@wpAny_bind
def ae:=@if_neg
def ah:=@if_pos
def aj:=@wpAny_mono
def ao:=@wpAny_pure
def aG:=@Nat.le_refl
def aJ:=@Heap.get?_push_of_some
def aP:=@List.mem_map
def aR:=@List.mem_cons_of_mem
def aT:=@Bool.false_ne_true
def aX:=@Heap.get?_push_size
def aY:=@Heap.lt_size
def a8:=@List.lookup_cons
def ba:=@beq_eq_false_iff_ne
def bc:=@List.length_cons
def bd:=@beq_iff_eq
def bg:=@List.length_append
def bj:=@List.mem_cons_self
def bn:=@sizeLine_eq
def bt:=@Nat.lt_irrefl
def bu:=@Nat.lt_of_lt_of_le
def bv:=@List.mem_cons
def bw:=@wpAny_of_eq
def bA:=@List.length_drop
def bB:=@List.length_map
def bL:=@wpAny_standAt
def bM:=@wpAny_field
def bQ:=@List.map_cons
def bT:=@wpAny_holding
def cA:=@List.size_toArray
def cC:=@List.map_map
def cH:=@List.nil_append
def cI:=@codeAny_mono
def cU:=@Nat.le_of_ble_eq_true
def c5:=@wpAny_rule
def c8:=@List.getElem?_eq_getElem
def di:=@wpAny_newObj_type
def dj:=@Heap.size_push
def dl:=@congrArg
def dr:=@if_false
def dC:=@List.take_append_drop
def dD:=@Heap.SameBut.update
def dE:=@wpAny_call_entry
def dF:=@List.cons.inj
def dL:=@Ne.symm
def dQ:=@List.mem_append
def dS:=@typeIs_bytes
def el:=@Sem.bind_eq_wrap'
def eq:=@List.length_take
def eu:=@Nat.min_eq_left
def ey:=@List.append_nil
def eA:=@wpAny_seqItems
def eD:=@Iff.rfl
def eM:=@Bool.false_eq_true
def eN:=@List.getElem?_map
def eO:=@Int.toNat_natCast
def eP:=@Sem.wrap_wrap
def eQ:=@Nat.le_trans
def eR:=@Nat.le_of_lt
def eS:=@Nat.le_succ
def fj:=@List.getD_eq_getElem?_getD
def fk:=@Heap.get?_update_self
def fm:=@wpAny_setField_rec
def fp:=@List.mem_singleton
def fq:=@Bool.and_eq_true
def fw:=@wpAny_isInstance
def fy:=@plainId_quiet
def fz:=@Nat.ne_of_lt
def fK:=@wpAny_callSpecial?_slot
def fL:=@List.not_mem_nil
def fU:=@or_false
def gj:=@List.take_succ_cons
def gp:=@List.flatMap_cons
def gq:=@List.all_eq_true
def gt:=@Nat.le_add_right
def gu:=@List.length_nil
def gv:=@List.cons.injEq
def gV:=@List.eq_nil_of_length_eq_zero
def gW:=@List.length_eq_zero_iff
def gX:=@List.mem_append_right
def gY:=@Around.under_plainId
def gZ:=@List.append_assoc
def g6:=@decide_eq_true_eq
def g7:=@Nat.lt_succ_self
def g9:=@codeAny_builtin
def hO:=@List.drop_drop
def hU:=@List.take_take
def iO:=@List.getElem?_eq_none_iff
def iP:=@List.take_of_length_le
def iQ:=@Sem.onRaise_eq_wrap
def iR:=@F.plain_extend_loop
def iS:=@Bool.or_eq_true
def iT:=@List.nodup_cons
def iU:=@wpAny_updateSeq
def iV:=@List.map_append
def iW:=@decide_eq_false
def iX:=@List.take_left
def iZ:=@Nat.le_total
def i0:=@bytesKind_is
def i9:=@Nat.not_lt
def ja:=@wpAny_load
def jb:=@bne_iff_ne
def jY:=@wpAny_newFunctionEnv_cells
def jZ:=@List.filter_cons_of_pos
def j0:=@List.mem_append_left
def j6:=@List.map_congr_left
def j8:=@wpAny_specialOf
def j9:=@Array.size_push
def kc:=@decide_eq_true
def kg:=@slot_gen_next
def kh:=@Nat.ne_of_gt
def kj:=@Nat.le_of_eq
def kn:=@bm_if_false
def ku:=@wpAny_call
def kx:=@typeIs_int
def kC:=@args_cons
def kD:=@piece_app
def kE:=@segRun_of
def mJ:=@Int.fmod_eq_emod_of_nonneg
def mK:=@List.filter_cons_of_neg
def mM:=@Calls.evalArgs_plain
def mN:=@List.mem_of_mem_drop
def mO:=@Bool.or_eq_false_iff
def mP:=@Obj.data_mapFields
def mQ:=@Obj.isFreed_of_seq
def mS:=@Nat.min_eq_right
def mT:=@List.cons_append
def mU:=@beq_false_of_ne
def mV:=@List.of_mem_zip
def mW:=@List.forIn_cons
def mX:=@Obj.data_mapSeq
def mY:=@List.drop_left'
def nb:=@Obj.cls_mapSeq
def ng:=@F.called_tuple
def nq:=@Bool.false_or
def nu:=@wpAny_attempt
def nv:=@wpAny_onRaise
def nw:=@Nat.lt_or_ge
def nx:=@Nat.lt_trans
def nH:=@typeIs_str
def qd:=@List.any_eq_not_all_not
def qe:=@F.args_object_init_2
def qf:=@List.length_pos_iff
def qg:=@List.mem_filterMap
def qh:=@Nat.lt_succ_of_lt
def qi:=@UInt8.ofNat_toNat
def qk:=@Bool.eq_iff_iff
def qm:=@UInt8.toNat_inj
def qp:=@List.mem_filter
def qs:=@Bool.false_and
def qt:=@wpAny_setField
def qv:=@isSubtype_type
def qw:=@List.mem_range
def qx:=@List.drop_left
def qz:=@wpAny_handled
def qB:=@hideAll_none
def qH:=@wpAny_throw
def qI:=@wpAny_point
def qJ:=@wpAny_letGo
def qK:=@Nat.zero_le
def tX:=@Calls.Name_function_global
def tY:=@F.slot_tuple_iterator_next
def tZ:=@Classical.byContradiction
def t4:=@codeAny_call_function
def t5:=@List.getElem?_eq_none
def t6:=@Obj.isFreed_of_fields
def t7:=@builtinLookup_eq_fast
def t9:=@F.slot_enumerate_next
def ua:=@PySem.F.sub_str_bytes
def ub:=@F.entry_extend_loop
def uc:=@Option.isSome_some
def ud:=@UInt8.toNat_ofNat'
def ue:=@F.plain_list_iadd
def uf:=@F.plain_tuple_new
def ug:=@wpAny_pyIter_enum
def uh:=@Bool.not_eq_true'
def ui:=@List.nodup_append
def uj:=@List.take_add_one
def uk:=@wpAny_execs_cons
def ul:=@KBw.pyIter_bytes
def um:=@wpAny_pyIter_gen
def un:=@F.plain_sum_loop
def uo:=@List.flatMap_map
def ur:=@typeLookup_type
def ut:=@F.slot_lri_next
def uu:=@List.take_left'
def uv:=@KBw.iter_typeIs
def uw:=@wpAny_ite_false
def uz:=@isSubtype_stop
def uD:=@KBw.slot_next
def wv:=@Array.getElem?_setIfInBounds
def ww:=@List.append_cancel_left_eq
def wx:=@List.getElem?_eq_some_iff
def wy:=@List.drop_eq_getElem_cons
def wz:=@Option.isSome_iff_exists
def wA:=@decide_eq_false_iff_not
def wB:=@Array.getElem?_eq_none
def wC:=@PyProof.noPylong_small
def wD:=@List.drop_of_length_le
def wE:=@Option.map_eq_some_iff
def wF:=@List.length_eq_one_iff
def wG:=@FB.slot_bytes_getitem
def wH:=@PySem.F.slot_dict_pop
def wI:=@List.cons_lt_cons_iff
def wJ:=@List.length_replicate
def wK:=@List.length_singleton
def wL:=@wpAny_pyIter_revIter
def wM:=@List.mem_of_mem_take
def wN:=@Bool.and_eq_true_iff
def wO:=@wpAny_updateSeq_pair
def wP:=@List.mem_of_getElem?
def wQ:=@Around.frames_deeper
def wR:=@wpAny_loadName_free
def wS:=@F.entry_object_init
end
abbrev P0:Program:=PySem.Challenge.pw_bc0033_01
abbrev View:=Addr→Option Obj
theorem i2{α β:Sort _}{p:α→β→Prop}:∀a b,p a b→p a b:=λ_ _ x=>x
def View.In(g:View)(h:Heap):Prop:=∀a o,g a=some o→h.get? a=some o
def View.Le(g g':View):Prop:=∀a o,g a=some o→g' a=some o
theorem View.Le.refl(g:View):g.Le g:=λ_ _ h=>h
theorem View.Le.trans{g g' g'':View}(x:g.Le g')(y:g'.Le g''):g.Le g'':=λa o h=>y a o (x a o h)
theorem View.In.le{g g':View}{h:Heap}(x:g'.In h)(y:g.Le g'):g.In h:=λa o e=>x a o (y a o e)
inductive AV
 |none|bool (b:Bool)|int (i:Int)|str (s:Str)|bytes (b:List UInt8)|tup (l:List AV)|lst (l:List AV)|ref (a:Addr)|typ (n:String)|blt (n:String)|slc (lo hi:Option Int)|rng (a b c:Int)
def SeqAt(g:View)(T:String)(a:Addr)(vs:List Value):Prop:=∃o n,g a=some o∧o.cls=.type T∧o.data=.seq vs.toArray n
mutual
def Rep(g:View):AV→Value→Prop
 |.none,v=>v=.none
 |.bool b,v=>v=.bool b
 |.int i,v=>∃t,v=.int i t
 |.str x,v=>∃t,v=.str x t
 |.bytes b,v=>∃t,v=.bytes b.toArray t
 |.tup l,v=>∃a vs,v=.ref a∧SeqAt g "tuple" a vs∧RepL g l vs
 |.lst l,v=>∃a vs,v=.ref a∧SeqAt g "list" a vs∧RepL g l vs
 |.ref a,v=>v=.ref a
 |.typ n,v=>v=.type n
 |.blt n,v=>v=.builtin n
 |.slc lo hi,v=>∃a o n l u,v=.ref a∧g a=some o∧o.cls=.type "slice"∧o.data=.fields #[l,u,n]∧n=.none∧IsPart l lo∧IsPart u hi
 |.rng a b c,v=>∃r t u x,v=.ref r∧g r=some {cls:=.type "range",dict:=none,data:=.fields #[.int a t,.int b u,.int c x],slots:=#[]}
def RepL(g:View):List AV→List Value→Prop
 |[],vs=>vs=[]
 |V::l,vs=>∃v r,vs=v::r∧Rep g V v∧RepL g l r
end
theorem SeqAt.le{T a vs}(x:SeqAt g T a vs)(h:g.Le g'):SeqAt g' T a vs:=
 let ⟨o,n,e,r⟩:=x;⟨o,n,h a o e,r⟩
mutual
theorem Rep.le(h:g.Le g'):∀{V:AV} {v:Value},Rep g V v→Rep g' V v
 |.none,_,x=>by unfold Rep at x ⊢;exact x
 |.bool _,_,x=>by unfold Rep at x ⊢;exact x
 |.int _,_,x=>by unfold Rep at x ⊢;exact x
 |.str _,_,x=>by unfold Rep at x ⊢;exact x
 |.bytes _,_,x=>by unfold Rep at x ⊢;exact x
 |.tup l,_,x=>by unfold Rep at x ⊢;obtain⟨a,vs,e,s,r⟩:=x;exact⟨a,vs,e,s.le h,RepL.le h r⟩
 |.lst l,_,x=>by unfold Rep at x ⊢;obtain⟨a,vs,e,s,r⟩:=x;exact⟨a,vs,e,s.le h,RepL.le h r⟩
 |.ref _,_,x=>by unfold Rep at x ⊢;exact x
 |.typ _,_,x=>by unfold Rep at x ⊢;exact x
 |.blt _,_,x=>by unfold Rep at x ⊢;exact x
 |.slc _ _,_,x=>by unfold Rep at x ⊢;obtain⟨a,o,n,l,u,e,k,r⟩:=x;exact⟨a,o,n,l,u,e,h a o k,r⟩
 |.rng _ _ _,_,x=>by unfold Rep at x ⊢;obtain⟨r,t,u,x,e,k⟩:=x;exact⟨r,t,u,x,e,h r _ k⟩
theorem RepL.le(h:g.Le g'):∀{l:List AV} {vs:List Value},RepL g l vs→RepL g' l vs
 |[],_,x=>by unfold RepL at x ⊢;exact x
 |V::l,_,x=>by unfold RepL at x ⊢;obtain⟨v,r,e,p,q⟩:=x;exact⟨v,r,e,Rep.le h p,RepL.le h q⟩
end
theorem RepL.nil:RepL g [] []:=by unfold RepL;rfl
theorem RepL.cons{V l v vs}(x:Rep g V v)(y:RepL g l vs):RepL g (V::l) (v::vs):=by unfold RepL;exact⟨v,vs,rfl,x,y⟩
theorem RepL.length:∀{l:List AV} {vs:List Value},RepL g l vs→vs.length=l.length
 |[],_,x=>by unfold RepL at x;subst x;rfl
 |V::l,_,x=>by unfold RepL at x;obtain⟨v,r,rfl,_,q⟩:=x;simp[q.length]
theorem RepL.get:∀{l:List AV} {vs:List Value} {i:Nat} {V:AV},RepL g l vs→l[i]?=some V→∃v,vs[i]?=some v∧Rep g V v
 |[],_,_,_,_,h=>by simp at h
 |W::l,_,0,_,x,h=>by
  unfold RepL at x;obtain⟨v,r,rfl,p,_⟩:=x
  simp at h;subst h;exact⟨v,rfl,p⟩
 |W::l,_,i+1,_,x,h=>by
  unfold RepL at x;obtain⟨v,r,rfl,_,q⟩:=x
  simp at h
  obtain⟨u,e,p⟩:=q.get h
  exact⟨u,by simpa using e,p⟩
theorem RepL.append:∀{l l':List AV} {vs vs':List Value},RepL g l vs→RepL g l' vs'→RepL g (l++l') (vs++vs')
 |[],_,_,_,x,y=>by unfold RepL at x;subst x;exact y
 |V::l,_,_,_,x,y=>by
  unfold RepL at x;obtain⟨v,r,rfl,p,q⟩:=x
  exact RepL.cons p (q.append y)
theorem RepL.take:∀{l:List AV} {vs:List Value} (n:Nat),RepL g l vs→RepL g (l.take n) (vs.take n)
 |_,_,0,_=>by simpa using RepL.nil
 |[],_,n+1,x=>by unfold RepL at x;subst x;simpa using RepL.nil
 |V::l,_,n+1,x=>by
  unfold RepL at x;obtain⟨v,r,rfl,p,q⟩:=x
  exact RepL.cons p (q.take n)
theorem RepL.drop:∀{l:List AV} {vs:List Value} (n:Nat),RepL g l vs→RepL g (l.drop n) (vs.drop n)
 |_,_,0,x=>by simpa using x
 |[],_,n+1,x=>by unfold RepL at x;subst x;simpa using RepL.nil
 |V::l,_,n+1,x=>by
  unfold RepL at x;obtain⟨v,r,rfl,p,q⟩:=x
  simpa using q.drop n
inductive Trk
 |dict (l:List (List UInt8×List UInt8))
 |ns (l:List (Str×AV))
 |obj (o:Obj)
abbrev St:=Addr→Option Trk
def St.set(σ:St)(a:Addr)(t:Trk):St:=λb=>if b=a then some t else σ b
def KVs:List (List UInt8×List UInt8)→List (List UInt8×Value)→Prop
 |[],kvs=>kvs=[]
 |(k,b)::l,kvs=>∃t r,kvs=(k,.bytes b.toArray t)::r∧KVs l r
def TrkAt(w:World)(g:View)(h:Heap)(a:Addr):Trk→Prop
 |.dict l=>∃kvs,h.DictOf (bytesKind P0 w) a kvs∧KVs l kvs
 |.ns l=>∃m,h.Ns1 a m∧∀x,(match l.lookup x with|some V=>∃v,m x=some v∧Rep g V v|none=>m x=none)
 |.obj o=>h.get? a=some o
structure Cx where
 w:World
 B:View
 tabs:List (Addr×Addr)
 u:Nat→Prop:=λ_=>False
def f8(h:Heap)(c P:Addr)(ps:Array Value):Prop:=h.IsCode c P ps∧h.TableAt c P ps
theorem jj{ps}(x:f8 h c P ps)(hc:∀o,h.get? c=some o→h'.get? c=some o)(hP:∀o,h.get? P=some o→h'.get? P=some o):f8 h' c P ps:=by
 obtain⟨⟨o,vs,file,tf,flags,tg,inF,text,tt,op,ho,hd,h11,h2,h7,h9,h10,hop,r⟩,⟨oc,vc,a,b⟩,t⟩:=x
 exact⟨⟨o,vs,file,tf,flags,tg,inF,text,tt,op,hc _ ho,hd,h11,h2,h7,h9,h10,hP _ hop,r⟩,⟨oc,vc,hc _ a,b⟩,hP _ t⟩
structure Sat(X:Cx)(g:View)(σ:St)(s:Shared):Prop where
 le:X.B.Le g
 in_:g.In s.heap
 trk:∀a t,σ a=some t→g a=none∧TrkAt X.w g s.heap a t
 tab:∀p∈X.tabs,g p.2=none∧σ p.2=none∧g p.1≠none∧∃ps,f8 s.heap p.1 p.2 ps
def KeptAs(o:Obj)(r:Option Obj):Prop:=r=some o∨((∃es ep,o.data=.dict es ep)∧∃sl,r=some {o with slots:=sl})
theorem KeptAs.refl(o:Obj):KeptAs o (some o):=.inl rfl
theorem KeptAs.trans(x:KeptAs o r)(hr:r=some o')(y:KeptAs o' r'):KeptAs o r':=by
 rcases x with x|⟨hc,sl,x⟩
 ·rw[hr] at x;cases x;exact y
 ·rw[hr] at x;cases x
  rcases y with y|⟨_,sl',y⟩
  ·exact .inr ⟨hc,sl,y⟩
  ·exact .inr ⟨hc,sl',y⟩
structure Pv where
 a:Addr→Prop
 n:Nat→Prop
abbrev am:Pv:=⟨λ_=>False,λ_=>False⟩
structure Rn(X:Cx)(P:Pv)(σ:St)(s s':Shared):Prop where
 os:s'.os=s.os
 dom:∀a o,s.heap.get? a=some o→¬P.a a→∃o',s'.heap.get? a=some o'
 keep:∀a o,s.heap.get? a=some o→σ a=none→(∀p∈X.tabs,p.2≠a)→¬P.a a→KeptAs o (s'.heap.get? a)
 tab:∀p∈X.tabs,∀o vs,s.heap.get? p.2=some o→o.data=.fields vs→∃more,s'.heap.get? p.2=some {o with data:=.fields (vs++more)}
 gsize:s.gens.size≤s'.gens.size
 gold:∀(i:Nat) (x:GenState),s.gens[i]?=some x→¬P.n i→s'.gens[i]?=some x
 gbare:∀(i:Nat) (x:GenState),s'.gens[i]?=some x→s.gens[i]?=some x∨(x.bare=true∨X.u i)
structure Go(X:Cx)(P:Pv)(g:View)(σ:St)(s:Shared)(g':View)(σ':St)(s':Shared):Prop where
 sat:Sat X g' σ' s'
 le:g.Le g'
 new:∀a o,s.heap.get? a=some o→¬P.a a→g' a=g a
 st:∀a o,s.heap.get? a=some o→¬P.a a→(σ' a=none↔σ a=none)
 run:Rn X P σ s s'
theorem TrkAt.at(x:TrkAt w g h a t):∃o,h.get? a=some o:=by
 cases t with
 |dict l=>obtain⟨kvs,⟨o,_,_,e,_⟩,_⟩:=x;exact⟨o,e⟩
 |ns l=>obtain⟨m,⟨o,_,_,e,_⟩,_⟩:=x;exact⟨o,e⟩
 |obj o=>exact⟨o,x⟩
theorem nQ{ps}(x:f8 h c P ps):∃o,h.get? P=some o∧o.data=.fields ps:=⟨_,x.2.2,rfl⟩
theorem Go.dom(G:Go X P g σ s g' σ' s')(e:s.heap.get? a=some o)(hp:¬P.a a):∃o',s'.heap.get? a=some o':=G.run.dom a o e hp
theorem Rn.refl(X:Cx)(P)(σ:St)(s:Shared):Rn X P σ s s:=
 ⟨rfl,λ_ o e _=>⟨o,e⟩,λ_ _ e _ _ _=>.inl e,λ_ _ o vs e hd=>⟨#[],by rw[e];congr 1;obtain⟨c,d,dt,sl⟩:=o;subst hd;simp⟩,aG _,λ_ _ e _=>e,λi x h=>.inl h⟩
theorem Go.refl(h:Sat X g σ s):Go X P g σ s g σ s:=
 ⟨h,.refl g,λ_ _ _ _=>rfl,λ_ _ _ _=>eD,.refl X P σ s⟩
theorem Rn.trans(x:Rn X P σ s s₁)(y:Rn X P σ₁ s₁ s₂)(hst:∀a o,s.heap.get? a=some o→¬P.a a→(σ₁ a=none↔σ a=none)):Rn X P σ s s₂:=by
 refine⟨y.os.trans x.os,λa o e hp=>let ⟨o',e'⟩:=x.dom a o e hp;y.dom a o' e' hp,λa o e hn ht hp=>?_,λp hp o vs e hd=>?_,eQ x.gsize y.gsize,λi g e hp=>y.gold i g (x.gold i g e hp) hp,λi g e=>?_⟩
 ·have k:=x.keep a o e hn ht hp
  have hn':=(hst a o e hp).mpr hn
  rcases k with k|⟨hc,sl,k⟩
  ·exact y.keep a o k hn' ht hp
  ·exact KeptAs.trans (.inr ⟨hc,sl,k⟩) k (y.keep a _ k hn' ht hp)
 ·obtain⟨more,e1⟩:=x.tab p hp o vs e hd
  obtain⟨more',e2⟩:=y.tab p hp _ _ e1 rfl
  exact⟨more++more',by rw[e2];simp⟩
 ·rcases y.gbare i g e with h|h
  ·exact x.gbare i g h
  ·exact .inr h
theorem Go.trans{X:Cx}{P:Pv}{g g₁ g₂:View}{σ σ₁ σ₂:St}{s s₁ s₂:Shared}(x:Go X P g σ s g₁ σ₁ s₁)(y:Go X P g₁ σ₁ s₁ g₂ σ₂ s₂):Go X P g σ s g₂ σ₂ s₂:=
 ⟨y.sat,x.le.trans y.le,λa o e hp=>(let ⟨o',e'⟩:=x.dom e hp;y.new a o' e' hp).trans (x.new a o e hp),
  λa o e hp=>(let ⟨o',e'⟩:=x.dom e hp;y.st a o' e' hp).trans (x.st a o e hp),x.run.trans y.run x.st⟩
def Pv.Le(s:Shared)(P P':Pv):Prop:=(∀a o,s.heap.get? a=some o→P.a a→P'.a a)∧(∀i,i<s.gens.size→P.n i→P'.n i)
theorem Rn.weaken(x:Rn X P σ s s')(h:P.Le s P'):Rn X P' σ s s':=
 ⟨x.os,λa o e hp=>x.dom a o e λq=>hp (h.1 a o e q),λa o e hn ht hp=>x.keep a o e hn ht λq=>hp (h.1 a o e q),x.tab,x.gsize,λi g e hp=>x.gold i g e λq=>hp (h.2 i (by
  rcases nw i s.gens.size with k|k
  ·exact k
  ·rw[wB k] at e;cases e) q),x.gbare⟩
theorem Go.weaken(x:Go X P g σ s g' σ' s')(h:P.Le s P'):Go X P' g σ s g' σ' s':=
 ⟨x.sat,x.le,λa o e hp=>x.new a o e λq=>hp (h.1 a o e q),λa o e hp=>x.st a o e λq=>hp (h.1 a o e q),x.run.weaken h⟩
theorem Go.any(x:Go X am g σ s g' σ' s'):Go X P g σ s g' σ' s':=x.weaken ⟨λ_ _ _ h=>h.elim,λ_ _ h=>h.elim⟩
abbrev Mp:=Str→Option AV
def Mp.upd(m:Mp)(x:Str)(V:AV):Mp:=λy=>if y=x then some V else m y
def Mp.nil:Mp:=λ_=>none
def Free(X:Cx)(g:View)(σ:St)(a:Addr):Prop:=g a=none∧σ a=none∧∀p∈X.tabs,p.2≠a
structure Frm(X:Cx)(env:Env)(m:Mp)(g:View)(σ:St)(s:Shared):Prop where
 kind:env.scope.kind=.function
 free:Free X g σ env.locals
 ns:∃mC,s.heap.Ns env.locals mC∧∀x V,m x=some V→env.kindOf x=some .local→∃v,mC x=some v∧Rep g V v
 cells:∀x c,env.cells.lookup x=some c→(env.kindOf x=some .cell∨env.kindOf x=some .free)→Free X g σ c→c≠env.locals∧∃v,s.heap.IsCell c v∧∀V,m x=some V→∃u,v=some u∧Rep g V u
 var:∀x V,m x=some V→env.kindOf x=some .local∨((env.kindOf x=some .cell∨env.kindOf x=some .free)∧∃c,env.cells.lookup x=some c∧Free X g σ c)
 inj:env.cells.Pairwise λx y=>x.2≠y.2
 csz:∀x c,env.cells.lookup x=some c→∃o,s.heap.get? c=some o
 own:∀x c,env.kindOf x=some .cell→x≠"names"→env.cells.lookup x=some c→Free X g σ c
theorem y5{h h':Heap}{a:Addr}{m}(x:h.Ns a m)(k:∀o,h.get? a=some o→KeptAs o (h'.get? a)):h'.Ns a m:=by
 obtain⟨o,es,ep,ho,hd,r⟩:=x
 rcases k o ho with e|⟨_,sl,e⟩
 ·exact⟨o,es,ep,e,hd,r⟩
 ·exact⟨_,es,ep,e,hd,r⟩
theorem CR{h h':Heap}{c:Addr}{v}(x:h.IsCell c v)(k:∀o,h.get? c=some o→KeptAs o (h'.get? c)):h'.IsCell c v:=by
 obtain⟨o,ho,hd⟩:=x
 rcases k o ho with e|⟨_,sl,e⟩
 ·exact⟨o,e,hd⟩
 ·exact⟨_,e,hd⟩
theorem Free.go(x:Free X g σ a)(G:Go X P g σ s g' σ' s')(h:s.heap.get? a=some o)(hp:¬P.a a):Free X g' σ' a:=
 ⟨(G.new a o h hp).trans x.1,(G.st a o h hp).mpr x.2.1,x.2.2⟩
theorem Free.back(x:Free X g' σ' a)(G:Go X P g σ s g' σ' s')(h:s.heap.get? a=some o)(hp:¬P.a a):Free X g σ a:=
 ⟨(G.new a o h hp).symm.trans x.1,(G.st a o h hp).mp x.2.1,x.2.2⟩
theorem Frm.goP{X:Cx}{env:Env}{m:Mp}{P:Pv}{g g':View}{σ σ':St}{s s':Shared}(F:Frm X env m g σ s)(G:Go X P g σ s g' σ' s')(hL:¬P.a env.locals)(hC:∀x c,env.cells.lookup x=some c→¬P.a c):Frm X env m g' σ' s':=by
 have hs:=F.csz
 obtain⟨mC,hn,hv⟩:=F.ns
 obtain⟨oL,_,_,hL',_⟩:=id hn
 refine⟨F.kind,F.free.go G hL' hL,⟨mC,y5 hn λo e=>G.run.keep _ o e F.free.2.1 F.free.2.2 hL,λx V hm hk=>?_⟩,λx c hc hk hf=>?_,λx V hm=>?_,F.inj,λx c hc=>let ⟨_,e⟩:=hs x c hc;G.dom e (hC x c hc),λx c hk hx hc=>(F.own x c hk hx hc).go G (hs x c hc).choose_spec (hC x c hc)⟩
 ·obtain⟨v,e,r⟩:=hv x V hm hk
  exact⟨v,e,r.le G.le⟩
 ·obtain⟨oc,ec⟩:=hs x c hc
  have hf₀:=hf.back G ec (hC x c hc)
  obtain⟨hne,v,hi,hr⟩:=F.cells x c hc hk hf₀
  refine⟨hne,v,CR hi λo e=>G.run.keep _ o e hf₀.2.1 hf₀.2.2 (hC x c hc),λV hm=>?_⟩
  obtain⟨u,e,r⟩:=hr V hm
  exact⟨u,e,r.le G.le⟩
 ·rcases F.var x V hm with h|⟨h,c,hc,hf⟩
  ·exact .inl h
  ·exact .inr ⟨h,c,hc,hf.go G (hs x c hc).choose_spec (hC x c hc)⟩
theorem Frm.go(F:Frm X env m g σ s)(G:Go X am g σ s g' σ' s'):Frm X env m g' σ' s':=F.goP G id λ_ _ _=>id
theorem TrkAt.keeps(x:TrkAt w g h a t)(k:∀b o,h.get? b=some o→h'.get? b=some o):TrkAt w g h' a t:=by
 cases t with
 |dict l=>obtain⟨kvs,d,r⟩:=x;exact⟨kvs,d.at (k a),r⟩
 |ns l=>obtain⟨m,d,r⟩:=x;exact⟨m,d.at (k a),r⟩
 |obj o=>exact k _ _ x
theorem TrkAt.le(x:TrkAt w g h a t)(k:g.Le g'):TrkAt w g' h a t:=by
 cases t with
 |dict l=>exact x
 |ns l=>
  obtain⟨m,d,r⟩:=x
  refine⟨m,d,λy=>?_⟩
  have:=r y
  cases q:l.lookup y with
  |none=>rw[q] at this;exact this
  |some V=>rw[q] at this;obtain⟨v,e,p⟩:=this;exact⟨v,e,p.le k⟩
 |obj o=>exact x
theorem xf{ps}(x:f8 h c P ps)(k:∀b o,h.get? b=some o→h'.get? b=some o):f8 h' c P ps:=jj x (k _) (k _)
theorem Sat.keeps(S:Sat X g σ s)(k:∀b o,s.heap.get? b=some o→s'.heap.get? b=some o):Sat X g σ s':=
 ⟨S.le,λa o e=>k a o (S.in_ a o e),λa t e=>⟨(S.trk a t e).1,(S.trk a t e).2.keeps k⟩,λp hp=>let ⟨a,b,d,ps,c⟩:=S.tab p hp;⟨a,b,d,ps,xf c k⟩⟩
theorem Rn.keeps(k:∀b o,s.heap.get? b=some o→s'.heap.get? b=some o)(hos:s'.os=s.os)(hg:s'.gens=s.gens):Rn X P σ s s':=
 ⟨hos,λa o e _=>⟨o,k a o e⟩,λa o e _ _ _=>.inl (k a o e),λp _ o vs e hd=>⟨#[],by rw[k _ _ e];congr 1;obtain⟨c,d,dt,sl⟩:=o;subst hd;simp⟩,by rw[hg];exact aG _,λi x e _=>by rw[hg];exact e,λi x e=>by rw[hg] at e;exact .inl e⟩
theorem Go.keeps(S:Sat X g σ s)(k:∀b o,s.heap.get? b=some o→s'.heap.get? b=some o)(hos:s'.os=s.os:=by rfl)(hg:s'.gens=s.gens:=by rfl):Go X P g σ s g σ s':=
 ⟨S.keeps k,.refl g,λ_ _ _ _=>rfl,λ_ _ _ _=>eD,.keeps k hos hg⟩
def View.add(g:View)(a:Addr)(o:Obj):View:=λb=>if b=a then some o else g b
theorem View.le_add{g:View}{a:Addr}(o:Obj)(h:g a=none):g.Le (g.add a o):=λb o' e=>by
 unfold View.add
 split
 ·rename_i q;rw[q,h] at e;cases e
 ·exact e
theorem View.none_of{g:View}{h:Heap}{a:Addr}(x:g.In h)(e:h.get? a=none):g a=none:=by
 cases q:g a with
 |none=>rfl
 |some o=>have:=x a o q;rw[e] at this;cases this
theorem Go.keeps_add{X:Cx}{P:Pv}{g:View}{σ:St}{s s':Shared}(S:Sat X g σ s)(k:∀b o,s.heap.get? b=some o→s'.heap.get? b=some o){a:Addr}{o:Obj}(hn:s.heap.get? a=none)(ha:s'.heap.get? a=some o)
  (hos:s'.os=s.os:=by rfl)(hg:s'.gens=s.gens:=by rfl):Go X P g σ s (g.add a o) σ s':=by
 have hga:=View.none_of S.in_ hn
 have S':=S.keeps k
 have ne:∀b o',s.heap.get? b=some o'→b≠a:=λb o' e q=>by rw[q,hn] at e;cases e
 refine⟨⟨S'.le.trans (View.le_add o hga),λb o' e=>?_,λb t e=>?_,λp hp=>?_⟩,View.le_add o hga,λb o' e _=>?_,λ_ _ _ _=>eD,.keeps k hos hg⟩
 ·unfold View.add at e
  split at e
  ·rename_i q;cases e;rw[q];exact ha
  ·exact S'.in_ b o' e
 ·obtain⟨e1,e2⟩:=S.trk b t e
  obtain⟨o',ho'⟩:=e2.at
  exact⟨by unfold View.add;rw[ae (ne b o' ho')];exact e1,(e2.keeps k).le (View.le_add o hga)⟩
 ·obtain⟨e1,e2,e4,ps,e3⟩:=S.tab p hp
  obtain⟨o',ho',_⟩:=nQ e3
  exact⟨by unfold View.add;rw[ae (ne _ o' ho')];exact e1,e2,by unfold View.add;split;simp;exact e4,ps,xf e3 k⟩
 ·unfold View.add;rw[ae (ne b o' e)]
theorem TrkAt.sameBut(x:TrkAt w g h a t)(k:Heap.SameBut b h h')(hab:a≠b):TrkAt w g h' a t:=by
 cases t with
 |dict l=>obtain⟨kvs,d,r⟩:=x;exact⟨kvs,d.sameBut k hab,r⟩
 |ns l=>obtain⟨m,d,r⟩:=x;exact⟨m,d.sameBut k hab,r⟩
 |obj o=>exact(k.2 a hab).trans x
theorem wU{ps}(x:f8 h c P ps)(k:Heap.SameBut b h h')(hc:c≠b)(hP:P≠b):f8 h' c P ps:=jj x (λo e=>(k.2 c hc).trans e) (λo e=>(k.2 P hP).trans e)
theorem Sat.sameBut(S:Sat X g σ s)(k:Heap.SameBut b s.heap s'.heap)(hb:Free X g σ b):Sat X g σ s':=by
 have ne:∀a o,g a=some o→a≠b:=λa o e q=>by rw[q,hb.1] at e;cases e
 refine⟨S.le,λa o e=>(k.2 a (ne a o e)).trans (S.in_ a o e),λa t e=>⟨(S.trk a t e).1,(S.trk a t e).2.sameBut k λq=>?_⟩,λp hp=>?_⟩
 ·rw[q,hb.2.1] at e;cases e
 ·obtain⟨e1,e2,e3,ps,e4⟩:=S.tab p hp
  refine⟨e1,e2,e3,ps,wU e4 k ?_ (hb.2.2 p hp)⟩
  cases q:g p.1 with
  |none=>exact absurd q e3
  |some o=>exact ne _ o q
theorem Go.sameBut(S:Sat X g σ s)(k:Heap.SameBut b s.heap s'.heap)(hb:Free X g σ b)(hP:P.a b)
  (hos:s'.os=s.os:=by rfl)(hg:s'.gens=s.gens:=by rfl):Go X P g σ s g σ s':=by
 refine⟨S.sameBut k hb,.refl g,λ_ _ _ _=>rfl,λ_ _ _ _=>eD,hos,λa o e hp=>?_,λa o e _ _ hp=>?_,λp hp o vs e hd'=>⟨#[],?_⟩,by rw[hg];exact aG _,λi x e _=>by rw[hg];exact e,λi x e=>by rw[hg] at e;exact .inl e⟩
 ·by_cases q:a=b
  ·exact absurd (q▸hP) hp
  ·exact⟨o,(k.2 a q).trans e⟩
 ·have q:a≠b:=λq=>hp (q▸hP)
  exact .inl ((k.2 a q).trans e)
 ·rw[k.2 _ (hb.2.2 p hp),e];congr 1;obtain⟨c,d,dt,sl⟩:=o;subst hd';simp
theorem Frm.sameBut(F:Frm X env m g σ s)(k:Heap.SameBut b s.heap s'.heap)(hL:b≠env.locals)(hc:∀x c,env.cells.lookup x=some c→c≠b):Frm X env m g σ s':=by
 obtain⟨mC,hn,hv⟩:=F.ns
 refine⟨F.kind,F.free,⟨mC,hn.sameBut k (dL hL),hv⟩,λx c hl hk hf=>?_,F.var,F.inj,λx c hl=>?_,F.own⟩
 ·obtain⟨h1,v,h2,h3⟩:=F.cells x c hl hk hf
  exact⟨h1,v,h2.sameBut k (hc x c hl),h3⟩
 ·obtain⟨o,e⟩:=F.csz x c hl
  exact⟨o,(k.2 c (hc x c hl)).trans e⟩
section
variable (X:Cx) (A:Around) (E:Value→Shared→Prop)
def Post(P:Pv)(g:View)(σ:St)(s:Shared)(Q:AV→St→Prop):Value→Shared→Prop:=λv s'=>∃g' V σ',Go X P g σ s g' σ' s'∧Rep g' V v∧Q V σ'
def PostB(P:Pv)(g:View)(σ:St)(s:Shared)(Q:Bool→St→Prop):Bool→Shared→Prop:=λb s'=>∃g' σ',Go X P g σ s g' σ' s'∧Q b σ'
def PostL(P:Pv)(g:View)(σ:St)(s:Shared)(Q:List AV→St→Prop):List Value→Shared→Prop:=λvs s'=>∃g' l σ',Go X P g σ s g' σ' s'∧RepL g' l vs∧Q l σ'
def Ev(env:Env)(m:Mp)(e:Expr)(σ:St)(Q:AV→St→Prop):Prop:=
 ∀g s,Sat X g σ s→Frm X env m g σ s→wpAny (model P0 X.w) A (eval e env) (Post X am g σ s Q) E s
def EvB(env:Env)(m:Mp)(e:Expr)(σ:St)(Q:Bool→St→Prop):Prop:=
 ∀g s,Sat X g σ s→Frm X env m g σ s→wpAny (model P0 X.w) A (isTrue e env (eval e env)) (PostB X am g σ s Q) E s
def dz(env:Env)(m:Mp)(es:List Expr)(pos:Pos)(σ:St)(Q:List AV→St→Prop):Prop:=
 ∀g s,Sat X g σ s→Frm X env m g σ s→wpAny (model P0 X.w) A (spliced (backTo pos (starEach es env))) (PostL X am g σ s Q) E s
def zB(t:Value→Sem Value)(V:AV)(σ:St)(Q:AV→St→Prop):Prop:=
 ∀g s v,Sat X g σ s→Rep g V v→wpAny (model P0 X.w) A (t v) (Post X am g σ s Q) E s
def bh(t:Value→Value→Sem Value)(V W:AV)(σ:St)(Q:AV→St→Prop):Prop:=
 ∀g s v u,Sat X g σ s→Rep g V v→Rep g W u→wpAny (model P0 X.w) A (t v u) (Post X am g σ s Q) E s
def zq(t:List Value→Sem Value)(l:List AV)(σ:St)(Q:AV→St→Prop):Prop:=
 ∀g s vs,Sat X g σ s→RepL g l vs→wpAny (model P0 X.w) A (t vs) (Post X am g σ s Q) E s
def qc(t:Value→Sem Bool)(V:AV)(σ:St)(Q:Bool→St→Prop):Prop:=
 ∀g s v,Sat X g σ s→Rep g V v→wpAny (model P0 X.w) A (t v) (PostB X am g σ s Q) E s
end
section
variable {X:Cx} {A:Around} {E:Value→Shared→Prop} {env:Env} {m:Mp} {σ:St} {Q:AV→St→Prop}
theorem Post.here{V v}(S:Sat X g σ s)(r:Rep g V v)(h:Q V σ):Post X P g σ s Q v s:=⟨g,V,σ,.refl S,r,h⟩
theorem Post.to{v}(G:Go X P g σ s g' σ' s')(h:∃V,Rep g' V v∧Q V σ'):Post X P g σ s Q v s':=
 let ⟨V,r,q⟩:=h;⟨g',V,σ',G,r,q⟩
theorem Post.after{v}(G:Go X P g σ s g' σ' s')(h:Post X P g' σ' s' Q v s''):Post X P g σ s Q v s'':=
 let ⟨g'',V,σ'',G',r,q⟩:=h;⟨g'',V,σ'',G.trans G',r,q⟩
theorem PostB.after{P:Pv}{g g':View}{σ':St}{s s' s'':Shared}{Q:Bool→St→Prop}{v}(G:Go X P g σ s g' σ' s')(h:PostB X P g' σ' s' Q v s''):PostB X P g σ s Q v s'':=
 let ⟨g'',σ'',G',q⟩:=h;⟨g'',σ'',G.trans G',q⟩
theorem PostL.after{P:Pv}{g g':View}{σ':St}{s s' s'':Shared}{Q:List AV→St→Prop}{v}(G:Go X P g σ s g' σ' s')(h:PostL X P g' σ' s' Q v s''):PostL X P g σ s Q v s'':=
 let ⟨g'',V,σ'',G',r,q⟩:=h;⟨g'',V,σ'',G.trans G',r,q⟩
theorem Ev.mono(h:Ev X A E env m e σ Q)(k:∀V σ',Q V σ'→Q' V σ'):Ev X A E env m e σ Q':=λg s S F=>
 aj (h g s S F) (λ_ _ ⟨g',V,σ',G,r,q⟩=>⟨g',V,σ',G,r,k V σ' q⟩) i2
theorem EvB.mono{e:Expr}{Q Q':Bool→St→Prop}(h:EvB X A E env m e σ Q)(k:∀V σ',Q V σ'→Q' V σ'):EvB X A E env m e σ Q':=λg s S F=>
 aj (h g s S F) (λ_ _ ⟨g',σ',G,q⟩=>⟨g',σ',G,k _ σ' q⟩) i2
theorem av{k pos}(h:Q (.int i) σ):Ev X A E env m (.Constant (.int i) k pos) σ Q:=λg s S _=>
 wpAny_Constant_int (Post.to (Go.keeps S λ_ _ e=>e) ⟨.int i,by unfold Rep;exact⟨_,rfl⟩,h⟩)
theorem da{k pos}(h:Q (.bytes x) σ):Ev X A E env m (.Constant (.bytes x) k pos) σ Q:=λg s S _=>
 Constant_bytes (Post.to (Go.keeps S λ_ _ e=>e) ⟨.bytes x,by unfold Rep;exact⟨_,rfl⟩,h⟩)
theorem kN{k pos}(h:Q (.str x) σ):Ev X A E env m (.Constant (.str x) k pos) σ Q:=λg s S _=>
 Calls.Constant_str (Post.to (Go.keeps S λ_ _ e=>e) ⟨.str x,by unfold Rep;exact⟨_,rfl⟩,h⟩)
theorem yL{k pos}(h:Q (.bool b) σ):Ev X A E env m (.Constant (.bool b) k pos) σ Q:=λg s S _=>
 Constant_bool (Post.here S (by unfold Rep;rfl) h)
theorem dJ{k pos}(h:Q .none σ):Ev X A E env m (.Constant .none k pos) σ Q:=λg s S _=>
 Constant_none (Post.here S (by unfold Rep;rfl) h)
theorem ap{pos}(hm:m x=some V)(h:Q V σ)(hd:(x==("__debug__":Str))=false:=by decide)(hc:(x==("__classdict__":Str))=false:=by decide):
  Ev X A E env m (.Name x pos) σ Q:=λg s S F=>by
 refine wpAny_Name ?_ hd
 rcases F.var x V hm with hk|⟨hk,c,hl,hf⟩
 ·obtain⟨mC,hn,hv⟩:=F.ns
  obtain⟨v,e,r⟩:=hv x V hm hk
  exact wpAny_loadName_local F.kind hk hn e (Post.here S r h)
 ·obtain⟨_,v,hi,hr⟩:=F.cells x c hl hk hf
  obtain⟨u,rfl,r⟩:=hr V hm
  rcases hk with hk|hk
  ·exact wpAny_loadName_cell F.kind hk hl hi (Post.here S r h)
  ·exact wR F.kind hk hl hi (Post.here S r h) hc
theorem ab(V:AV){pos}(h:Q V σ)(hm:m x=some V:=by rfl)(hd:(x==("__debug__":Str))=false:=by decide)(hc:(x==("__classdict__":Str))=false:=by decide):Ev X A E env m (.Name x pos) σ Q:=ap hm h hd hc
def aL(X:Cx)(x:Str)(V:AV):Prop:=∃v,(∀h:Heap,X.B.In h→∃mg mb,h.Ns mainGlobals mg∧h.Ns builtinsNs mb∧(mg x=some v∨(mg x=none∧mb x=some v)))∧Rep X.B V v
theorem im{pos}(hG:aL X x V)(hk:env.kindOf x=some .globalImplicit)(he:env.globals=mainGlobals)(hb:env.builtins=builtinsNs)(h:Q V σ)(hd:(x==("__debug__":Str))=false:=by decide):
  Ev X A E env m (.Name x pos) σ Q:=λg s S F=>by
 obtain⟨v,hg,r⟩:=hG
 obtain⟨mg,mb,h1,h2,h3⟩:=hg s.heap (S.in_.le S.le)
 have P:Post X am g σ s Q v s:=Post.here S (r.le S.le) h
 rcases h3 with h3|⟨h3,h4⟩
 ·exact tX F.kind hk (Calls.loadGlobal_global (by rw[he];exact h1) h3 P) hd
 ·exact tX F.kind hk (Calls.loadGlobal_builtin (by rw[he];exact h1) h3 (by rw[hb];exact h2) h4 P) hd
theorem eg{pos}(hG:aL X x V)(h:Q V σ)(hk:env.kindOf x=some .globalImplicit:=by rfl)(he:env.globals=mainGlobals:=by rfl)(hb:env.builtins=builtinsNs:=by rfl)(hd:(x==("__debug__":Str))=false:=by decide):Ev X A E env m (.Name x pos) σ Q:=im hG hk he hb h hd
theorem aK{op pos}(h:Ev X A E env m l σ λV σ₁=>Ev X A E env m r σ₁ λW σ₂=>bh X A E (binaryOp op) V W σ₂ Q):Ev X A E env m (.BinOp l op r pos) σ Q:=λg s S F=>
 wpAny_BinOp (aj (h g s S F) (λa s₁ ⟨g₁,V,σ₁,G₁,r₁,h₁⟩=>aj (h₁ g₁ s₁ G₁.sat (F.go G₁)) (λb s₂ ⟨g₂,W,σ₂,G₂,r₂,h₂⟩=>
  aj (h₂ g₂ s₂ a b G₂.sat (r₁.le G₂.le) r₂) (λc s₃ h₃=>h₃.after (G₁.trans G₂)) i2) i2) i2)
theorem rL{op pos}(h:Ev X A E env m l σ λV σ₁=>Ev X A E env m r σ₁ λW σ₂=>bh X A E (compareOp op) V W σ₂ Q)(hm:behindInMarks op r=false:=by with_unfolding_all rfl):
  Ev X A E env m (.Compare l [op] [r] pos) σ Q:=λg s S F=>
 wpAny_Compare1 (aj (h g s S F) (λa s₁ ⟨g₁,V,σ₁,G₁,r₁,h₁⟩=>aj (h₁ g₁ s₁ G₁.sat (F.go G₁)) (λb s₂ ⟨g₂,W,σ₂,G₂,r₂,h₂⟩=>
  aj (h₂ g₂ s₂ a b G₂.sat (r₁.le G₂.le) r₂) (λc s₃ h₃=>h₃.after (G₁.trans G₂)) i2) i2) i2) hm
theorem vW{op pos}(h:Ev X A E env m x σ λV σ₁=>zB X A E (unaryOp op) V σ₁ Q):Ev X A E env m (.UnaryOp op x pos) σ Q:=λg s S F=>
 UnaryOp_ (aj (h g s S F) (λa s₁ ⟨g₁,V,σ₁,G₁,r₁,h₁⟩=>aj (h₁ g₁ s₁ a G₁.sat r₁) (λc s₃ h₃=>h₃.after G₁) i2) i2)
theorem rK{pos}(h:EvB X A E env m t σ λc σ₁=>if c then Ev X A E env m a σ₁ Q else Ev X A E env m b σ₁ Q):Ev X A E env m (.IfExp t a b pos) σ Q:=λg s S F=>
 IfExp_ (aj (h g s S F) (λc s₁ ⟨g₁,σ₁,G₁,h₁⟩=>by
  cases c
  ·exact aj (h₁ g₁ s₁ G₁.sat (F.go G₁)) (λc s₃ h₃=>h₃.after G₁) i2
  ·exact aj (h₁ g₁ s₁ G₁.sat (F.go G₁)) (λc s₃ h₃=>h₃.after G₁) i2) i2)
theorem ar{l r:Expr}{op pos}{Q:Bool→St→Prop}(h:Ev X A E env m l σ λV σ₁=>Ev X A E env m r σ₁ λW σ₂=>bh X A E (compareOp op) V W σ₂ λZ σ₃=>∃b,Z=.bool b∧Q b σ₃)(hm:behindInMarks op r=false:=by with_unfolding_all rfl):
  EvB X A E env m (.Compare l [op] [r] pos) σ Q:=λg s S F=>
 wpAny_isTrue_Compare1 (aj (h g s S F) (λa s₁ ⟨g₁,V,σ₁,G₁,r₁,h₁⟩=>aj (h₁ g₁ s₁ G₁.sat (F.go G₁)) (λb s₂ ⟨g₂,W,σ₂,G₂,r₂,h₂⟩=>
  aj (h₂ g₂ s₂ a b G₂.sat (r₁.le G₂.le) r₂) (λc s₃ ⟨g₃,Z,σ₃,G₃,r₃,b,e,q⟩=>by
   subst e
   unfold Rep at r₃
   subst r₃
   exact wpAny_truthy_bool ⟨g₃,σ₃,(G₁.trans G₂).trans G₃,q⟩) i2) i2) i2) hm
theorem fE{x:Expr}{pos}{Q:Bool→St→Prop}(h:EvB X A E env m x σ λb σ₁=>Q (!b) σ₁):EvB X A E env m (.UnaryOp .Not x pos) σ Q:=λg s S F=>
 isTrue_not (aj (h g s S F) (λc s₁ ⟨g₁,σ₁,G₁,h₁⟩=>⟨g₁,σ₁,G₁,h₁⟩) i2)
theorem Ge{op l pos whole whole'}:isTrue (.BoolOp op l pos) env whole=isTrue (.BoolOp op l pos) env whole':=rfl
theorem eY{x:Expr}{rest:List Expr}{pos}{Q:Bool→St→Prop}(h:EvB X A E env m x σ λb σ₁=>if b then EvB X A E env m (.BoolOp .And rest pos) σ₁ Q else Q false σ₁):EvB X A E env m (.BoolOp .And (x::rest) pos) σ Q:=λg s S F=>
 isTrue_and (aj (h g s S F) (λc s₁ ⟨g₁,σ₁,G₁,h₁⟩=>by
  cases c
  ·exact⟨g₁,σ₁,G₁,h₁⟩
  ·exact aj (h₁ g₁ s₁ G₁.sat (F.go G₁)) (λc s₃ h₃=>h₃.after G₁) i2) i2)
theorem uK{pos}{Q:Bool→St→Prop}(h:Q true σ):EvB X A E env m (.BoolOp .And [] pos) σ Q:=λg s S F=>isTrue_and_nil ⟨g,σ,.refl S,h⟩
theorem cW{x:Expr}{rest:List Expr}{pos}{Q:Bool→St→Prop}(h:EvB X A E env m x σ λb σ₁=>if b then Q true σ₁ else EvB X A E env m (.BoolOp .Or rest pos) σ₁ Q):EvB X A E env m (.BoolOp .Or (x::rest) pos) σ Q:=λg s S F=>
 isTrue_or (aj (h g s S F) (λc s₁ ⟨g₁,σ₁,G₁,h₁⟩=>by
  cases c
  ·exact aj (h₁ g₁ s₁ G₁.sat (F.go G₁)) (λc s₃ h₃=>h₃.after G₁) i2
  ·exact⟨g₁,σ₁,G₁,h₁⟩) i2)
theorem ie{pos}{Q:Bool→St→Prop}(h:Q false σ):EvB X A E env m (.BoolOp .Or [] pos) σ Q:=λg s S F=>isTrue_or_nil ⟨g,σ,.refl S,h⟩
theorem cJ{e:Expr}{Q:Bool→St→Prop}(h:Ev X A E env m e σ λV σ₁=>qc X A E truthy V σ₁ Q)
  (he:isTrue e env (eval e env)=(do let v ←eval e env;standAt e.pos;holding [v] (truthy v)):=by rfl):EvB X A E env m e σ Q:=λg s S F=>
 isTrue_plain (aj (h g s S F) (λa s₁ ⟨g₁,V,σ₁,G₁,r₁,h₁⟩=>aj (h₁ g₁ s₁ a G₁.sat r₁) (λc s₃ h₃=>h₃.after G₁) i2) i2) he
theorem DR{pos}(h:Ev X A E env m e₁ σ λV σ₁=>qc X A E truthy V σ₁ λb σ₂=>if b then Ev X A E env m (.BoolOp .And (e₂::rest) pos) σ₂ Q else Q V σ₂):
  Ev X A E env m (.BoolOp .And (e₁::e₂::rest) pos) σ Q:=λg s S F=>
 BoolOp_and (aj (h g s S F) (λa s₁ ⟨g₁,V,σ₁,G₁,r₁,h₁⟩=>aj (h₁ g₁ s₁ a G₁.sat r₁) (λc s₂ ⟨g₂,σ₂,G₂,h₂⟩=>by
  cases c
  ·exact⟨g₂,V,σ₂,G₁.trans G₂,r₁.le G₂.le,h₂⟩
  ·exact aj (h₂ g₂ s₂ G₂.sat (F.go (G₁.trans G₂))) (λc s₃ h₃=>h₃.after (G₁.trans G₂)) i2) i2) i2)
theorem BC{op pos}(h:Ev X A E env m e σ Q):Ev X A E env m (.BoolOp op [e] pos) σ Q:=λg s S F=>BoolOp_one (h g s S F)
theorem ak{pos}{Q:List AV→St→Prop}(h:Q [] σ):dz X A E env m [] pos σ Q:=λg s S _=>Calls.spliced_nil ⟨g,[],σ,.refl S,.nil,h⟩
theorem ad{e:Expr}{rest:List Expr}{pos}{Q:List AV→St→Prop}(h:Ev X A E env m e σ λV σ₁=>dz X A E env m rest pos σ₁ λl σ₂=>Q (V::l) σ₂)
  (he:starEach (e::rest) env=(false,eval e env)::starEach rest env:=by rfl):dz X A E env m (e::rest) pos σ Q:=λg s S F=>
 kC (aj (h g s S F) (λa s₁ ⟨g₁,V,σ₁,G₁,r₁,h₁⟩=>aj (h₁ g₁ s₁ G₁.sat (F.go G₁)) (λvs s₂ ⟨g₂,l,σ₂,G₂,r₂,h₂⟩=>
  ⟨g₂,V::l,σ₂,G₁.trans G₂,.cons (r₁.le G₂.le) r₂,h₂⟩) i2) i2) he
theorem jd{g:View}{a:Addr}{o:Obj}{T:String}{vs:List Value}{n:Nat}(hc:o.cls=.type T)(hd:o.data=.seq vs.toArray n):SeqAt (g.add a o) T a vs:=
 ⟨o,n,by unfold View.add;rw[ah rfl],hc,hd⟩
theorem dn{h:Heap}:h.get? h.objs.size=none:=by
 cases e:h.get? h.objs.size with
 |none=>rfl
 |some o=>exact absurd (aY e) (bt _)
theorem A2{l:List AV}(hz:l.length≤sizeLine)(h:Q (.tup l) σ):zq X A E newTuple l σ Q:=λg s vs S r=>by
 refine di ?_ (by show vs.toArray.size≤sizeLine;rw[cA,r.length];exact hz)
 have hn:g s.heap.objs.size=none:=View.none_of S.in_ dn
 refine Post.to (Go.keeps_add S (λb o e=>aJ _ e) dn (aX _ rfl)) ⟨.tup l,?_,h⟩
 unfold Rep
 exact⟨_,vs,rfl,jd rfl rfl,r.le (View.le_add _ hn)⟩
theorem Bz{l:List AV}(hz:l.length≤sizeLine)(h:Q (.lst l) σ):zq X A E newList l σ Q:=λg s vs S r=>by
 refine di ?_ (by show vs.toArray.size≤sizeLine;rw[cA,r.length];exact hz)
 have hn:g s.heap.objs.size=none:=View.none_of S.in_ dn
 refine Post.to (Go.keeps_add S (λb o e=>aJ _ e) dn (aX _ rfl)) ⟨.lst l,?_,h⟩
 unfold Rep
 exact⟨_,vs,rfl,jd rfl rfl,r.le (View.le_add _ hn)⟩
theorem fB{k pos}(h:dz X A E env m es pos σ λl σ₁=>l.length≤sizeLine∧Q (.tup l) σ₁):Ev X A E env m (.Tuple es k pos) σ Q:=λg s S F=>
 Tuple_ (aj (h g s S F) (λvs s₁ ⟨g₁,l,σ₁,G₁,r₁,hz,h₁⟩=>aj (A2 hz h₁ g₁ s₁ vs G₁.sat r₁) (λc s₃ h₃=>h₃.after G₁) i2) i2)
theorem fV{pos}(h:dz X A E env m es pos σ λl σ₁=>l.length≤sizeLine∧Q (.lst l) σ₁):Ev X A E env m (.List es pos) σ Q:=λg s S F=>
 List_ (aj (h g s S F) (λvs s₁ ⟨g₁,l,σ₁,G₁,r₁,hz,h₁⟩=>aj (Bz hz h₁ g₁ s₁ vs G₁.sat r₁) (λc s₃ h₃=>h₃.after G₁) i2) i2)
theorem ji{value slice:Expr}{o i:Value}{T id:String}{s:Shared}{R:Value→Shared→Prop}(hT:s.TypeIs o T)
  (hl:typeLookup (.type T) "__getitem__"=pure (some (.builtin id)))(h:wpAny (model P0 X.w) A (getItem o i) R E s):wpAny (model P0 X.w) A (subscriptTail value slice o i) R E s:=by
 unfold subscriptTail
 refine ac ?_
 rw[getitemInPython_of_ne hT.not_modules]
 refine ac (j8 hT hl ?_)
 have fin:wpAny (model P0 X.w) A (subscripted slice false o i) (λr s₃=>wpAny (model P0 X.w) A (letTemporaryGo value o r>>= λ_=>pure r) R E s₃) E s:=by
  have g:∀{vs:List Value},wpAny (model P0 X.w) A (operate vs (getItem o i)) (λr s₃=>wpAny (model P0 X.w) A (letTemporaryGo value o r>>= λ_=>pure r) R E s₃) E s:=
   wpAny_operating (aj h (λr s₃ h₃=>ac (wpAny_letTemporaryGo (ao h₃))) i2)
  unfold subscripted
  split
  ·exact g
  ·rename_i q;cases q
  ·exact g
 first
  |exact ao (ac fin)
  |exact ac (ao (ac fin))
  |exact ac fin
theorem aC{pos}(h:Ev X A E env m value σ λV σ₁=>Ev X A E env m slice σ₁ λW σ₂=>bh X A E (subscriptTail value slice) V W σ₂ Q):Ev X A E env m (.Subscript value slice pos) σ Q:=λg s S F=>
 Subscript_ (aj (h g s S F) (λa s₁ ⟨g₁,V,σ₁,G₁,r₁,h₁⟩=>aj (h₁ g₁ s₁ G₁.sat (F.go G₁)) (λb s₂ ⟨g₂,W,σ₂,G₂,r₂,h₂⟩=>
  aj (h₂ g₂ s₂ a b G₂.sat (r₁.le G₂.le) r₂) (λc s₃ h₃=>h₃.after (G₁.trans G₂)) i2) i2) i2)
end
inductive AFl|next|brk|cont|ret (V:AV)
def RepF(g:View):AFl→Flow→Prop
 |.next,f=>f=.next
 |.brk,f=>f=.brk
 |.cont,f=>f=.cont
 |.ret V,f=>∃v,f=.ret v∧Rep g V v
theorem RepF.le(h:g.Le g'):∀{F:AFl} {f:Flow},RepF g F f→RepF g' F f
 |.next,_,x=>x
 |.brk,_,x=>x
 |.cont,_,x=>x
 |.ret _,_,⟨v,e,r⟩=>⟨v,e,r.le h⟩
section
variable (X:Cx) (A:Around) (E:Value→Shared→Prop) (P:Pv)
def PostX(env:Env)(g:View)(σ:St)(s:Shared)(Q:AFl→Mp→St→Prop):Flow→Shared→Prop:=λf s'=>∃g' F m' σ',Go X P g σ s g' σ' s'∧Frm X env m' g' σ' s'∧RepF g' F f∧Q F m' σ'
def PostU(env:Env)(g:View)(σ:St)(s:Shared)(Q:Mp→St→Prop):Unit→Shared→Prop:=λ_ s'=>∃g' m' σ',Go X P g σ s g' σ' s'∧Frm X env m' g' σ' s'∧Q m' σ'
def Ex(env:Env)(m:Mp)(st:Stmt)(σ:St)(Q:AFl→Mp→St→Prop):Prop:=
 ∀g s,Sat X g σ s→Frm X env m g σ s→wpAny (model P0 X.w) A (exec st env) (PostX X P env g σ s Q) E s
def Exs(env:Env)(m:Mp)(st:List Stmt)(σ:St)(Q:AFl→Mp→St→Prop):Prop:=
 ∀g s,Sat X g σ s→Frm X env m g σ s→wpAny (model P0 X.w) A (execs st env) (PostX X P env g σ s Q) E s
def As(env:Env)(m:Mp)(target:Expr)(V:AV)(σ:St)(Q:Mp→St→Prop):Prop:=
 ∀g s v,Sat X g σ s→Frm X env m g σ s→Rep g V v→wpAny (model P0 X.w) A (assign target env v) (PostU X P env g σ s Q) E s
def tR(env:Env)(m:Mp)(targets:List Expr)(l:List AV)(σ:St)(Q:Mp→St→Prop):Prop:=
 ∀g s vs,Sat X g σ s→Frm X env m g σ s→RepL g l vs→wpAny (model P0 X.w) A (assignInOrder ((assignEach targets env).map (·.2)) vs) (PostU X P env g σ s Q) E s
end
section
variable {X:Cx} {A:Around} {E:Value→Shared→Prop} {P:Pv} {env:Env} {m:Mp} {σ:St} {Q:AFl→Mp→St→Prop}
theorem PostX.after{f}(G:Go X P g σ s g' σ' s')(h:PostX X P env g' σ' s' Q f s''):PostX X P env g σ s Q f s'':=
 let ⟨g'',F,m',σ'',G',Fr',r,q⟩:=h;⟨g'',F,m',σ'',G.trans G',Fr',r,q⟩
theorem PostU.after{g g':View}{σ':St}{s s' s'':Shared}{Q:Mp→St→Prop}{f}(G:Go X P g σ s g' σ' s')(h:PostU X P env g' σ' s' Q f s''):PostU X P env g σ s Q f s'':=
 let ⟨g'',m',σ'',G',Fr',q⟩:=h;⟨g'',m',σ'',G.trans G',Fr',q⟩
theorem yc(S:Sat X g σ s)(F:Frm X env m g σ s)(r:Rep g V v)(hk:env.kindOf x=some .local)(hP:P.a env.locals)
  (h:∀s',Go X P g σ s g σ s'→Frm X env (m.upd x V) g σ s'→R () s'):wpAny (model P0 X.w) A (storeName env x v) R E s:=by
 obtain⟨mC,hn,hv⟩:=F.ns
 refine wpAny_storeName_local hk hn (λh' hn' hs'=>h _ (Go.sameBut S hs' F.free hP) ⟨F.kind,F.free,⟨_,hn',λy W hm hy=>?_⟩,λy c hl hy hf=>?_,λy W hm=>?_,F.inj,λy c hl=>?_,F.own⟩) (by rw[F.kind];rfl)
 ·unfold Mp.upd at hm
  by_cases q:y=x
  ·rw[ah q] at hm;cases hm;exact⟨v,by rw[ah q],r⟩
  ·rw[ae q] at hm;obtain⟨u,e,r'⟩:=hv y W hm hy;exact⟨u,by rw[ae q];exact e,r'⟩
 ·obtain⟨hne,u,hi,hr⟩:=F.cells y c hl hy hf
  refine⟨hne,u,hi.sameBut hs' hne,λW hm=>hr W ?_⟩
  unfold Mp.upd at hm
  by_cases q:y=x
  ·subst q;rw[hk] at hy;rcases hy with hy|hy<;>cases hy
  ·rwa [ae q] at hm
 ·unfold Mp.upd at hm
  by_cases q:y=x
  ·subst q;exact .inl hk
  ·rw[ae q] at hm;exact F.var y W hm
 ·obtain⟨o,e⟩:=F.csz y c hl
  by_cases q:c=env.locals
  ·subst q;obtain⟨o',_,_,e',_⟩:=hn';exact⟨o',e'⟩
  ·exact⟨o,(hs'.2 c q).trans e⟩
theorem vx(S:Sat X g σ s)(F:Frm X env m g σ s)(r:Rep g V v)(hk:env.kindOf x=some .cell)
  (hl:env.cells.lookup x=some c)(hf:Free X g σ c)(hP:P.a c)
  (h:∀s',Go X P g σ s g σ s'→Frm X env (m.upd x V) g σ s'→R () s'):wpAny (model P0 X.w) A (storeName env x v) R E s:=by
 obtain⟨mC,hn,hv⟩:=F.ns
 obtain⟨hne,u₀,hi,_⟩:=F.cells x c hl (.inl hk) hf
 refine wpAny_storeName_cell F.kind hk hl hi λh' hi' hs'=>h _ (Go.sameBut S hs' hf hP) ⟨F.kind,F.free,⟨mC,hn.sameBut hs' (dL hne),λy W hm hy=>?_⟩,λy d hd hy hf'=>?_,λy W hm=>?_,F.inj,λy d hd=>?_,F.own⟩
 ·unfold Mp.upd at hm
  by_cases q:y=x
  ·subst q;rw[hk] at hy;cases hy
  ·rw[ae q] at hm;exact hv y W hm hy
 ·by_cases q:y=x
  ·subst q
   rw[hl] at hd;cases hd
   refine⟨hne,_,hi',λW hm=>⟨v,rfl,?_⟩⟩
   unfold Mp.upd at hm
   rw[ah rfl] at hm;cases hm;exact r
  ·obtain⟨hne',u,hi'',hr⟩:=F.cells y d hd hy hf'
   have hdc:d≠c:=λe=>q (name_of_addr F.inj (mem_of_lookup hd) (e▸mem_of_lookup hl))
   refine⟨hne',u,hi''.sameBut hs' hdc,λW hm=>hr W ?_⟩
   unfold Mp.upd at hm
   rwa [ae q] at hm
 ·unfold Mp.upd at hm
  by_cases q:y=x
  ·subst q;exact .inr ⟨.inl hk,c,hl,hf⟩
  ·rw[ae q] at hm;exact F.var y W hm
 ·obtain⟨o,e⟩:=F.csz y d hd
  by_cases q:d=c
  ·subst q;obtain⟨o',e',_⟩:=hi';exact⟨o',e'⟩
  ·exact⟨o,(hs'.2 d q).trans e⟩
theorem vm{x:Str}{V:AV}{pos}{Q:Mp→St→Prop}(hk:env.kindOf x=some .local)(hP:P.a env.locals)(h:Q (m.upd x V) σ):As X A E P env m (.Name x pos) V σ Q:=λg s v S F r=>by
 show wpAny _ _ (do standAt pos;bindName env x v) _ _ _
 exact ac (bL (wpAny_bindName (yc S F r hk hP λs' G F'=>⟨g,_,σ,G,F',h⟩)))
theorem aq{x:Str}{V:AV}{pos}{Q:Mp→St→Prop}(h:Q (m.upd x V) σ)(hk:env.kindOf x=some .local:=by rfl)(hP:P.a env.locals:=by exact⟨aG _,.inl rfl⟩):As X A E P env m (.Name x pos) V σ Q:=vm hk hP h
theorem fD{x:Str}{V:AV}{pos}{c:Addr}{Q:Mp→St→Prop}(hk:env.kindOf x=some .cell)(hx:x≠"names")(hl:env.cells.lookup x=some c)(hP:P.a c)(h:Q (m.upd x V) σ):
  As X A E P env m (.Name x pos) V σ Q:=λg s v S F r=>by
 show wpAny _ _ (do standAt pos;bindName env x v) _ _ _
 exact ac (bL (wpAny_bindName (vx S F r hk hl (F.own x c hk hx hl) hP λs' G F'=>⟨g,_,σ,G,F',h⟩)))
theorem bW{Q:Mp→St→Prop}(h:Q m σ):tR X A E P env m [] [] σ Q:=λg s vs S F r=>by
 exact assignInOrder_nil ⟨g,m,σ,.refl S,F,h⟩
theorem aF{t:Expr}{ts:List Expr}{V:AV}{l:List AV}{Q:Mp→St→Prop}(h:As X A E P env m t V σ λm₁ σ₁=>tR X A E P env m₁ ts l σ₁ Q)(ht:assignEach (t::ts) env=(false,assign t env)::assignEach ts env:=by rfl):
  tR X A E P env m (t::ts) (V::l) σ Q:=λg s vs S F r=>by
 unfold RepL at r
 obtain⟨v,us,rfl,r₁,r₂⟩:=r
 rw[ht]
 exact assignInOrder_cons (aj (h g s v S F r₁) (λ_ s₁ ⟨g₁,m₁,σ₁,G₁,F₁,h₁⟩=>aj (h₁ g₁ s₁ us G₁.sat F₁ (r₂.le G₁.le)) (λ_ s₂ h₂=>h₂.after G₁) i2) i2)
theorem yx(x:SeqAt g "tuple" a vs)(k:g.In h):IsTup h a vs.toArray:=let ⟨o,n,e,hc,hd⟩:=x;⟨o,k a o e,hc,n,hd⟩
theorem c6(x:SeqAt g "list" a vs)(k:g.In h):h.IsList a vs.toArray:=let ⟨o,n,e,hc,hd⟩:=x;⟨o,k a o e,hc,n,hd⟩
theorem w7(k:Heap.ExtBut h.objs.size h h'):∀b o,h.get? b=some o→h'.get? b=some o:=λb o e=>k b o (fz (aY e)) e
theorem bV{ts:List Expr}{l:List AV}{k pos}{Q:Mp→St→Prop}(hh:A.handled=none)(hn:(assignEach ts env).length=l.length)(hs:(assignEach ts env).findIdx? (·.1)=none)(h:tR X A E P env m ts l σ Q):
  As X A E P env m (.Tuple ts k pos) (.tup l) σ Q:=λg s v S F r=>by
 unfold Rep at r
 obtain⟨a,vs,rfl,hseq,r⟩:=r
 refine assign_Tuple_tuple hh (yx hseq S.in_) (by rw[hn,cA,r.length]) hs λh' he=>?_
 have G:Go X P g σ s g σ {s with heap:=h'}:=Go.keeps S (w7 he)
 have G':Go X am g σ s g σ {s with heap:=h'}:=Go.keeps S (w7 he)
 exact aj (h g _ vs G.sat (F.go G') r) (λ_ s₂ h₂=>h₂.after G) i2
theorem aB(h:Q .next m σ):Exs X A E P env m [] σ Q:=λg s S F=>wpAny_execs_nil ⟨g,.next,m,σ,.refl S,F,rfl,h⟩
theorem ag{st:Stmt}{rest:List Stmt}(h:Ex X A E P env m st σ λF m₁ σ₁=>match F with|.next=>Exs X A E P env m₁ rest σ₁ Q|F=>Q F m₁ σ₁):Exs X A E P env m (st::rest) σ Q:=λg s S F=>
 uk (aj (h g s S F) (λf s₁ ⟨g₁,Fl,m₁,σ₁,G₁,F₁,r₁,h₁⟩=>by
  cases Fl with
  |next=>cases r₁;exact aj (h₁ g₁ s₁ G₁.sat F₁) (λf s₂ h₂=>h₂.after G₁) i2
  |brk=>cases r₁;exact⟨g₁,.brk,m₁,σ₁,G₁,F₁,rfl,h₁⟩
  |cont=>cases r₁;exact⟨g₁,.cont,m₁,σ₁,G₁,F₁,rfl,h₁⟩
  |ret V=>obtain⟨v,rfl,r⟩:=r₁;exact⟨g₁,.ret V,m₁,σ₁,G₁,F₁,⟨v,rfl,r⟩,h₁⟩) i2)
theorem aZ{pos}(h:Ev X A E env m e σ λV σ₁=>Q (.ret V) m σ₁):Ex X A E P env m (.Return (some e) pos) σ Q:=λg s S F=>
 wpAny_Return_some (aj (h g s S F) (λv s₁ ⟨g₁,V,σ₁,G₁,r₁,h₁⟩=>⟨g₁,.ret V,m,σ₁,G₁.any,F.go G₁,⟨v,rfl,r₁⟩,h₁⟩) i2)
theorem xG{pos}(h:Q (.ret .none) m σ):Ex X A E P env m (.Return none pos) σ Q:=λg s S F=>
 wpAny_Return_none ⟨g,.ret .none,m,σ,.refl S,F,⟨.none,rfl,by unfold Rep;rfl⟩,h⟩
theorem az{pos}(h:EvB X A E env m t σ λc σ₁=>if c then Exs X A E P env m a σ₁ Q else Exs X A E P env m b σ₁ Q):Ex X A E P env m (.If t a b pos) σ Q:=λg s S F=>
 wpAny_If (aj (h g s S F) (λc s₁ ⟨g₁,σ₁,G₁,h₁⟩=>by
  cases c
  ·exact aj (h₁ g₁ s₁ G₁.sat (F.go G₁)) (λf s₂ h₂=>h₂.after G₁.any) i2
  ·exact aj (h₁ g₁ s₁ G₁.sat (F.go G₁)) (λf s₂ h₂=>h₂.after G₁.any) i2) i2)
theorem B9{msg pos}(h:EvB X A E env m t σ λc σ₁=>c=true∧Q .next m σ₁):Ex X A E P env m (.Assert t msg pos) σ Q:=λg s S F=>
 wpAny_Assert_holds (aj (h g s S F) (λc s₁ ⟨g₁,σ₁,G₁,h₁,h₂⟩=>⟨h₁,g₁,.next,m,σ₁,G₁.any,F.go G₁,rfl,h₂⟩) i2)
theorem cV{pos}(h:Ev X A E env m e σ λV σ₁=>Q .next m σ₁)(hi:interactive env=false:=by rfl)(hs:swapsWith e none pos.line env=pure false:=by rfl):Ex X A E P env m (.Expr e pos) σ Q:=λg s S F=>by
 rw[exec_Expr (env:=env) e pos hi hs]
 refine ac (bL (ac (aj (h g s S F) (λv s₁ ⟨g₁,V,σ₁,G₁,r₁,h₁⟩=>?_) i2)))
 have fin:PostX X P env g σ s Q .next s₁:=⟨g₁,.next,m,σ₁,G₁.any,F.go G₁,rfl,h₁⟩
 unfold dropValue
 split
 ·exact ao fin
 ·exact ac (bL (ac (wpAny_runValue (g9 entry_let_go (show wpAny _ _ (ret .none) _ _ s₁ from ao (ao fin))))))
 ·exact ao fin
theorem aE{pos}(h:Ev X A E env m value σ λV σ₁=>As X A E P env m t V σ₁ λm₁ σ₂=>Q .next m₁ σ₂)
  (hs:swapsWithSole [t] value pos.line env=pure false:=by rfl)(hw:swappedStores [t] value env=pure none:=by rfl)(he:assignEach [t] env=[(false,assign t env)]:=by rfl):
  Ex X A E P env m (.Assign [t] value pos) σ Q:=λg s S F=>by
 rw[exec_Assign]
 refine ac (bL ?_)
 rw[hs]
 refine ac (ao ?_)
 rw[ae (by decide)]
 refine ac (aj (h g s S F) (λv s₁ ⟨g₁,V,σ₁,G₁,r₁,h₁⟩=>?_) i2)
 rw[hw,he]
 refine ac (ao ?_)
 show wpAny _ A (do assignAll v [assign t env];pure Flow.next) _ E s₁
 exact ac (aj (h₁ g₁ s₁ v G₁.sat (F.go G₁) r₁) (λ_ s₂ ⟨g₂,m₂,σ₂,G₂,F₂,h₂⟩=>ao ⟨g₂,.next,m₂,σ₂,G₁.any.trans G₂,F₂,rfl,h₂⟩) i2)
theorem Gn{pos}(h:Q AFl.next m σ):Ex X A E P env m (.Pass pos) σ Q:=λg s S F=>wpAny_Pass ⟨g,AFl.next,m,σ,.refl S,F,rfl,h⟩
theorem EN{op value pos npos}(hm:m x=some V)(h:Ev X A E env m value σ λW σ₁=>bh X A E (inplaceOp op) V W σ₁ λZ σ₂=>Q .next (m.upd x Z) σ₂)
  (hst:∀{V:AV} {σ':St} {g:View} {s:Shared} {v:Value} {R:Unit→Shared→Prop},Sat X g σ' s→Frm X env m g σ' s→Rep g V v→(∀s',Go X P g σ' s g σ' s'→Frm X env (m.upd x V) g σ' s'→R () s')→wpAny (model P0 X.w) A (storeName env x v) R E s)
  (hd:(x==("__debug__":Str))=false:=by decide)(hc:(x==("__classdict__":Str))=false:=by decide):
  Ex X A E P env m (.AugAssign (.Name x npos) op value pos) σ Q:=λg s S F=>by
 refine wpAny_AugAssign_Name ?_
 have ld:∀{R:Value→Shared→Prop},(∀v,Rep g V v→R v s)→wpAny (model P0 X.w) A (loadName env x) R E s:=λ{R} hR=>by
  rcases F.var x V hm with hk|⟨hk,c,hl,hf⟩
  ·obtain⟨mC,hn,hv⟩:=F.ns
   obtain⟨v,e,r⟩:=hv x V hm hk
   exact wpAny_loadName_local F.kind hk hn e (hR v r)
  ·obtain⟨_,v,hi,hr⟩:=F.cells x c hl hk hf
   obtain⟨u,rfl,r⟩:=hr V hm
   rcases hk with hk|hk
   ·exact wpAny_loadName_cell F.kind hk hl hi (hR u r)
   ·exact wR F.kind hk hl hi (hR u r) hc
 refine ld λold r₀=>?_
 exact aj (h g s S F) (λv s₁ ⟨g₁,W,σ₁,G₁,r₁,h₁⟩=>aj (h₁ g₁ s₁ old v G₁.sat (r₀.le G₁.le) r₁) (λz s₂ ⟨g₂,Z,σ₂,G₂,r₂,h₂⟩=>
  hst G₂.sat (F.go (G₁.trans G₂)) r₂ λs' G₃ F₃=>⟨g₂,.next,_,σ₂,(G₁.trans G₂).any.trans G₃,F₃,rfl,h₂⟩) i2) i2
end
structure Room(A:Around)(k:Nat):Prop where
 handled:A.handled=none
 depth:A.depth+k<recursionLimit
 units:A.units+40 * (k+1)<cLine
theorem Room.mono(h:Room A k)(hj:j≤k):Room A j:=⟨h.handled,Nat.lt_of_le_of_lt (Nat.add_le_add_left hj _) h.depth,by have:=h.units;omega⟩
theorem Room.mo(h:Room A k)(hj:j≤k:=by omega):Room A j:=h.mono hj
theorem Room.deeper(h:Room A (k+1)):Room (A.deeper env) k:=⟨h.handled,by have:=h.depth;show A.depth+1+k<_;omega,by have:=h.units;show A.units+3+_<_;omega⟩
def CallOk(X:Cx)(k:Nat)(f:AV)(l:List AV)(σ:St)(Q:AV→St→Prop):Prop:=
 ∀A g s fv vs,Room A k→Sat X g σ s→Rep g f fv→RepL g l vs→codeAny (model P0 X.w) A (.call fv ⟨vs,[]⟩) (λr s'=>∃v,r=.ok (.ret v)∧Post X am g σ s Q v s') s
theorem CallOk.mono{f l σ}(h:CallOk X k f l σ Q)(hq:∀V σ',Q V σ'→Q' V σ'):CallOk X k f l σ Q':=λA g s fv vs a b c d=>
 cI (h A g s fv vs a b c d) λ_ _ ⟨v,e,g',V,σ',G,r,q⟩=>⟨v,e,g',V,σ',G,r,hq V σ' q⟩
theorem CallOk.deep{f l σ}(h:CallOk X k f l σ Q)(hj:k≤j):CallOk X j f l σ Q:=λA g s fv vs a b c d=>h A g s fv vs (a.mono hj) b c d
structure FnAt(X:Cx)(a:Addr)(fd:FuncData)(body:List Stmt):Prop where
 at_:∃o,X.B a=some o∧o.data=.func fd
 code:∃c o vs t,fd.code=.ref c∧X.B c=some o∧o.data=.fields vs∧vs[1]?=some (.str fd.qualname t)
 lim:∃o,X.B cStatics=some o∧∀h:Heap,h.get? cStatics=some o→h.NoLimit
 body:fd.body=.stmts body
theorem FnAt.obj{a fd body}(F:FnAt X a fd body)(S:Sat X g σ s):∃o,s.heap.get? a=some o∧o.data=.func fd:=let ⟨o,e,d⟩:=F.at_;⟨o,S.in_ a o (S.le a o e),d⟩
theorem FnAt.cdRec{a fd body}(F:FnAt X a fd body)(S:Sat X g σ s):s.heap.CodeRec fd.code fd.qualname:=let ⟨c,o,vs,t,e,b,r⟩:=F.code;⟨c,o,vs,t,e,S.in_ c o (S.le c o b),r⟩
theorem FnAt.noLimit{a fd body}(F:FnAt X a fd body)(S:Sat X g σ s):s.heap.NoLimit:=let ⟨o,b,r⟩:=F.lim;r _ (S.in_ _ o (S.le _ o b))
abbrev ai:Value→Shared→Prop:=λ_ _=>False
def cF:List Str→List AV→Mp→Mp
 |x::xs,V::Vs,m=>cF xs Vs (m.upd x V)
 |_,_,m=>m
theorem bC(S:Sat X g σ s)(h:s.heap.objs.size≤a):Free X g σ a:=by
 have hn:s.heap.get? a=none:=by
  cases e:s.heap.get? a with
  |none=>rfl
  |some o=>exact absurd (aY e) (i9.mpr h)
 refine⟨View.none_of S.in_ hn,?_,λp hp e=>?_⟩
 ·cases e:σ a with
  |none=>rfl
  |some t=>obtain⟨o,ho⟩:=(S.trk a t e).2.at;rw[hn] at ho;cases ho
 ·obtain⟨_,_,_,ps,ic⟩:=S.tab p hp
  obtain⟨o,ho,_⟩:=nQ ic
  rw[e,hn] at ho;cases ho
theorem nh:∀(names:List (Str×NameKind)) (n:Nat) (acc:List (Str×Addr)),acc.lookup x=some c→∃c',(cellsFrom n names acc).lookup x=some c'
 |[],_,_,h=>⟨c,h⟩
 |(y,k)::r,n,acc,h=>by
  unfold cellsFrom
  split
  ·by_cases q:x=y
   ·exact nh (c:=n) r (n+1) _ (by rw[a8];simp[q])
   ·exact nh r (n+1) _ (by rw[a8];rw[mU q];exact h)
  ·exact nh r n acc h
theorem gx:∀(names:List (Str×NameKind)) (n:Nat) (acc:List (Str×Addr)),names.lookup x=some .cell→∃c,(cellsFrom n names acc).lookup x=some c
 |[],_,_,h=>by cases h
 |(y,k)::r,n,acc,h=>by
  rw[a8] at h
  unfold cellsFrom
  by_cases q:x=y
  ·subst q
   simp at h
   subst h
   rw[ah (by rfl)]
   exact nh (c:=n) r (n+1) _ (by rw[a8];simp)
  ·rw[mU q] at h
   split
   ·exact gx r _ _ h
   ·exact gx r _ _ h
structure BindInv(kindOf:Str→Option NameKind)(g:View)(m:Mp)(mL mC:Str→Option Value):Prop where
 loc:∀x V,m x=some V→kindOf x=some .local→∃v,mL x=some v∧Rep g V v
 cell:∀x V,m x=some V→kindOf x≠some .local→∃v,mC x=some v∧Rep g V v
theorem yN{kindOf:Str→Option NameKind}{g:View}:∀{xs:List Str} {l:List AV} {vs:List Value} {m:Mp} {mL mC},RepL g l vs→BindInv kindOf g m mL mC→
  BindInv kindOf g (cF xs l m) (bindL kindOf (xs.zip vs) mL) (bindC kindOf (xs.zip vs) mC)
 |[],l,vs,m,mL,mC,r,h=>by cases l<;>exact h
 |x::xs,[],vs,m,mL,mC,r,h=>by unfold RepL at r;subst r;exact h
 |x::xs,V::l,vs,m,mL,mC,r,h=>by
  unfold RepL at r;obtain⟨v,us,rfl,p,q⟩:=r
  show BindInv kindOf g (cF xs l (m.upd x V)) (bindL kindOf ((x,v)::xs.zip us) mL) (bindC kindOf ((x,v)::xs.zip us) mC)
  unfold bindL bindC
  refine yN q ⟨λy W hm hk=>?_,λy W hm hk=>?_⟩
  ·unfold Mp.upd at hm
   by_cases e:y=x
   ·subst e;rw[ah rfl] at hm;cases hm
    rw[ah hk];exact⟨v,by simp,p⟩
   ·rw[ae e] at hm
    obtain⟨u,e1,e2⟩:=h.loc y W hm hk
    split
    ·exact⟨u,by simp[e,e1],e2⟩
    ·exact⟨u,e1,e2⟩
  ·unfold Mp.upd at hm
   by_cases e:y=x
   ·subst e;rw[ah rfl] at hm;cases hm
    rw[ae hk];exact⟨v,by simp,p⟩
   ·rw[ae e] at hm
    obtain⟨u,e1,e2⟩:=h.cell y W hm hk
    split
    ·exact⟨u,e1,e2⟩
    ·exact⟨u,by simp[e,e1],e2⟩
theorem xQ:∀{xs:List Str} {l:List AV} {m:Mp} {x:Str} {V:AV},cF xs l m x=some V→x∈xs∨m x=some V
 |[],l,m,x,V,h=>by cases l<;>exact .inr h
 |y::xs,[],m,x,V,h=>.inr h
 |y::xs,W::l,m,x,V,h=>by
  rcases xQ (xs:=xs) (l:=l) (m:=m.upd y W) h with h|h
  ·exact .inl (aR _ h)
  ·unfold Mp.upd at h
   by_cases e:x=y
   ·exact .inl (e▸bj)
   ·rw[ae e] at h;exact .inr h
theorem iY{X:Cx}{g:View}{σ:St}{s₀ s:Shared}{fd:FuncData}{a:Addr}{xs:List Str}{l:List AV}{vs:List Value}
  (S:Sat X g σ s₀)(r:RepL g l vs)(hk:fd.scope.kind=.function)
  (hx:xs.all (λx=>fd.scope.names.lookup x==some .local||fd.scope.names.lookup x==some .cell)=true)
  (x:InCallC s₀ (callEnvC fd s₀.heap.objs.size a).locals (bindL (callEnvC fd s₀.heap.objs.size a).kindOf (xs.zip vs) λ_=>none) (callEnvC fd s₀.heap.objs.size a).cells
   (bindC (callEnvC fd s₀.heap.objs.size a).kindOf (xs.zip vs) λ_=>none) s):
  Frm X (callEnvC fd s₀.heap.objs.size a) (cF xs l Mp.nil) g σ s:=by
 have B:=yN (kindOf:=(callEnvC fd s₀.heap.objs.size a).kindOf) (g:=g) (m:=Mp.nil) (mL:=λ_=>none) (mC:=λ_=>none) (xs:=xs) r ⟨λy W hm=>(by cases hm),λy W hm=>(by cases hm)⟩
 have hab:∀y c,(callEnvC fd s₀.heap.objs.size a).cells.lookup y=some c→s₀.heap.objs.size<c:=λy c hc=>x.above y c (mem_of_lookup hc)
 refine⟨hk,bC S (aG _),⟨_,x.toInCall.ns,B.loc⟩,λy c hc hkc hf=>⟨kh (hab y c hc),_,x.cell y c hc,λV hm=>?_⟩,λy V hm=>?_,x.apart,λy c hc=>let ⟨o,e,_⟩:=x.cell y c hc;⟨o,e⟩,
  λy c _ _ hc=>bC S (eR (hab y c hc))⟩
 ·obtain⟨v,e,p⟩:=B.cell y V hm (by rcases hkc with q|q<;>rw[q]<;>decide)
  exact⟨v,e,p⟩
 ·rcases xQ hm with h|h
  ·have:=gq.mp hx y h
   rw[iS,bd,bd] at this
   rcases this with q|q
   ·exact .inl q
   ·obtain⟨c,hc⟩:=gx fd.scope.names (s₀.heap.objs.size+1) [] q
    exact .inr ⟨.inl q,c,hc,bC S (eR (hab y c hc))⟩
  ·cases h
theorem jf{m cs cm}(S:Sat X g σ s₀)(x:InCallC s₀ L m cs cm s):Go X P g σ s₀ g σ s:=by
 obtain⟨h,tk,e⟩:=x.toInCall.same
 have k:=x.toInCall.keep
 subst e
 exact Go.keeps S k
def ax(N:Addr)(env:Env):Pv:=⟨λb=>N≤b∧(b=env.locals∨∃x,env.cells.lookup x=some b),λ_=>False⟩
theorem io(h:s₀.heap.objs.size≤N):(ax N env).Le s₀ P:=
 ⟨λb o e h'=>absurd (aY e) (i9.mpr (eQ h h'.1)),λ_ _ h=>h.elim⟩
theorem bG(F:FnAt X a fd body)(xs:List Str)
  (hbind:∀g s vs,Sat X g σ s→RepL g l vs→∃vs',RepL g l' vs'∧BindsTo s fd ⟨vs,[]⟩ (xs.zip vs'))
  (hx:xs.all (λx=>fd.scope.names.lookup x==some .local||fd.scope.names.lookup x==some .cell)=true)
  (h:∀A L,Room A k→Exs X A (ai) (ax L (callEnvC fd L a)) (callEnvC fd L a) (cF xs l' Mp.nil) body σ λFl _ σ'=>match Fl with|.ret V=>Q V σ'|.next=>Q .none σ'|_=>False)
  (hclo:fd.closure=[]:=by rfl)(hco:fd.scope.isCoroutine=false:=by rfl)(hgen:fd.scope.isGenerator=false:=by rfl)(hk:fd.scope.kind=.function:=by rfl):
  CallOk X (k+1) (.ref a) l σ Q:=λA g s fv vs hA S hf r=>by
 unfold Rep at hf
 subst hf
 obtain⟨o,ho,hd⟩:=F.obj S
 obtain⟨vs',r',hb⟩:=hbind g s vs S r
 refine t4 (by have:=hA.depth;omega) ho hd hco hgen F.body (F.cdRec S) (hb _ _ _ _ ?_)
 rw[hclo]
 refine jY hk (λy hy=>?_) λenv he s' x=>?_
 ·have hm:y.1∈xs:=(mV hy).1
  have:=gq.mp hx y.1 hm
  rw[iS,bd,bd] at this
  rcases this with q|q
  ·exact .inl q
  ·exact .inr ⟨q,let ⟨c,hc⟩:=gx fd.scope.names (s.heap.objs.size+1) [] q;by rw[hc];rfl⟩
 ·have he':env=callEnvC fd s.heap.objs.size a:=he
  subst he'
  have Fr:=iY (a:=a) S r' hk hx x
  have G:=jf S x (P:=am)
  refine⟨(F.noLimit S).keeps x.toInCall.keep,codeAny_func (aj (h (A.deeper _) s.heap.objs.size (Room.deeper hA) g s' G.sat Fr) (λf s'' ⟨g',Fl,m',σ',G',_,rf,q⟩=>?_) λ_ _ x=>x.elim)⟩
  have G'':Go X am g σ s g' σ' s'':=Go.weaken (Go.trans (G.any) G') (io (aG _))
  cases Fl with
  |next=>cases rf;exact⟨_,rfl,g',.none,σ',G'',by unfold Rep;rfl,q⟩
  |ret V=>obtain⟨v,rfl,rv⟩:=rf;exact⟨v,rfl,g',V,σ',G'',rv,q⟩
  |brk=>exact q.elim
  |cont=>exact q.elim
theorem bk(xs:List Str)(h:∀vs:List Value,vs.length=l.length→bindArgs fd ⟨vs,[]⟩=pure (xs.zip vs)):
  ∀g s vs,Sat X g σ s→RepL g l vs→∃vs',RepL g l vs'∧BindsTo s fd ⟨vs,[]⟩ (xs.zip vs'):=λg s vs S r=>⟨vs,r,BindsTo.of_eq (h vs r.length)⟩
def cn(X:Cx)(A:Around)(E:Value→Shared→Prop)(f:AV)(l:List AV)(σ:St)(Q:AV→St→Prop):Prop:=
 ∀g s fv vs,Sat X g σ s→Rep g f fv→RepL g l vs→wpAny (model P0 X.w) A (call fv vs []) (Post X am g σ s Q) E s
def aV(X:Cx)(σ:St):AV→Prop
 |.ref a=>(∃o fd,(X.B a=some o∨σ a=some (.obj o))∧o.data=.func fd)∨∃K:Frag,(∀h:Heap,X.B.In h→K.In h)∧keepIn K (.ref a)=true
 |.blt _=>True
 |.typ _=>True
 |_=>False
theorem FnAt.keep{a fd body}(F:FnAt X a fd body):aV X σ (.ref a):=let ⟨o,e,d⟩:=F.at_;.inl ⟨o,fd,.inl e,d⟩
section
variable {X:Cx} {A:Around} {E:Value→Shared→Prop} {env:Env} {m:Mp} {σ:St} {Q:AV→St→Prop}
theorem aw(h:CallOk X k f l σ Q)(hA:Room A k):cn X A E f l σ Q:=λg s fv vs S r rl=>
 ku (cI (h A g s fv vs hA S r rl) λ_ _ ⟨v,e,p⟩=>by subst e;exact p)
theorem qF(r:Rep g f fv)(hpl:args.any (·.1)=false)
  (h:wpAny (model P0 X.w) A (evalArgs fv true args []) (λa s₁=>(∃g₁ σ₁,Sat X g₁ σ₁ s₁∧aV X σ₁ f)∧wpAny (model P0 X.w) A (call fv (first++a.pos) a.kw) R E s₁) E s):
  wpAny (model P0 X.w) A (callWith pos fv first args []) R E s:=by
 refine callWith_of (P:=λh=>∃k,(k=Keeper.frame∨k=Keeper.machine∨k=Keeper.boundFrame)∧Looks (model P0 X.w) h (keeperOf fv) k) (by rw[hpl];rfl) (λ_ x=>x) (aj h (λa s₁ ⟨⟨g₁,σ₁,S,K⟩,c⟩=>⟨?_,c⟩) i2)
 cases f with
 |ref a=>
  unfold Rep at r;subst r
  rcases K with ⟨o,fd,e,d⟩|⟨Kf,hK,hk⟩
  case inr=>
   obtain⟨k,h1,h2⟩:=looks_keep hk (hK _ (S.in_.le S.le))
   exact⟨k,h1.elim .inl λq=>.inr (.inl q),h2⟩
  have ho:s₁.heap.get? a=some o:=by
   rcases e with e|e
   ·exact S.in_ a o (S.le a o e)
   ·exact(S.trk a _ e).2
  obtain⟨c0,d0,dt,sl⟩:=o
  subst d
  exact⟨.frame,.inl rfl,(Looks.ld (part:=none) ho).andThen .now⟩
 |blt n=>unfold Rep at r;subst r;exact⟨.machine,.inr (.inl rfl),.now⟩
 |typ n=>unfold Rep at r;subst r;exact⟨.machine,.inr (.inl rfl),.now⟩
 |none=>exact K.elim
 |bool _=>exact K.elim
 |int _=>exact K.elim
 |str _=>exact K.elim
 |bytes _=>exact K.elim
 |tup _=>exact K.elim
 |lst _=>exact K.elim
 |slc _ _=>exact K.elim
 |rng _ _ _=>exact K.elim
theorem kt:∀{l:List (Bool×Sem Value)},(backTo pos l).any (·.1)=l.any (·.1)
 |[]=>rfl
 |x::r=>by
  have ih:=kt (pos:=pos) (l:=r)
  cases r<;>first|rfl|(show(x.1||_)=(x.1||_);rw[←ih];rfl)
theorem x6(S:Sat X g σ s)(F:Frm X env m g σ s)(r:Rep g f fv)(rf:RepL g first fvs)
  (h:dz X A E env m args pos σ λl σ₂=>aV X σ₂ f∧cn X A E f (first++l) σ₂ Q)
  (hst:(starEach args env).all (λx=> !x.1)=true):wpAny (model P0 X.w) A (callWith pos fv fvs (backTo pos (starEach args env)) []) (Post X am g σ s Q) E s:=by
 have hpl:(backTo pos (starEach args env)).any (·.1)=false:=by
  rw[kt,qd];simp only[hst];rfl
 refine qF (args:=backTo pos (starEach args env)) r hpl ?_
 have fin:wpAny (model P0 X.w) A (spliced (backTo pos (starEach args env))) (λvs s₁=>(∃g₁ σ₁,Sat X g₁ σ₁ s₁∧aV X σ₁ f)∧wpAny (model P0 X.w) A (call fv (fvs++vs) []) (Post X am g σ s Q) E s₁) E s:=
  aj (h g s S F) (λvs s₁ ⟨g₁,l,σ₁,G₁,r₁,K,c⟩=>⟨⟨g₁,σ₁,G₁.sat,K⟩,aj (c g₁ s₁ fv (fvs++vs) G₁.sat (r.le G₁.le) ((rf.le G₁.le).append r₁)) (λ_ _ x=>x.after G₁) i2⟩) i2
 cases hl:backTo pos (starEach args env) with
 |nil=>
  rw[hl] at fin
  unfold evalArgs
  show wpAny _ A (spliced []>>= _) _ E s
  refine ac (aj fin (λvs s₁ h₁=>ac (ao ?_)) i2)
  refine bT ?_
  exact ac (ao (ac (ao (ao h₁))))
 |cons x rest=>
  obtain⟨b,t⟩:=x
  rw[hl] at fin hpl
  have:b=false:=by
   cases b
   ·rfl
   ·simp at hpl
  subst this
  exact mM fin
theorem au(h:Ev X A E env m fe σ λF σ₁=>dz X A E env m args pos σ₁ λl σ₂=>aV X σ₂ F∧cn X A E F l σ₂ Q)
  (he:eval (.Call fe args [] pos) env=(do callWith pos (←eval fe env) [] (backTo pos (starEach args env)) (backToKw pos (keywordEach [] env))):=by rfl)
  (hst:(starEach args env).all (λx=> !x.1)=true:=by rfl):Ev X A E env m (.Call fe args [] pos) σ Q:=λg s S F=>
 Call_ (aj (h g s S F) (λfv s₁ ⟨g₁,f,σ₁,G₁,r₁,h₁⟩=>aj (x6 (first:=[]) (fvs:=[]) G₁.sat (F.go G₁) r₁ .nil h₁ hst) (λ_ _ x=>x.after G₁) i2) i2) he
def iu(X:Cx)(A:Around)(E:Value→Shared→Prop)(name:Str)(V:AV)(σ:St)(Q:AV→St→Prop):Prop:=
 ∀g s v pl,Sat X g σ s→Rep g V v→wpAny (model P0 X.w) A (getMethod v name pl) (λfx s'=>∃g' f σ',Go X am g σ s g' σ' s'∧Rep g' f fx.1∧fx.2=[v]∧Q f σ') E s
theorem cy
  (h:Ev X A E env m o σ λV σ₁=>iu X A E name V σ₁ λF σ₂=>dz X A E env m args pos σ₂ λl σ₃=>aV X σ₃ F∧cn X A E F (V::l) σ₃ Q)
  (he:eval (.Call (.Attribute o name apos) args [] pos) env=(do
   let ov ←eval o env
   standAt apos.atName
   let (f,first) ←holding [ov] (getMethod ov name pl)
   callWith pos f first (backTo pos (starEach args env)) []))
  (hst:(starEach args env).all (λx=> !x.1)=true:=by rfl):Ev X A E env m (.Call (.Attribute o name apos) args [] pos) σ Q:=λg s S F=>
 MethodCall_ (pl:=pl) (aj (h g s S F) (λov s₁ ⟨g₁,V,σ₁,G₁,r₁,h₁⟩=>aj (h₁ g₁ s₁ ov pl G₁.sat r₁) (λfx s₂ ⟨g₂,f,σ₂,G₂,r₂,e,h₂⟩=>by
  rw[e]
  exact aj (x6 (first:=[V]) (fvs:=[ov]) G₂.sat (F.go (G₁.trans G₂)) r₂ (.cons (r₁.le G₂.le) .nil) h₂ hst) (λ_ _ x=>x.after (G₁.trans G₂)) i2) i2) i2) he
end
section
variable {X:Cx} {A:Around} {E:Value→Shared→Prop} {env:Env} {m:Mp} {σ:St} {Q:AV→St→Prop}
theorem Post.tok{V v}{k}(S:Sat X g σ s)(r:Rep g V v)(h:Q V σ):Post X P g σ s Q v {s with toks:=k}:=Post.to (Go.keeps S λ_ _ e=>e) ⟨V,r,h⟩
theorem PostB.tok{P:Pv}{g:View}{s:Shared}{b:Bool}{Q:Bool→St→Prop}{k}(S:Sat X g σ s)(h:Q b σ):PostB X P g σ s Q b {s with toks:=k}:=⟨g,σ,Go.keeps S λ_ _ e=>e,h⟩
theorem Rep.int{i t}:Rep g (.int i) (.int i t):=by unfold Rep;exact⟨t,rfl⟩
theorem Rep.bool{b}:Rep g (.bool b) (.bool b):=by unfold Rep;rfl
theorem Rep.none:Rep g .none .none:=by unfold Rep;rfl
theorem Rep.bytes{t}:Rep g (.bytes l) (.bytes l.toArray t):=by unfold Rep;exact⟨t,rfl⟩
theorem Rep.str{i t}:Rep g (.str i) (.str i t):=by unfold Rep;exact⟨t,rfl⟩
end
section
variable {X:Cx} {A:Around} {E:Value→Shared→Prop} {env:Env} {m:Mp} {σ:St} {Q:AV→St→Prop} {a b:Int}
theorem fN(h:Q (.int (a+b)) σ):bh X A E (binaryOp .Add) (.int a) (.int b) σ Q:=λg s v u S r r'=>by
 unfold Rep at r r';obtain⟨_,rfl⟩:=r;obtain⟨_,rfl⟩:=r';exact P.add_int (Post.tok S .int h)
theorem AQ(h:Q (.int (a+b)) σ):bh X A E (inplaceOp .Add) (.int a) (.int b) σ Q:=λg s v u S r r'=>by
 unfold Rep at r r';obtain⟨_,rfl⟩:=r;obtain⟨_,rfl⟩:=r';exact P.iadd_int (Post.tok S .int h)
theorem qQ(h:Q (.int (a - b)) σ):bh X A E (binaryOp .Sub) (.int a) (.int b) σ Q:=λg s v u S r r'=>by
 unfold Rep at r r';obtain⟨_,rfl⟩:=r;obtain⟨_,rfl⟩:=r';exact P.sub_int (Post.tok S .int h)
theorem xB(h:Q (.int (a * b)) σ)(hm:IntMulOk a b):bh X A E (binaryOp .Mult) (.int a) (.int b) σ Q:=λg s v u S r r'=>by
 unfold Rep at r r';obtain⟨_,rfl⟩:=r;obtain⟨_,rfl⟩:=r';exact P.mul_int (Post.tok S .int h) hm
theorem dW(hb:b≠0)(h:Q (.int (a.fmod b)) σ):bh X A E (binaryOp .Mod) (.int a) (.int b) σ Q:=λg s v u S r r'=>by
 unfold Rep at r r';obtain⟨_,rfl⟩:=r;obtain⟨_,rfl⟩:=r';exact PyProof.Rows.mod_int' hb (Post.tok S .int h)
theorem ny(hb:b≠0)(hs:b.natAbs<1073741824)(h:Q (.int (a.fdiv b)) σ):bh X A E (binaryOp .FloorDiv) (.int a) (.int b) σ Q:=λg s v u S r r'=>by
 unfold Rep at r r';obtain⟨_,rfl⟩:=r;obtain⟨_,rfl⟩:=r';exact PyProof.Rows.floordiv_int hb (Post.tok S .int h) (.inl (wC hs))
theorem Bu(h:Q (.int (Builtin.bitAnd a b)) σ):bh X A E (binaryOp .BitAnd) (.int a) (.int b) σ Q:=λg s v u S r r'=>by
 unfold Rep at r r';obtain⟨_,rfl⟩:=r;obtain⟨_,rfl⟩:=r';exact PyProof.Rows.and_int (Post.tok S .int h)
theorem aU(h:Q (.bool (a==b)) σ):bh X A E (compareOp .Eq) (.int a) (.int b) σ Q:=λg s v u S r r'=>by
 unfold Rep at r r';obtain⟨_,rfl⟩:=r;obtain⟨_,rfl⟩:=r';exact P.eq_int (Post.here S .bool h)
theorem qS(h:Q (.bool (a !=b)) σ):bh X A E (compareOp .NotEq) (.int a) (.int b) σ Q:=λg s v u S r r'=>by
 unfold Rep at r r';obtain⟨_,rfl⟩:=r;obtain⟨_,rfl⟩:=r';exact P.ne_int (Post.here S .bool h)
theorem uY(h:Q (.bool (decide (a<b))) σ):bh X A E (compareOp .Lt) (.int a) (.int b) σ Q:=λg s v u S r r'=>by
 unfold Rep at r r';obtain⟨_,rfl⟩:=r;obtain⟨_,rfl⟩:=r';exact P.lt_int (Post.here S .bool h)
theorem xV(h:Q (.bool (decide (a≤b))) σ):bh X A E (compareOp .LtE) (.int a) (.int b) σ Q:=λg s v u S r r'=>by
 unfold Rep at r r';obtain⟨_,rfl⟩:=r;obtain⟨_,rfl⟩:=r';exact P.le_int (Post.here S .bool h)
theorem xT(h:Q (.bool (decide (a>b))) σ):bh X A E (compareOp .Gt) (.int a) (.int b) σ Q:=λg s v u S r r'=>by
 unfold Rep at r r';obtain⟨_,rfl⟩:=r;obtain⟨_,rfl⟩:=r';exact P.gt_int (Post.here S .bool h)
theorem uP(h:Q (.int (-a)) σ):zB X A E (unaryOp .USub) (.int a) σ Q:=λg s v S r=>by
 unfold Rep at r;obtain⟨_,rfl⟩:=r;exact P.neg_int (Post.tok S .int h)
theorem wZ{Q:Bool→St→Prop}(h:Q (a !=0) σ):qc X A E truthy (.int a) σ Q:=λg s v S r=>by
 unfold Rep at r;obtain⟨_,rfl⟩:=r;exact P.truthy_int ⟨g,σ,.refl S,h⟩
theorem kb{b:Bool}{Q:Bool→St→Prop}(h:Q b σ):qc X A E truthy (.bool b) σ Q:=λg s v S r=>by
 unfold Rep at r;subst r;exact wpAny_truthy_bool ⟨g,σ,.refl S,h⟩
theorem Bb{a b:Bool}(h:Q (.bool (a==b)) σ):bh X A E (compareOp .Eq) (.bool a) (.bool b) σ Q:=λg s v u S r r'=>by
 unfold Rep at r r';subst r r';exact PyProof.Rows.eq_bool (Post.here S .bool h)
def AV.isNone:AV→Bool|.none=>true|_=>false
theorem xw(r:Rep g V v):(v==Value.none)=V.isNone:=by
 cases V<;>unfold Rep at r
 ·subst r;rfl
 ·subst r;rfl
 ·obtain⟨_,rfl⟩:=r;rfl
 ·obtain⟨_,rfl⟩:=r;rfl
 ·obtain⟨_,rfl⟩:=r;rfl
 ·obtain⟨_,_,rfl,_⟩:=r;rfl
 ·obtain⟨_,_,rfl,_⟩:=r;rfl
 ·subst r;rfl
 ·subst r;rfl
 ·subst r;rfl
 ·obtain⟨_,_,_,_,_,rfl,_⟩:=r;rfl
 ·obtain⟨_,_,_,_,rfl,_⟩:=r;rfl
theorem nC(h:Q (.bool V.isNone) σ):bh X A E (compareOp .Is) V .none σ Q:=λg s v u S r r'=>by
 unfold Rep at r';subst r';exact PyProof.Rows.is_none_gen (Post.here S (by rw[xw r];exact .bool) h)
theorem Ah(h:Q (.bool (!V.isNone)) σ):bh X A E (compareOp .IsNot) V .none σ Q:=λg s v u S r r'=>by
 unfold Rep at r';subst r';exact PyProof.Rows.isnot_none_gen (Post.here S (by rw[xw r];exact .bool) h)
end
section
variable {X:Cx} {A:Around} {E:Value→Shared→Prop} {env:Env} {m:Mp} {σ:St} {Q:AV→St→Prop} {a b:List UInt8}
theorem bJ(h:Q (.bool (a==b)) σ):bh X A E (compareOp .Eq) (.bytes a) (.bytes b) σ Q:=λg s v u S r r'=>by
 unfold Rep at r r';obtain⟨_,rfl⟩:=r;obtain⟨_,rfl⟩:=r';exact eq_bytes (Post.here S .bool h)
theorem ia(h:Q (.bool (a !=b)) σ):bh X A E (compareOp .NotEq) (.bytes a) (.bytes b) σ Q:=λg s v u S r r'=>by
 unfold Rep at r r';obtain⟨_,rfl⟩:=r;obtain⟨_,rfl⟩:=r';exact ne_bytes (Post.here S .bool h)
theorem cB(hz:a.length+b.length≤16777216)(h:Q (.bytes (a++b)) σ):bh X A E (binaryOp .Add) (.bytes a) (.bytes b) σ Q:=λg s v u S r r'=>by
 unfold Rep at r r';obtain⟨_,rfl⟩:=r;obtain⟨_,rfl⟩:=r';exact bytes_add_K (by simpa using hz) rfl λt' k=>Post.tok S .bytes h
theorem gw(hz:a.length≤16777216)(h:Q (.int a.length) σ):cn X A E (.blt "len") [.bytes a] σ Q:=λg s fv vs S r rl=>by
 unfold Rep at r;subst r
 unfold RepL at rl;obtain⟨v,us,rfl,r,rl⟩:=rl;unfold RepL at rl;subst rl
 unfold Rep at r;obtain⟨_,rfl⟩:=r
 exact len_bytes (by simp;omega) (Post.tok S .int h)
theorem dP{Q:Bool→St→Prop}(hz:a.length≤16777216)(h:Q (!a.isEmpty) σ):qc X A E truthy (.bytes a) σ Q:=λg s v S r=>by
 unfold Rep at r;obtain⟨_,rfl⟩:=r
 refine truthy_bytes (by simp;omega) ?_
 have e:((a.toArray.size:Int) !=0)= !a.isEmpty:=by
  cases a with
  |nil=>rfl
  |cons x l=>simp;omega
 rw[e]
 exact PostB.tok S h
theorem gy{value slice:Expr}{i:Int}(hz:a.length≤16777216)(h0:0≤i)(h1:i<a.length)(h:Q (.int (a.getD i.toNat 0).toNat) σ):bh X A E (subscriptTail value slice) (.bytes a) (.int i) σ Q:=λg s v u S r r'=>by
 unfold Rep at r r';obtain⟨_,rfl⟩:=r;obtain⟨_,rfl⟩:=r'
 exact ji (dS _ _ _) wG.lookup (getItem_bytes (by omega) h0 h1 (Post.tok S .int h))
def bX{α:Type}(lo hi:Option Int)(l:List α):List α:=(l.drop (lo.elim 0 (clipAt l.length))).take (hi.elim l.length (clipAt l.length) - lo.elim 0 (clipAt l.length))
theorem dp{α:Type}{l:List α}(n:Nat):bX (some (n:Int)) none l=l.drop n:=by
 unfold bX;simp only[Option.elim,clipAt_nat]
 rcases iZ n l.length with h|h
 ·rw[eu h,iP (by simp)]
 ·rw[mS h];simp[wD h]
theorem gA{α:Type}{l:List α}(n:Nat):bX none (some (n:Int)) l=l.take n:=by
 unfold bX;simp only[Option.elim,clipAt_nat,List.drop_zero,Nat.sub_zero]
 rcases iZ n l.length with h|h
 ·rw[eu h]
 ·rw[mS h,iP (aG _),iP h]
theorem nL{α:Type}{l:List α}(n k:Nat):bX (some (n:Int)) (some (k:Int)) l=(l.drop n).take (k - n):=by
 unfold bX;simp only[Option.elim,clipAt_nat]
 rcases iZ n l.length with h|h
 ·rw[eu h]
  rcases iZ k l.length with h'|h'
  ·rw[eu h']
  ·rw[mS h',iP (by simp),iP (by simp;omega)]
 ·rw[mS h];simp[wD h]
theorem BA{α:Type}{l:List α}(n:Nat)(hn:1≤n):bX (some (-(n:Int))) none l=l.drop (l.length - n):=by
 unfold bX;simp only[Option.elim,clipAt_neg _ n hn]
 rw[iP (by simp)]
theorem AN{α:Type}{l:List α}(k n:Nat)(hn:1≤n):bX (some (k:Int)) (some (-(n:Int))) l=(l.drop k).take (l.length - n - k):=by
 unfold bX;simp only[Option.elim,clipAt_neg _ n hn,clipAt_nat]
 rcases iZ k l.length with h|h
 ·rw[eu h]
 ·rw[mS h];simp[wD h]
theorem xJ{g:View}{lo hi:Option Int}{v:Value}{s:Shared}(r:Rep g (.slc lo hi) v)(k:g.In s.heap):∃a l u,v=.ref a∧s.heap.IsSliceOf a l u .none∧IsPart l lo∧IsPart u hi:=by
 unfold Rep at r;obtain⟨a,o,n,l,u,rfl,e,hc,hd,rfl,hl,hu⟩:=r
 exact⟨a,l,u,rfl,⟨o,k a o e,hc,hd⟩,hl,hu⟩
theorem cr{value slice:Expr}{lo hi:Option Int}(hz:a.length≤16777216)(h:Q (.bytes (bX lo hi a)) σ):bh X A E (subscriptTail value slice) (.bytes a) (.slc lo hi) σ Q:=λg s v u S r r'=>by
 obtain⟨a',l,u',rfl,hs,hl,hu⟩:=xJ r' S.in_
 unfold Rep at r;obtain⟨t,rfl⟩:=r
 refine ji (dS _ _ _) wG.lookup (getItem_meets (dS _ _ _) (by decide) wG FB.entry_bytes_getitem (FB.args_bytes_getitem_2 _ _) (KBc.meets_slice2 a.toArray t _ hl hu)
  ⟨hs,eQ (KBc.size_picked_le _ lo hi) (by rw[bn,cA];exact hz),λt' k=>?_⟩)
 rw[KBc.picked_eq]
 have e:(List.take (hi.elim a.toArray.size (clipAt a.toArray.size) - lo.elim 0 (clipAt a.toArray.size)) (List.drop (lo.elim 0 (clipAt a.toArray.size)) a.toArray.toList))=bX lo hi a:=by unfold bX;simp
 rw[e]
 exact Post.tok S .bytes h
theorem ib{value slice:Expr}{lo hi:Option Int}{l:List AV}(hz:l.length≤16777216)(h:Q (.lst (bX lo hi l)) σ):bh X A E (subscriptTail value slice) (.lst l) (.slc lo hi) σ Q:=λg s v u S r r'=>by
 obtain⟨a',lv,u',rfl,hs,hl,hu⟩:=xJ r' S.in_
 unfold Rep at r;obtain⟨c,vs,rfl,hq,rl⟩:=r
 have hL:=c6 hq S.in_
 refine ji hL.typeIs slot_list_getitem.lookup (wpAny_getItem_list_slice hL hs hl hu .none (by simp) ?_ (by rw[bn,cA,rl.length];exact hz))
 have e:slicePick vs.toArray lo hi none=(bX lo hi vs).toArray:=by rw[slicePick_plain];unfold bX;simp
 have hn:g s.heap.objs.size=none:=View.none_of S.in_ dn
 refine Post.to (Go.keeps_add S (λb o e=>aJ _ e) dn (aX _ rfl)) ⟨.lst (bX lo hi l),?_,h⟩
 unfold Rep
 refine⟨_,bX lo hi vs,rfl,jd rfl (by rw[e]),RepL.le (View.le_add _ hn) ?_⟩
 unfold bX
 rw[rl.length]
 exact(rl.drop _).take _
theorem BX(r:Rep g V v)(h:(∃i,V=.int i∧k=some i)):IsPart v k:=by
 obtain⟨i,rfl,rfl⟩:=h
 unfold Rep at r;obtain⟨t,rfl⟩:=r;exact .int i t
def wr(X:Cx)(A:Around)(E:Value→Shared→Prop)(env:Env)(m:Mp)(e:Option Expr)(σ:St)(Q:Option Int→St→Prop):Prop:=match e with
 |none=>Q none σ
 |some e=>Ev X A E env m e σ λV σ₁=>∃i,V=.int i∧Q (some i) σ₁
theorem zu{e:Option Expr}{Q:Option Int→St→Prop}(h:wr X A E env m e σ Q){g:View}{s:Shared}(S:Sat X g σ s)(F:Frm X env m g σ s):
  wpAny (model P0 X.w) A (evalPart e env) (λv s₁=>∃g₁ σ₁ k,Go X am g σ s g₁ σ₁ s₁∧IsPart v k∧Q k σ₁) E s:=by
 cases e with
 |none=>exact ao ⟨g,σ,none,.refl S,.none,h⟩
 |some e=>exact aj (h g s S F) (λv s₁ ⟨g₁,V,σ₁,G₁,r,i,hv,q⟩=>⟨g₁,σ₁,some i,G₁,BX r ⟨i,hv,rfl⟩,q⟩) i2
theorem bP(h:wr X A E env m lower σ λlo σ₁=>wr X A E env m upper σ₁ λhi σ₂=>Q (.slc lo hi) σ₂):Ev X A E env m (.Slice lower upper none p) σ Q:=λg s S F=>
 wpAny_Slice (aj (zu h S F) (λl s₁ ⟨g₁,σ₁,lo,G₁,hl,h₁⟩=>aj (zu h₁ G₁.sat (F.go G₁)) (λu s₂ ⟨g₂,σ₂,hi,G₂,hu,h₂⟩=>by
  refine ao ?_
  have hn:g₂ s₂.heap.objs.size=none:=View.none_of G₂.sat.in_ dn
  refine Post.to ((G₁.trans G₂).trans (Go.keeps_add G₂.sat (λb o e=>aJ _ e) dn (aX _ rfl))) ⟨.slc lo hi,?_,h₂⟩
  unfold Rep
  exact⟨_,_,_,l,u,rfl,by unfold View.add;rw[ah rfl],rfl,rfl,rfl,hl,hu⟩) i2) i2)
end
theorem Pv.Le.refl(s:Shared)(P:Pv):P.Le s P:=⟨λ_ _ _ h=>h,λ_ _ h=>h⟩
theorem Pv.Le.back{X:Cx}{σ:St}{s₀ s:Shared}{P P' Q:Pv}{R:Pv}(x:Rn X R σ s₀ s)(h:P'.Le s P)(k:P.Le s₀ Q)(hR:∀a,R.a a→∃o,s.heap.get? a=some o):P'.Le s₀ Q:=
 ⟨λa o e p=>by
   by_cases hp:R.a a
   ·obtain⟨o',e'⟩:=hR a hp;exact k.1 a o e (h.1 a o' e' p)
   ·obtain⟨o',e'⟩:=x.dom a o e hp;exact k.1 a o e (h.1 a o' e' p),λi hi p=>k.2 i hi (h.2 i (bu hi x.gsize) p)⟩
theorem Pv.Le.back'{X:Cx}{σ:St}{s₀ s:Shared}{P P' Q:Pv}(x:Rn X Q σ s₀ s)(h:P'.Le s P)(k:P.Le s₀ Q):P'.Le s₀ Q:=
 ⟨λa o e p=>by
   by_cases hp:Q.a a
   ·exact hp
   ·obtain⟨o',e'⟩:=x.dom a o e hp;exact k.1 a o e (h.1 a o' e' p),
  λi hi p=>k.2 i hi (h.2 i (bu hi x.gsize) p)⟩
def Pv.Apart(P Q:Pv):Prop:=(∀a,P.a a→¬Q.a a)∧(∀i,P.n i→¬Q.n i)
theorem Pv.Apart.symm{P Q:Pv}(h:P.Apart Q):Q.Apart P:=⟨λa x y=>h.1 a y x,λa x y=>h.2 a y x⟩
theorem Pv.Apart.noP{P:Pv}:P.Apart am:=⟨λ_ _ h=>h,λ_ _ h=>h⟩
theorem Rn.comp(x:Rn X P σ s s₁)(y:Rn X P₁ σ₁ s₁ s₂)(hst:∀a o,s.heap.get? a=some o→¬P.a a→(σ₁ a=none↔σ a=none))(h:P₁.Le s P):Rn X P σ s s₂:=by
 refine⟨y.os.trans x.os,λa o e hp=>let ⟨o',e'⟩:=x.dom a o e hp;y.dom a o' e' λq=>hp (h.1 a o e q),λa o e hn ht hp=>?_,λp hp o vs e hd=>?_,eQ x.gsize y.gsize,λi g e hp=>y.gold i g (x.gold i g e hp) λq=>hp (h.2 i ?_ q),λi g e=>?_⟩
 ·have k:=x.keep a o e hn ht hp
  have hn':=(hst a o e hp).mpr hn
  rcases k with k|⟨hc,sl,k⟩
  ·exact y.keep a o k hn' ht λq=>hp (h.1 a o e q)
  ·exact KeptAs.trans (.inr ⟨hc,sl,k⟩) k (y.keep a _ k hn' ht λq=>hp (h.1 a o e q))
 ·obtain⟨more,e1⟩:=x.tab p hp o vs e hd
  obtain⟨more',e2⟩:=y.tab p hp _ _ e1 rfl
  exact⟨more++more',by rw[e2];simp⟩
 ·rcases nw i s.gens.size with k|k
  ·exact k
  ·rw[wB k] at e;cases e
 ·rcases y.gbare i g e with h|h
  ·exact x.gbare i g h
  ·exact .inr h
theorem Go.comp(x:Go X P g σ s g₁ σ₁ s₁)(y:Go X P₁ g₁ σ₁ s₁ g₂ σ₂ s₂)(h:P₁.Le s P):Go X P g σ s g₂ σ₂ s₂:=
 ⟨y.sat,x.le.trans y.le,λa o e hp=>(let ⟨o',e'⟩:=x.dom e hp;y.new a o' e' λq=>hp (h.1 a o e q)).trans (x.new a o e hp),
  λa o e hp=>(let ⟨o',e'⟩:=x.dom e hp;y.st a o' e' λq=>hp (h.1 a o e q)).trans (x.st a o e hp),x.run.comp y.run x.st h⟩
theorem Frm.atL(F:Frm X env m g σ s):∃o,s.heap.get? env.locals=some o:=let ⟨_,⟨o,_,_,e,_⟩,_⟩:=F.ns;⟨o,e⟩
theorem Frm.goN(F:Frm X env m g σ s)(G:Go X P g σ s g' σ' s')(F₀:Frm X env m₀ g₀ σ₀ s₀)(h:P.Le s₀ am):Frm X env m g' σ' s':=
 F.goP G (λq=>let ⟨o,e⟩:=F₀.atL;h.1 _ o e q) λx c hc q=>let ⟨o,e⟩:=F₀.csz x c hc;h.1 _ o e q
abbrev f5:=Pv→List AV→View→St→Shared→Prop
def nJ(tgt:Option Expr)(it v:Value):Sem Unit:=match tgt with|some t=>letOwnedTupleGo t it v|none=>pure ()
structure Itr(X:Cx)(k:Nat)(tgt:Option Expr)(it:Value)(Dep:St→St→Prop)(It:f5):Prop where
 next:∀{A own V l g σ s},Room A k→Sat X g σ s→It own (V::l) g σ s→wpAny (model P0 X.w) A (pyNext it) (λr s₁=>∃v,r=some v∧wpAny (model P0 X.w) A (nJ tgt it v) (λ_ s'=>∃g' own',own'.Le s own∧Go X own g σ s g' σ s'∧Rep g' V v∧It own' l g' σ s') ai s₁) ai s
 stop:∀{A own g σ s},Room A k→Sat X g σ s→It own [] g σ s→wpAny (model P0 X.w) A (pyNext it) (λr s'=>r=none∧∃g',Go X own g σ s g' σ s') ai s
 dep:∀σ,Dep σ σ
 ex:∀{own l g σ s},It own l g σ s→(∀a,own.a a→∃o,s.heap.get? a=some o)∧(∀i,own.n i→i<s.gens.size)
 self:∀{A own l g σ s} {Q:Value→Shared→Prop},Room A k→Sat X g σ s→It own l g σ s→Q it s→wpAny (model P0 X.w) A (pyIter it) Q ai s
 keep:∀{own l P g σ s g' σ' s'},It own l g σ s→Go X P g σ s g' σ' s'→own.Apart P→Dep σ σ'→It own l g' σ' s'
def jy(X:Cx)(A:Around)(E:Value→Shared→Prop)(k:Nat)(tgt:Option Expr)(V:AV)(σ:St)(Q:(St→St→Prop)→List AV→St→Prop):Prop:=
 ∀g s v,Sat X g σ s→Rep g V v→wpAny (model P0 X.w) A (pyIter v) (λit s'=>∃g' σ' Dep It own l,Go X am g σ s g' σ' s'∧own.Le s am∧Itr X k tgt it Dep It∧It own l g' σ' s'∧Q Dep l σ') E s
def fi(X:Cx)(A:Around)(E:Value→Shared→Prop)(k:Nat)(env:Env)(m:Mp)(tgt:Option Expr)(e:Expr)(σ:St)(Q:(St→St→Prop)→List AV→St→Prop):Prop:=
 ∀g s,Sat X g σ s→Frm X env m g σ s→wpAny (model P0 X.w) A (eval e env) (λv s₁=>wpAny (model P0 X.w) A (pyIter v) (λit s₂=>∃g₂ σ₂ Dep It own l,Go X am g σ s g₂ σ₂ s₂∧own.Le s am∧Itr X k tgt it Dep It∧It own l g₂ σ₂ s₂∧Q Dep l σ₂) E s₁) E s
theorem c7(h:Ev X A E env m e σ λV σ₁=>jy X A E k tgt V σ₁ Q):fi X A E k env m tgt e σ Q:=λg s S F=>
 aj (h g s S F) (λv s₁ ⟨g₁,V,σ₁,G₁,r₁,h₁⟩=>aj (h₁ g₁ s₁ v G₁.sat r₁) (λit s₂ ⟨g₂,σ₂,Dep,It,own,l,G₂,ho,I,hit,h₂⟩=>
  ⟨g₂,σ₂,Dep,It,own,l,G₁.trans G₂,⟨λa o e q=>let ⟨o',e'⟩:=G₁.dom e id;ho.1 a o' e' q,λi hi q=>ho.2 i (bu hi G₁.run.gsize) q⟩,I,hit,h₂⟩) i2) i2
def iy(X:Cx)(A:Around)(Dep:St→St→Prop)(P:Pv)(env:Env)(target:Expr)(body:List Stmt)(Q:AFl→Mp→St→Prop):List AV→Mp→St→Prop
 |[],m,σ=>Q .next m σ
 |V::l,m,σ=>As X A ai P env m target V σ λm₁ σ₁=>Exs X A ai P env m₁ body σ₁ λF m₂ σ₂=>match F with
  |.next|.cont=>Dep σ σ₂∧iy X A Dep P env target body Q l m₂ σ₂
  |.brk=>Q .next m₂ σ₂
  |.ret V=>Q (.ret V) m₂ σ₂
section
variable {X:Cx} {A:Around} {E:Value→Shared→Prop} {env:Env} {m:Mp} {σ:St} {Q:AFl→Mp→St→Prop}
structure LoopI(X:Cx)(N:Addr)(env:Env)(Dep:St→St→Prop)(It:f5)(g₀:View)(σ₀:St)(s₀:Shared)(own:Pv)(l:List AV)(m:Mp)(g:View)(σ:St)(s:Shared):Prop where
 go:Go X (ax N env) g₀ σ₀ s₀ g σ s
 frm:Frm X env m g σ s
 ownNew:own.Le s₀ am
 it:It own l g σ s
theorem Cn{X:Cx}{N:Addr}{env:Env}{m:Mp}{g:View}{σ:St}{s:Shared}{own:Pv}(F:Frm X env m g σ s)(h:own.Le s am):own.Apart (ax N env):=by
 refine⟨λa h1 h2=>?_,λ_ _ h=>h.elim⟩
 rcases h2.2 with rfl|⟨x,hx⟩
 ·obtain⟨o,e⟩:=F.atL;exact h.1 _ o e h1
 ·obtain⟨o,e⟩:=F.csz x a hx;exact h.1 _ o e h1
theorem iq(F:Frm X env m g σ s):∀a,(ax N env).a a→∃o,s.heap.get? a=some o:=λa h=>by
 rcases h.2 with rfl|⟨x,hx⟩
 ·exact F.atL
 ·exact F.csz x a hx
theorem xy{k:Nat}{N:Addr}{target:Expr}{body:List Stmt}{it:Value}{Dep:St→St→Prop}{It:f5}{g₀:View}{σ₀:St}{s₀:Shared}{m₀:Mp}(hA:Room A k)(I:Itr X k (some target) it Dep It)(F₀:Frm X env m₀ g₀ σ₀ s₀)
  {own:Pv}{l:List AV}{g:View}{s:Shared}(L:LoopI X N env Dep It g₀ σ₀ s₀ own l m g σ s)(h:iy X A Dep (ax N env) env target body Q l m σ):
  codeAny (model P0 X.w) A (.forLoop target it body [] env) (λr s'=>match r with|.ok f=>PostX X (ax N env) env g₀ σ₀ s₀ Q f s'|.error e=>False) s:=by
 refine codeAny_forLoop_any (λn s=>∃own l m g σ,l.length=n∧LoopI X N env Dep It g₀ σ₀ s₀ own l m g σ s∧iy X A Dep (ax N env) env target body Q l m σ) (λn s hI=>?_) l.length ⟨own,l,m,g,σ,rfl,L,h⟩
 clear L h
 obtain⟨own,l,m,g,σ,rfl,L,h⟩:=hI
 cases l with
 |nil=>
  refine aj (I.stop hA L.go.sat L.it) (λr s₁ ⟨hr,g',G⟩=>?_) λ_ _ x=>x.elim
  subst hr
  have ho₀:own.Le s₀ am:=L.ownNew
  exact wpAny_execs_nil ⟨g',.next,m,σ,L.go.comp G ⟨λa o e q=>(ho₀.1 a o e q).elim,λi e q=>(ho₀.2 i e q).elim⟩,L.frm.goN G F₀ ho₀,rfl,h⟩
 |cons V l=>
  refine aj (I.next hA L.go.sat L.it) (λr s₁ ⟨v,hr,h₁⟩=>?_) λ_ _ x=>x.elim
  subst hr
  refine aj h₁ (λ_ s₂ ⟨g₂,own',ho,G,rv,hit⟩=>?_) λ_ _ x=>x.elim
  have ho₀:own'.Le s₀ am:=ho.back L.go.run L.ownNew (iq L.frm)
  have hoP:own'.Le s₀ (ax N env):=⟨λa o e q=>(ho₀.1 a o e q).elim,λi e q=>(ho₀.2 i e q).elim⟩
  have hap:own'.Apart (ax N env):=Cn F₀ ho₀
  have hoP₀:own.Le s₀ (ax N env):=⟨λa o e q=>(L.ownNew.1 a o e q).elim,λi e q=>(L.ownNew.2 i e q).elim⟩
  refine aj (h g₂ s₂ v G.sat (L.frm.goN G F₀ L.ownNew) rv) (λ_ s₃ ⟨g₃,m₃,σ₃,G₃,F₃,h₃⟩=>?_) λ_ _ x=>x.elim
  refine aj (h₃ g₃ s₃ G₃.sat F₃) (λf s₄ ⟨g₄,Fl,m₄,σ₄,G₄,F₄,rf,h₄⟩=>?_) λ_ _ x=>x.elim
  have Gs:=(L.go.comp G hoP₀).trans (G₃.trans G₄)
  cases Fl with
  |next=>cases rf;exact⟨l.length,g7 _,own',l,m₄,g₄,σ₄,rfl,⟨Gs,F₄,ho₀,I.keep hit (G₃.trans G₄) hap h₄.1⟩,h₄.2⟩
  |cont=>cases rf;exact⟨l.length,g7 _,own',l,m₄,g₄,σ₄,rfl,⟨Gs,F₄,ho₀,I.keep hit (G₃.trans G₄) hap h₄.1⟩,h₄.2⟩
  |brk=>cases rf;exact⟨g₄,.next,m₄,σ₄,Gs,F₄,rfl,h₄⟩
  |ret V=>obtain⟨u,rfl,ru⟩:=rf;exact⟨g₄,.ret V,m₄,σ₄,Gs,F₄,⟨u,rfl,ru⟩,h₄⟩
theorem rQ{pos}(hA:Room A k)(h:fi X A E k env m (some target) iter σ λDep l σ₂=>iy X A Dep (ax N env) env target body Q l m σ₂)
  (hs:∀x,foldedSetIterable iter env x=pure x:=by intro _;rfl):Ex X A E (ax N env) env m (.For target iter body [] pos) σ Q:=λg s S F=>
 wpAny_For (aj (h g s S F) (λv s₁ h₁=>aj h₁ (λit s₂ ⟨g₂,σ₂,Dep,It,own,l,G,ho,I,hit,h₂⟩=>by
  refine cI (xy hA I F ⟨G.any,F.go G,ho,hit⟩ h₂) λr s' hr=>?_
  cases r with
  |ok f=>exact hr
  |error e=>exact hr.elim) i2) i2) hs
theorem C1{pos}(Inv:Nat→Mp→St→Prop)(n:Nat)(h₀:Inv n m σ)
  (h:∀n m σ,Inv n m σ→EvB X A ai env m test σ λb σ₁=>if b then Exs X A ai (ax N env) env m body σ₁ (λF m₂ σ₂=>match F with
   |.next|.cont=>∃n',n'<n∧Inv n' m₂ σ₂
   |.brk=>Q .next m₂ σ₂
   |.ret V=>Q (.ret V) m₂ σ₂) else Q .next m σ₁):Ex X A E (ax N env) env m (.While test body [] pos) σ Q:=λg₀ s₀ S₀ F₀=>by
 refine wpAny_While (cI (codeAny_whileLoop (R:=λr s'=>match r with|.ok f=>PostX X (ax N env) env g₀ σ s₀ Q f s'|.error e=>False) (λn s=>∃m' g' σ',Go X (ax N env) g₀ σ s₀ g' σ' s∧Frm X env m' g' σ' s∧Inv n m' σ') (λn s hI=>?_) n ⟨m,g₀,σ,.refl S₀,F₀,h₀⟩) λr s' hr=>?_)
 ·obtain⟨m',g',σ',G,F,hI⟩:=hI
  refine aj (h n m' σ' hI g' s G.sat F) (λb s₂ ⟨g₂,σ₂,G₂,h₂⟩=>?_) λ_ _ x=>x.elim
  cases b with
  |true=>
   refine aj (h₂ g₂ s₂ G₂.sat (F.go G₂)) (λf s₃ ⟨g₃,Fl,m₃,σ₃,G₃,F₃,rf,h₃⟩=>?_) λ_ _ x=>x.elim
   have Gs:=G.trans (G₂.any.trans G₃)
   cases Fl with
   |next=>cases rf;obtain⟨n',hn,hI'⟩:=h₃;exact⟨n',hn,m₃,g₃,σ₃,Gs,F₃,hI'⟩
   |cont=>cases rf;obtain⟨n',hn,hI'⟩:=h₃;exact⟨n',hn,m₃,g₃,σ₃,Gs,F₃,hI'⟩
   |brk=>cases rf;exact⟨g₃,.next,m₃,σ₃,Gs,F₃,rfl,h₃⟩
   |ret V=>obtain⟨u,rfl,ru⟩:=rf;exact⟨g₃,.ret V,m₃,σ₃,Gs,F₃,⟨u,rfl,ru⟩,h₃⟩
  |false=>exact wpAny_execs_nil ⟨g₂,.next,m',σ₂,G.trans G₂.any,F.go G₂,rfl,h₂⟩
 ·cases r with
  |ok f=>exact hr
  |error e=>exact hr.elim
end
def a9(I:Addr):Pv:=⟨λa=>a=I,λ_=>False⟩
def Gg:List String:=["enumerate","zip","dict_itemiterator","dict_reverseitemiterator","odict_iterator","itertools.zip_longest","itertools.pairwise"]
theorem uq{X:Cx}{A:Around}{tgt:Option Expr}{I:Addr}{v:Value}{o:Obj}{n:String}{s:Shared}{Q:Unit→Shared→Prop}(ho:s.heap.get? I=some o)(hc:o.cls=.type n)(hn:Gg.contains n=false)(h:Q () s):
  wpAny (model P0 X.w) A (nJ tgt (.ref I) v) Q ai s:=by
 unfold nJ
 cases tgt with
 |none=>exact ao h
 |some t=>
  have fin:wpAny (model P0 X.w) A (do
    let (.ref r,.ref a):=(Value.ref I,v)|return
    let o ←load r
    match o.cls,o.data with
    |.type n,.fields vs=>
     if ["enumerate","zip","dict_itemiterator","dict_reverseitemiterator","odict_iterator","itertools.zip_longest","itertools.pairwise"].contains n&&vs[0]?==some (rawInt a) then
      rule "for.unpacks-the-owned-tuple"
      updateField r 0 .none
    |_,_=>pure ()) Q ai s:=by
   cases v<;>try exact ao h
   refine ac (ja ho ?_)
   rw[hc]
   cases o.data<;>try exact ao h
   rename_i vs
   have:(["enumerate","zip","dict_itemiterator","dict_reverseitemiterator","odict_iterator","itertools.zip_longest","itertools.pairwise"]:List String).contains n=false:=hn
   simp only[this,qs,eM,dr]
   exact ao h
  cases t<;>first|exact fin|exact ao h
structure OneIt(X:Cx)(I:Addr)(n:String)(J:List AV→View→Heap→Prop):Prop where
 obj:∀l g h,J l g h→∃o,h.get? I=some o∧o.cls=.type n∧∀es ep,o.data≠.dict es ep
 keep:∀l g h g' h',J l g h→g.Le g'→g'.In h'→h'.get? I=h.get? I→J l g' h'
 self:∀{A l g s} {Q:Value→Shared→Prop},A.handled=none→J l g s.heap→Q (.ref I) s→wpAny (model P0 X.w) A (pyIter (.ref I)) Q ai s
 next:∀{A V l g s},A.handled=none→g.In s.heap→J (V::l) g s.heap→wpAny (model P0 X.w) A (pyNext (.ref I)) (λr s₁=>∃v h' t',r=some v∧s₁={s with heap:=h',toks:=t'}∧Heap.SameBut I s.heap h'∧Rep g V v∧(g I=none→J l g h')) ai s
 stop:∀{A g s},A.handled=none→g.In s.heap→J [] g s.heap→wpAny (model P0 X.w) A (pyNext (.ref I)) (λr s₁=>∃h',r=none∧s₁={s with heap:=h'}∧Heap.ExtBut I s.heap h') ai s
theorem Go.extBut(S:Sat X g σ s)(hb:Free X g σ I)(k:Heap.ExtBut I s.heap h')(hP:P.a I):Go X P g σ s g σ {s with heap:=h'}:=by
 have ne:∀a o,g a=some o→a≠I:=λa o e q=>by rw[q,hb.1] at e;cases e
 have tk:∀{a t},TrkAt X.w g s.heap a t→a≠I→TrkAt X.w g h' a t:=λ{a t} x hab=>by
  cases t with
  |dict l=>obtain⟨kvs,d,r⟩:=x;exact⟨kvs,d.at λo e=>k a o hab e,r⟩
  |ns l=>obtain⟨m,d,r⟩:=x;exact⟨m,d.at λo e=>k a o hab e,r⟩
  |obj o=>exact k a o hab x
 refine⟨⟨S.le,λa o e=>k a o (ne a o e) (S.in_ a o e),λa t e=>⟨(S.trk a t e).1,tk (S.trk a t e).2 λq=>?_⟩,λp hp=>?_⟩,.refl g,λ_ _ _ _=>rfl,λ_ _ _ _=>eD,rfl,λa o e hp=>⟨o,k a o (λq=>hp (q▸hP)) e⟩,λa o e _ _ hp=>.inl (k a o (λq=>hp (q▸hP)) e),λp hp o vs e hd=>⟨#[],?_⟩,aG _,λi x e _=>e,λi x e=>.inl e⟩
 ·rw[q,hb.2.1] at e;cases e
 ·obtain⟨e1,e2,e3,ps,e4⟩:=S.tab p hp
  refine⟨e1,e2,e3,ps,jj e4 (λo=>k _ o ?_) (λo=>k _ o (hb.2.2 p hp))⟩
  cases q:g p.1 with
  |none=>exact absurd q e3
  |some o=>exact ne _ o q
 ·rw[k _ _ (hb.2.2 p hp) e];congr 1;obtain⟨c,d,dt,sl⟩:=o;subst hd;simp
theorem OneIt.itr{X:Cx}{I:Addr}{n:String}{J}(O:OneIt X I n J)(k:Nat)(tgt:Option Expr)(hn:Gg.contains n=false:=by decide)(hf:n≠"frame":=by decide):
  Itr X k tgt (.ref I) (λ_ _=>True) (λown l g σ s=>own=a9 I∧Free X g σ I∧J l g s.heap):=by
 refine⟨λ{A own V l g σ s} hA S ⟨e,hf,hj⟩=>?_,λ{A own g σ s} hA S ⟨e,hf,hj⟩=>?_,λ_=>trivial,λ{own l g σ s} ⟨e,hf,hj⟩=>?_,λ{A own l g σ s Q} hA S ⟨e,hf,hj⟩ q=>O.self hA.handled hj q,λ{own l P g σ s g' σ' s'} ⟨e,hf',hj⟩ G hap _=>?_⟩
 ·refine aj (O.next hA.handled S.in_ hj) (λr s₁ ⟨v,h',t',hr,hs,hb,rv,hj'⟩=>⟨v,hr,?_⟩) i2
  subst hs
  have hj':=hj' hf.1
  obtain⟨o,ho,hc,_⟩:=O.obj _ _ _ hj'
  refine uq ho hc hn ⟨g,own,.refl _ _,?_,rv,e,hf,hj'⟩
  subst e
  exact(Go.sameBut S hb hf rfl).trans (Go.keeps (S.sameBut (s':={s with heap:=h'}) hb hf) λ_ _ e=>e)
 ·refine aj (O.stop hA.handled S.in_ hj) (λr s₁ ⟨h',hr,hs,hb⟩=>⟨hr,g,?_⟩) i2
  subst hs;subst e
  exact Go.extBut S hf hb rfl
 ·subst e
  obtain⟨o,ho,hc,_⟩:=O.obj _ _ _ hj
  exact⟨λa q=>⟨o,by rw[show a=I from q];exact ho⟩,λ_ q=>q.elim⟩
 ·subst e
  obtain⟨o,ho,hc,hnd⟩:=O.obj _ _ _ hj
  have hp:¬P.a I:=hap.1 I rfl
  refine⟨rfl,hf'.go G ho hp,O.keep _ _ _ _ _ hj G.le G.sat.in_ ?_⟩
  rcases G.run.keep I o ho hf'.2.1 hf'.2.2 hp with q|⟨q,_⟩
  ·rw[q,ho]
  ·obtain⟨_,_,q⟩:=q;exact absurd q (hnd _ _)
theorem nG:(a9 s.heap.objs.size).Le s am:=⟨λa o e q=>by have:=aY e;rw[show a=s.heap.objs.size from q] at this;exact bt _ this,λ_ _ h=>h.elim⟩
theorem jc{α:Type}{l:List α}{i:Nat}{x:α}{r:List α}(h:l.drop i=x::r):l[i]?=some x∧l.drop (i+1)=r:=by
 constructor
 ·have:(l.drop i)[0]?=some x:=by rw[h];rfl
  simpa using this
 ·have:(l.drop i).drop 1=r:=by rw[h];rfl
  rwa [hO] at this
theorem kA{α:Type}{l:List α}{i:Nat}(h:l.drop i=[]):l[i]?=none:=by
 have:=List.drop_eq_nil_iff.mp h
 exact t5 this
def Fj(a:Addr)(vs:List Value)(L:List AV)(I:Addr)(l:List AV)(g:View)(h:Heap):Prop:=SeqAt g "list" a vs∧RepL g L vs∧∃i,h.IsListIter I a i∧L.drop i=l
theorem A5{X:Cx}{a:Addr}{vs:List Value}{L:List AV}{I:Addr}:OneIt X I "list_iterator" (Fj a vs L I):=by
 refine⟨λl g h ⟨_,_,i,⟨o,ho,hc,hd⟩,_⟩=>⟨o,ho,hc,λ_ _ q=>by rw[hd] at q;cases q⟩,λl g h g' h' ⟨h1,h2,i,⟨o,ho,r⟩,h4⟩ hle hin he=>⟨h1.le hle,h2.le hle,i,⟨o,he.trans ho,r⟩,h4⟩,λ{A l g s Q} hh ⟨h1,h2,i,h3,h4⟩ q=>wpAny_pyIter_listiter h3 q,λ{A V l g s} hh hin ⟨h1,h2,i,h3,h4⟩=>?_,λ{A g s} hh hin ⟨h1,h2,i,h3,h4⟩=>?_⟩
 ·obtain⟨e1,e2⟩:=jc h4
  obtain⟨v,hv,rv⟩:=h2.get e1
  exact wpAny_pyNext_list_item h3 (c6 h1 hin) (by simpa using hv) λh' hi hs=>⟨v,h',_,rfl,rfl,hs,rv,λ_=>⟨h1,h2,i+1,hi,e2⟩⟩
 ·have hn:=kA h4
  have:vs[i]?=none:=by rw[iO] at hn ⊢;rw[h2.length];exact hn
  exact wpAny_pyNext_list_end hh h3 (c6 h1 hin) (by simpa using this) λh' hs=>⟨h',rfl,rfl,hs⟩
theorem fS(h:Q (λ_ _=>True) l σ):jy X A E k tgt (.lst l) σ Q:=λg s v S r=>by
 unfold Rep at r
 obtain⟨a,vs,rfl,hq,rl⟩:=r
 have G:Go X am g σ s g σ {s with heap:=s.heap.push {cls:=.type "list_iterator",data:=.fields #[.ref a,.int 0 0]}}:=Go.keeps S λb o e=>aJ _ e
 exact wpAny_pyIter_list (c6 hq S.in_) ⟨g,σ,_,_,_,l,G,nG,(A5 (a:=a) (vs:=vs) (L:=l)).itr k tgt,⟨rfl,bC S (aG _),hq,rl,0,⟨_,aX _ rfl,rfl,rfl⟩,rfl⟩,h⟩
def FO(a:Addr)(vs:List Value)(L:List AV)(I:Addr)(l:List AV)(g:View)(h:Heap):Prop:=SeqAt g "tuple" a vs∧RepL g L vs∧∃i,h.IsTupleIter I a i∧L.drop i=l
theorem ii(x:SeqAt g "tuple" a vs)(k:g.In h):h.IsTuple a vs.toArray:=let ⟨o,n,e,hc,hd⟩:=x;⟨o,k a o e,hc,n,hd⟩
theorem Ci{X:Cx}{a:Addr}{vs:List Value}{L:List AV}{I:Addr}:OneIt X I "tuple_iterator" (FO a vs L I):=by
 refine⟨λl g h ⟨_,_,i,⟨o,ho,hc,hd⟩,_⟩=>⟨o,ho,hc,λ_ _ q=>by rw[hd] at q;cases q⟩,λl g h g' h' ⟨h1,h2,i,⟨o,ho,r⟩,h4⟩ hle hin he=>⟨h1.le hle,h2.le hle,i,⟨o,he.trans ho,r⟩,h4⟩,λ{A l g s Q} hh ⟨h1,h2,i,h3,h4⟩ q=>wpAny_pyIter_tupleiter h3 q,λ{A V l g s} hh hin ⟨h1,h2,i,h3,h4⟩=>?_,λ{A g s} hh hin ⟨h1,h2,i,h3,h4⟩=>?_⟩
 ·obtain⟨e1,e2⟩:=jc h4
  obtain⟨v,hv,rv⟩:=h2.get e1
  exact wpAny_pyNext_tuple_item h3 (ii h1 hin) (by simpa using hv) λh' hi hs=>⟨v,h',_,rfl,rfl,hs,rv,λ_=>⟨h1,h2,i+1,hi,e2⟩⟩
 ·have hn:=kA h4
  have:vs[i]?=none:=by rw[iO] at hn ⊢;rw[h2.length];exact hn
  exact wpAny_pyNext_tuple_end hh h3 (ii h1 hin) (by simpa using this) λh' hs=>⟨h',rfl,rfl,hs⟩
theorem vq(h:Q (λ_ _=>True) l σ):jy X A E k tgt (.tup l) σ Q:=λg s v S r=>by
 unfold Rep at r
 obtain⟨a,vs,rfl,hq,rl⟩:=r
 have G:Go X am g σ s g σ {s with heap:=s.heap.push {cls:=.type "tuple_iterator",data:=.fields #[.ref a,.int 0 0]}}:=Go.keeps S λb o e=>aJ _ e
 exact wpAny_pyIter_tuple (ii hq S.in_) ⟨g,σ,_,_,_,l,G,nG,(Ci (a:=a) (vs:=vs) (L:=l)).itr k tgt,⟨rfl,bC S (aG _),hq,rl,0,⟨_,aX _ rfl,rfl,rfl⟩,rfl⟩,h⟩
def ay(b:List UInt8):List AV:=b.map λc=>.int (c.toNat:Int)
def Fw(b:List UInt8)(t:Tok)(I:Addr)(l:List AV)(g:View)(h:Heap):Prop:=∃i,KBw.IsBytesIter h I b.toArray t i∧(ay b).drop i=l
theorem xR{X:Cx}{b:List UInt8}{t:Tok}{I:Addr}:OneIt X I "bytes_iterator" (Fw b t I):=by
 refine⟨λl g h ⟨i,⟨o,ho,hc,hd⟩,_⟩=>⟨o,ho,hc,λ_ _ q=>by rw[hd] at q;cases q⟩,λl g h g' h' ⟨i,⟨o,ho,r⟩,h4⟩ hle hin he=>⟨i,⟨o,he.trans ho,r⟩,h4⟩,λ{A l g s Q} hh ⟨i,h3,h4⟩ q=>KBw.pyIter_self h3 q,λ{A V l g s} hh hin ⟨i,h3,h4⟩=>?_,λ{A g s} hh hin ⟨i,h3,h4⟩=>?_⟩
 ·obtain⟨e1,e2⟩:=jc h4
  unfold ay at e1
  rw[eN,wE] at e1
  obtain⟨c,hc,rfl⟩:=e1
  exact KBw.next_item h3 (c:=c) (by simpa using hc) λh' hi hs=>⟨_,h',_,rfl,rfl,hs,.int,λ_=>⟨i+1,hi,e2⟩⟩
 ·have hn:=kA h4
  have:b[i]?=none:=by rw[iO] at hn ⊢;simpa [ay] using hn
  exact KBw.next_end hh h3 (by simpa using this) λh' hs=>⟨h',rfl,rfl,hs⟩
theorem ya(h:Q (λ_ _=>True) (ay b) σ):jy X A E k tgt (.bytes b) σ Q:=λg s v S r=>by
 unfold Rep at r
 obtain⟨t,rfl⟩:=r
 have G:Go X am g σ s g σ {s with heap:=s.heap.push {cls:=.type "bytes_iterator",data:=.fields #[.bytes b.toArray t,.int 0 0]}}:=Go.keeps S λb o e=>aJ _ e
 exact ul ⟨g,σ,_,_,_,_,G,nG,(xR (b:=b) (t:=t)).itr k tgt,⟨rfl,bC S (aG _),0,⟨_,aX _ rfl,rfl,rfl⟩,rfl⟩,h⟩
def cw(a c:Int)(n:Nat):List AV:=(List.range n).map λ(i:Nat)=>.int (a+(i:Int) * c)
theorem xA(a c:Int)(n:Nat):cw a c (n+1)=.int a::cw (a+c) c n:=by
 unfold cw
 rw[List.range_succ_eq_map,bQ,cC]
 congr 1
 ·simp
 ·apply j6
  intro i _
  simp only[Function.comp]
  congr 1
  push_cast
  rw[Int.add_mul,Int.one_mul];omega
def FI(c:Int)(I:Addr)(l:List AV)(g:View)(h:Heap):Prop:=∃x n,IsRangeIter h I x ((n:Nat):Int) c∧l=cw x c n
theorem Cc:OneIt X I "range_iterator" (FI c I):=by
 refine⟨λl g h ⟨x,n,ho,_⟩=>⟨_,ho,rfl,λ_ _ q=>by cases q⟩,λl g h g' h' ⟨x,n,ho,r⟩ hle hin he=>⟨x,n,he.trans ho,r⟩,λ{A l g s Q} hh ⟨x,n,h3,h4⟩ q=>wpAny_pyIter_rangeiter h3 q,λ{A V l g s} hh hin ⟨x,n,h3,h4⟩=>?_,λ{A g s} hh hin ⟨x,n,h3,h4⟩=>?_⟩
 ·cases n with
  |zero=>cases h4
  |succ n=>
   rw[xA] at h4
   cases h4
   exact wpAny_pyNext_range_item h3 (by omega) λh' hi hs=>⟨_,h',_,rfl,rfl,hs,.int,λ_=>⟨x+c,n,by rw[show((n+1:Nat):Int) - 1=(n:Int) by omega] at hi;exact hi,rfl⟩⟩
 ·cases n with
  |zero=>exact wpAny_pyNext_range_end hh h3 (by simp) λh' hs=>⟨h',rfl,rfl,hs⟩
  |succ n=>rw[xA] at h4;cases h4
theorem rj{X:Cx}{A:Around}{E:Value→Shared→Prop}{k:Nat}{tgt:Option Expr}{a b c:Int}{n:Nat}{σ:St}{Q:(St→St→Prop)→List AV→St→Prop}(hsm:Builtin.Range.small a b c=true)(hn:Builtin.Range.rangeSize a b c=n)
  (h:Q (λ_ _=>True) (cw a c n) σ):jy X A E k tgt (.rng a b c) σ Q:=λg s v S r=>by
 unfold Rep at r
 obtain⟨q,t,u,y,rfl,e⟩:=r
 have G:Go X am g σ s g σ {s with heap:=s.heap.push {cls:=.type "range_iterator",data:=.fields #[rawInt a,rawInt (Builtin.Range.rangeSize a b c),rawInt c]}}:=Go.keeps S λb o e=>aJ _ e
 exact wpAny_pyIter_range (S.in_ q _ e) hsm ⟨g,σ,_,_,_,_,G,nG,(Cc (c:=c)).itr k tgt,⟨rfl,bC S (aG _),a,n,by rw[←hn];exact aX _ rfl,rfl⟩,h⟩
theorem nj:∀(names:List (Str×NameKind)) (h:Heap) (acc:List (Str×Addr)) (p:Str×Addr),p∈cellsFrom h.objs.size names acc→
  p∈acc∨(h.objs.size≤p.2∧(pushCells h names).IsCell p.2 none∧(p.1,NameKind.cell)∈names)
 |[],h,acc,p,hp=>.inl hp
 |(x,k)::r,h,acc,p,hp=>by
  unfold cellsFrom at hp
  unfold pushCells
  by_cases hk:(k==NameKind.cell)=true
  ·rw[ah hk] at hp ⊢
   have e:=nj r (h.push {cls:=.type "cell",data:=.cell none}) ((x,h.objs.size)::acc) p (by rw[dj];exact hp)
   rcases e with e|⟨e1,e2,e3⟩
   ·rcases bv.mp e with e|e
    ·subst e
     refine .inr ⟨aG _,⟨_,pushCells_keeps _ _ _ _ (aX _ rfl),rfl⟩,?_⟩
     rw[show k=.cell from by simpa using hk];exact bj
    ·exact .inl e
   ·rw[dj] at e1
    exact .inr ⟨Nat.le_of_succ_le e1,e2,aR _ e3⟩
  ·rw[ae hk] at hp ⊢
   rcases nj r h acc p hp with e|⟨e1,e2,e3⟩
   ·exact .inl e
   ·exact .inr ⟨e1,e2,aR _ e3⟩
theorem uE:∀(names:List (Str×NameKind)) (n:Nat) (acc:List (Str×Addr)),acc.Pairwise (λx y=>x.2≠y.2)→(∀p∈acc,p.2<n)→(cellsFrom n names acc).Pairwise (λx y=>x.2≠y.2)
 |[],n,acc,hp,_=>hp
 |(x,k)::r,n,acc,hp,hl=>by
  unfold cellsFrom
  split
  ·exact uE r (n+1) _ (List.pairwise_cons.mpr ⟨λy hy e=>bt _ (e▸hl y hy),hp⟩) λp hq=>by
    rcases bv.mp hq with e|e
    ·subst e;exact g7 _
    ·exact qh (hl p e)
  ·exact uE r n acc hp hl
def dh(env:Env):List (Str×NameKind)→List (Str×Addr)→List (Str×Addr)
 |[],acc=>acc
 |(x,k)::r,acc=>if k==.free then dh env r ((x,(env.cells.lookup x).getD 0)::acc) else dh env r acc
def fa(env:Env)(names:List (Str×NameKind)):Bool:=names.all λp=>p.2 !=.free||((env.cells.lookup p.1).isSome&&(env.kindOf p.1==some .cell||env.kindOf p.1==some .free))
theorem qT{env:Env}{x:Str}{k:NameKind}(h:(k !=.free||((env.cells.lookup x).isSome&&(env.kindOf x==some .cell||env.kindOf x==some .free)))=true)(hk:k=.free):
  (∃c,env.cells.lookup x=some c)∧(env.kindOf x=some .cell∨env.kindOf x=some .free):=by
 subst hk
 rw[show((NameKind.free !=NameKind.free)=false) from rfl,nq,fq,iS,bd,bd] at h
 exact⟨wz.mp h.1,h.2⟩
theorem Ap{scope:Scope}{env:Env}(h:fa env scope.names=true):closureFor scope env=pure (dh env scope.names []):=by
 have go:∀(names:List (Str×NameKind)) (acc:List (Str×Addr)),fa env names=true→(forIn names acc λ(x:Str×NameKind) (cs:List (Str×Addr))=>(if (x.2==.free)=true then do
   let a ←cellOf env x.1
   pure (ForInStep.yield ((x.1,a)::cs)) else pure (ForInStep.yield cs):Sem (ForInStep (List (Str×Addr)))))=pure (dh env names acc):=by
  intro names
  induction names with
  |nil=>intro acc _;rfl
  |cons p r ih=>
   obtain⟨x,k⟩:=p
   intro acc hf
   unfold fa at hf
   rw[List.all_cons,fq] at hf
   rw[mW]
   unfold dh
   by_cases hk:(k==NameKind.free)=true
   ·rw[ah hk]
    have hk':k=.free:=by simpa using hk
    obtain⟨⟨c,hc⟩,_⟩:=qT hf.1 hk'
    subst hk'
    have ec:cellOf env x=pure c:=by unfold cellOf;rw[hc]
    rw[ah (by rfl),ec,hc]
    exact ih _ hf.2
   ·rw[ae hk]
    simp only[hk,eM,dr,pure_bind]
    exact ih _ hf.2
 unfold closureFor
 have:=go scope.names [] h
 simp only[bind_pure] at this ⊢
 exact this
theorem kH{env:Env}:∀(names:List (Str×NameKind)) (acc:List (Str×Addr)) (p:Str×Addr),fa env names=true→p∈dh env names acc→p∈acc∨((p.1,NameKind.free)∈names∧env.cells.lookup p.1=some p.2∧(env.kindOf p.1=some .cell∨env.kindOf p.1=some .free))
 |[],acc,p,_,hp=>.inl hp
 |(x,k)::r,acc,p,hf,hp=>by
  unfold fa at hf
  rw[List.all_cons,fq] at hf
  unfold dh at hp
  by_cases hk:(k==NameKind.free)=true
  ·rw[ah hk] at hp
   have hk':k=.free:=by simpa using hk
   subst hk'
   rcases kH r _ p hf.2 hp with e|⟨e1,e2⟩
   ·rcases bv.mp e with e|e
    ·subst e
     obtain⟨⟨c,hc⟩,h1⟩:=qT hf.1 rfl
     exact .inr ⟨bj,by simp[hc],h1⟩
    ·exact .inl e
   ·exact .inr ⟨aR _ e1,e2⟩
  ·rw[ae hk] at hp
   rcases kH r _ p hf.2 hp with e|⟨e1,e2⟩
   ·exact .inl e
   ·exact .inr ⟨aR _ e1,e2⟩
theorem vO{env:Env}(hinj:env.cells.Pairwise λx y=>x.2≠y.2):∀(names:List (Str×NameKind)) (acc:List (Str×Addr)),fa env names=true→(names.map (·.1)).Nodup→acc.Pairwise (λx y=>x.2≠y.2)→
  (∀p∈acc,env.cells.lookup p.1=some p.2∧p.1 ∉ names.map (·.1))→(dh env names acc).Pairwise (λx y=>x.2≠y.2)
 |[],acc,_,_,hp,_=>hp
 |(x,k)::r,acc,hf,hn,hp,ha=>by
  unfold fa at hf
  rw[List.all_cons,fq] at hf
  rw[bQ,iT] at hn
  unfold dh
  by_cases hk:(k==NameKind.free)=true
  ·rw[ah hk]
   have hk':k=.free:=by simpa using hk
   subst hk'
   obtain⟨⟨c,hc⟩,h1⟩:=qT hf.1 rfl
   refine vO hinj r _ hf.2 hn.2 (List.pairwise_cons.mpr ⟨λy hy e=>?_,hp⟩) λp hq=>?_
   ·obtain⟨e1,e2⟩:=ha y hy
    have:x=y.1:=name_of_addr hinj (mem_of_lookup hc) (mem_of_lookup (by rw[e1,←e,hc];rfl))
    exact e2 (by rw[←this,bQ];exact bj)
   ·rcases bv.mp hq with e|e
    ·subst e;exact⟨by simp[hc],hn.1⟩
    ·exact⟨(ha p e).1,λq=>(ha p e).2 (by rw[bQ];exact aR _ q)⟩
  ·rw[ae hk]
   exact vO hinj r _ hf.2 hn.2 hp λp hq=>⟨(ha p hq).1,λq=>(ha p hq).2 (by rw[bQ];exact aR _ q)⟩
theorem uA{β:Type}:∀{l:List (Str×β)} {x:Str} {k:β},(l.map (·.1)).Nodup→(x,k)∈l→l.lookup x=some k
 |(y,b)::r,x,k,hn,hm=>by
  rw[bQ,iT] at hn
  rw[a8]
  rcases bv.mp hm with e|e
  ·cases e;simp
  ·have:x≠y:=λq=>hn.1 (q▸aP.mpr ⟨_,e,rfl⟩)
   rw[mU this]
   exact uA hn.2 e
theorem mZ{env:Env}:∀(names:List (Str×NameKind)) (x:Str),
  (names.map λ(n,k)=>if (k==NameKind.free&&env.scope.kind==.function&&env.kindOf n==some .cell) then (n,NameKind.cell) else (n,k)).lookup x=
   (names.lookup x).map λk=>if (k==NameKind.free&&env.scope.kind==.function&&env.kindOf x==some .cell) then NameKind.cell else k
 |[],x=>rfl
 |(y,k)::r,x=>by
  rw[bQ]
  by_cases hc:(k==NameKind.free&&env.scope.kind==.function&&env.kindOf y==some .cell)=true
  ·show List.lookup x ((if _ then (y,NameKind.cell) else (y,k))::_)=_
   rw[ah hc]
   by_cases q:x=y
   ·subst q
    rw[a8,a8,beq_self_eq_true]
    show some NameKind.cell=some (if _ then _ else _)
    rw[ah hc]
   ·rw[a8,a8,mU q]
    exact mZ (env:=env) r x
  ·show List.lookup x ((if _ then (y,NameKind.cell) else (y,k))::_)=_
   rw[ae hc]
   by_cases q:x=y
   ·subst q
    rw[a8,a8,beq_self_eq_true]
    show some k=some (if _ then _ else _)
    rw[ae hc]
   ·rw[a8,a8,mU q]
    exact mZ (env:=env) r x
def aS(scope:Scope)(C:Addr)(env:Env):Env:=
 {scope:=relabel scope env,locals:=C,globals:=env.globals,cells:=cellsFrom (C+1) scope.names (dh env scope.names []),qual:=env.qual,func:=none,code:=env.code,frame:=env.frame,builtins:=env.builtins}
theorem A1
  (h:∀cenv:Env,{cenv with scope:=relabel scope env}=aS scope s.heap.objs.size env→cenv.locals=s.heap.objs.size→Q cenv {s with heap:=pushCells (s.heap.push {cls:=.type "dict",data:=.dict #[]}) scope.names}):
  wpAny M A (newFunctionEnv scope env.globals (dh env scope.names []) [] env.qual none .none (some env)) Q E s:=by
 simp only[newFunctionEnv,uc,if_true]
 refine ac (wpAny_alloc ?_)
 refine ac (wpAny_layCells _ (λname kind cells=>by cases hkc:kind==NameKind.cell<;>simp[hkc]) _ _ _ _ ?_)
 rw[show({s with heap:=s.heap.push {cls:=.type "dict",data:=.dict #[]}}:Shared).heap.objs.size=s.heap.objs.size+1 from dj ..]
 refine ac ?_
 rw[List.forIn_nil]
 exact ao (ao (h _ rfl rfl))
def gR(scope:Scope)(m:Mp):Mp:=λy=>if scope.names.lookup y=some .free then m y else none
theorem C2{X:Cx}{env:Env}{m:Mp}{g:View}{σ:St}{s:Shared}{scope:Scope}(S:Sat X g σ s)(F:Frm X env m g σ s)(hk:scope.kind=.function)(hf:fa env scope.names=true)(hn:(scope.names.map (·.1)).Nodup):
  Frm X (aS scope s.heap.objs.size env) (gR scope m) g σ {s with heap:=pushCells (s.heap.push {cls:=.type "dict",data:=.dict #[]}) scope.names}∧
   Go X am g σ s g σ {s with heap:=pushCells (s.heap.push {cls:=.type "dict",data:=.dict #[]}) scope.names}:=by
 have keep:∀b o,s.heap.get? b=some o→(pushCells (s.heap.push {cls:=.type "dict",data:=.dict #[]}) scope.names).get? b=some o:=λb o e=>pushCells_keeps _ _ _ _ (aJ _ e)
 have G:Go X am g σ s g σ {s with heap:=pushCells (s.heap.push {cls:=.type "dict",data:=.dict #[]}) scope.names}:=Go.keeps S keep
 have src:∀y c,(aS scope s.heap.objs.size env).cells.lookup y=some c→
   (scope.names.lookup y=some .free∧env.cells.lookup y=some c∧(env.kindOf y=some .cell∨env.kindOf y=some .free))∨
   (scope.names.lookup y=some .cell∧s.heap.objs.size<c∧(pushCells (s.heap.push {cls:=.type "dict",data:=.dict #[]}) scope.names).IsCell c none):=λy c hc=>by
  have hm:(y,c)∈cellsFrom (s.heap.objs.size+1) scope.names (dh env scope.names []):=mem_of_lookup hc
  have hm':=nj scope.names (s.heap.push {cls:=.type "dict",data:=.dict #[]}) (dh env scope.names []) (y,c) (by rw[dj];exact hm)
  rcases hm' with h1|⟨h1,h2,h3⟩
  ·rcases kH scope.names [] (y,c) hf h1 with h1|⟨h1,h2,h3⟩
   ·cases h1
   ·exact .inl ⟨uA hn h1,h2,h3⟩
  ·rw[dj] at h1
   exact .inr ⟨uA hn h3,h1,h2⟩
 refine⟨⟨hk,bC S (aG _),⟨_,(Heap.Ns.new s.heap (.type "dict")).keeps (pushCells_keeps _ _),λx V hm hl=>?_⟩,λy c hc hkc hfr=>?_,λy V hm=>?_,?_,λy c hc=>?_,λy c hkc hx hc=>?_⟩,G⟩
 ·unfold gR at hm
  split at hm
  ·rename_i q
   have:(aS scope s.heap.objs.size env).kindOf x=(scope.names.lookup x).map _:=mZ scope.names x
   rw[this,q,Option.map_some] at hl
   split at hl<;>cases hl
  ·cases hm
 ·rcases src y c hc with ⟨h1,h2,h3⟩|⟨h1,h2,h3⟩
  ·have hfr₀:Free X g σ c:=hfr
   obtain⟨hne,v,hi,hr⟩:=F.cells y c h2 h3 hfr₀
   obtain⟨o,ho⟩:=F.csz y c h2
   refine⟨λe=>?_,v,hi.keeps keep,λV hm=>?_⟩
   ·have:=aY ho;rw[e] at this;exact bt _ this
   ·unfold gR at hm;rw[ah h1] at hm;exact hr V hm
  ·refine⟨kh h2,none,h3,λV hm=>?_⟩
   unfold gR at hm;rw[h1,ae (by decide)] at hm;cases hm
 ·unfold gR at hm
  split at hm
  ·rename_i q
   have hko:(aS scope s.heap.objs.size env).kindOf y=some .cell∨(aS scope s.heap.objs.size env).kindOf y=some .free:=by
    have:(aS scope s.heap.objs.size env).kindOf y=(scope.names.lookup y).map _:=mZ scope.names y
    rw[this,q]
    simp only[Option.map_some]
    split
    ·exact .inl rfl
    ·exact .inr rfl
   obtain⟨⟨c,hc⟩,hf1⟩:=qT (gq.mp hf (y,.free) (mem_of_lookup q)) rfl
   have hfr:Free X g σ c:=by
    rcases F.var y V hm with h|⟨h,c',h1,h2⟩
    ·rcases hf1 with h'|h'<;>rw[h'] at h<;>cases h
    ·rw[hc] at h1;cases h1;exact h2
   have hcl:∃c',(aS scope s.heap.objs.size env).cells.lookup y=some c':=by
    have go:∀(names:List (Str×NameKind)) (acc:List (Str×Addr)),(y,NameKind.free)∈names∨(∃c,acc.lookup y=some c)→∃c,(dh env names acc).lookup y=some c:=by
     intro names
     induction names with
     |nil=>intro acc h;rcases h with h|h;cases h;exact h
     |cons p r ih=>
      intro acc h
      obtain⟨x,k⟩:=p
      unfold dh
      split
      ·rename_i hkf
       refine ih _ ?_
       rcases h with h|⟨c,h⟩
       ·rcases bv.mp h with e|e
        ·cases e;exact .inr ⟨(env.cells.lookup y).getD 0,by rw[a8];simp⟩
        ·exact .inl e
       ·by_cases q:y=x
        ·exact .inr ⟨(env.cells.lookup x).getD 0,by rw[a8];simp[q]⟩
        ·exact .inr ⟨c,by rw[a8,mU q];exact h⟩
      ·rename_i hkf
       refine ih _ ?_
       rcases h with h|h
       ·rcases bv.mp h with e|e
        ·cases e;exact absurd rfl hkf
        ·exact .inl e
       ·exact .inr h
    obtain⟨c',hc'⟩:=go scope.names [] (.inl (mem_of_lookup q))
    exact nh scope.names (s.heap.objs.size+1) (dh env scope.names []) hc'
   obtain⟨c',hc'⟩:=hcl
   refine .inr ⟨hko,c',hc',?_⟩
   rcases src y c' hc' with ⟨_,h2,_⟩|⟨h1,_⟩
   ·rw[hc] at h2;cases h2;exact hfr
   ·rw[q] at h1;cases h1
  ·cases hm
 ·refine uE scope.names _ _ (vO F.inj scope.names [] hf hn List.Pairwise.nil (λp hp=>(nomatch hp))) λp hp=>?_
  rcases kH scope.names [] p hf hp with h1|⟨_,h2,_⟩
  ·cases h1
  ·obtain⟨o,ho⟩:=F.csz p.1 p.2 h2
   exact qh (aY ho)
 ·rcases src y c hc with ⟨h1,h2,h3⟩|⟨h1,h2,o,h3,_⟩
  ·obtain⟨o,ho⟩:=F.csz y c h2;exact⟨o,keep _ _ ho⟩
  ·exact⟨o,h3⟩
 ·rcases src y c hc with ⟨h1,h2,h3⟩|⟨h1,h2,_⟩
  ·rcases h3 with h3|h3
   ·exact F.own y c h3 hx h2
   ·have:(aS scope s.heap.objs.size env).kindOf y=(scope.names.lookup y).map _:=mZ scope.names y
    rw[this,h1,h3,Option.map_some] at hkc
    split at hkc
    ·rename_i q;simp at q
    ·cases hkc
  ·exact bC S (eR h2)
def PvD(N:Addr)(env:Env)(D:Addr):Pv:=⟨λb=>(ax N env).a b∨b=D,λ_=>False⟩
theorem PvD.le:(ax N env).Le s (PvD N env D):=⟨λ_ _ _ h=>.inl h,λ_ _ h=>h⟩
def Dst(X:Cx)(D:Addr)(out:List AV)(g:View)(σ:St)(s:Shared):Prop:=Free X g σ D∧∃ys,s.heap.IsList D ys.toArray∧RepL g out ys
theorem Dst.go(h:Dst X D out g σ s)(G:Go X P g σ s g' σ' s')(hp:¬P.a D):Dst X D out g' σ' s':=by
 obtain⟨hf,ys,⟨o,ho,hc,n,hd⟩,r⟩:=h
 refine⟨hf.go G ho hp,ys,?_,r.le G.le⟩
 rcases G.run.keep D o ho hf.2.1 hf.2.2 hp with q|⟨q,_⟩
 ·exact⟨o,q,hc,n,hd⟩
 ·obtain⟨_,_,q⟩:=q;rw[hd] at q;cases q
theorem Dst.at(h:Dst X D out g σ s):∃o,s.heap.get? D=some o:=let ⟨_,_,⟨o,ho,_⟩,_⟩:=h;⟨o,ho⟩
def p0(X:Cx)(A:Around)(env:Env)(m:Mp):List Expr→St→(Bool→St→Prop)→Prop
 |[],σ,Q=>Q true σ
 |[c],σ,Q=>EvB X A ai env m c σ Q
 |_,_,_=>False
theorem ED(h:p0 X A env m ifs σ Q)(S:Sat X g σ s)(F:Frm X env m g σ s):
  wpAny (model P0 X.w) A (forIn ifs true λc r=>if r=true then do let ok ←isTrue c env (eval c env);pure (ForInStep.yield ok) else pure (ForInStep.yield r)) (PostB X am g σ s Q) ai s:=by
 match ifs,h with
 |[],h=>exact wpAny_tests_nil ⟨g,σ,.refl S,h⟩
 |[c],h=>exact wpAny_tests_one (h g s S F)
def gK:=Mp→St→List AV→(Mp→St→List AV→Prop)→Prop
def fg(X:Cx)(A:Around)(Dep:St→St→Prop)(P:Pv)(env:Env)(target:Expr)(ifs:List Expr)(J:gK)(K:Mp→St→List AV→Prop):List AV→Mp→St→List AV→Prop
 |[],m,σ,out=>K m σ out
 |V::l,m,σ,out=>As X A ai P env m target V σ λm₁ σ₁=>p0 X A env m₁ ifs σ₁ λb σ₂=>
   if b then J m₁ σ₂ out (λm₂ σ₃ out₃=>Dep σ σ₃∧fg X A Dep P env target ifs J K l m₂ σ₃ out₃) else Dep σ σ₂∧fg X A Dep P env target ifs J K l m₁ σ₂ out
def gE(e:Expr)(depth:Nat)(target iter:Expr)(ifs:List Expr)(it acc:Value)(env:Env)(T:Sem Unit):Sem Fin:=do
 standAt iter.pos
 match ←pyNext it with
 |none=>pure (.done .next)
 |some v=>
  letOwnedTupleGo target it v
  assign target env v
  let mut ok:=true
  for c in ifs do
   if ok then ok ←isTrue c env (eval c env)
  if ok then T
  again (.compLoop e depth it acc env)
def mF(X:Cx)(A:Around)(N:Addr)(env:Env)(D:Addr)(T:Sem Unit)(J:gK):Prop:=
 ∀m σ out K g s,J m σ out K→Sat X g σ s→Frm X env m g σ s→Dst X D out g σ s→wpAny (model P0 X.w) A T (λ_ s'=>∃m' σ' out' g',Go X (PvD N env D) g σ s g' σ' s'∧Frm X env m' g' σ' s'∧Dst X D out' g' σ' s'∧K m' σ' out') ai s
def iA(env:Env)(D:Addr):Pv:=⟨λb=>b=env.locals∨(∃x,env.cells.lookup x=some b)∨b=D,λ_=>False⟩
theorem DH{own:Pv}{N:Addr}{env:Env}{D:Addr}(h:own.Apart (iA env D)):own.Apart (PvD N env D):=
 ⟨λa h1 h2=>h.1 a h1 (by rcases h2 with ⟨_,h2|h2⟩|h2;exact .inl h2;exact .inr (.inl h2);exact .inr (.inr h2)),λ_ _ h=>h.elim⟩
theorem CV{X:Cx}{own own':Pv}{env:Env}{D:Addr}{m:Mp}{out:List AV}{g:View}{σ:St}{s:Shared}(h:own.Apart (iA env D))(k:own'.Le s own)(F:Frm X env m g σ s)(hd:Dst X D out g σ s):own'.Apart (iA env D):=by
 refine⟨λa h1 h2=>?_,λ_ _ h=>h.elim⟩
 have:∃o,s.heap.get? a=some o:=by
  rcases h2 with rfl|⟨x,hx⟩|rfl
  ·exact F.atL
  ·exact F.csz x a hx
  ·exact hd.at
 obtain⟨o,e⟩:=this
 exact h.1 a (k.1 a o e h1) h2
theorem xo{X:Cx}{A:Around}{k depth:Nat}{N:Addr}{e target iter:Expr}{ifs:List Expr}{it:Value}{D:Addr}{env:Env}{T:Sem Unit}{J:gK}{K:Mp→St→List AV→Prop}{Dep:St→St→Prop}{It:f5}{Pb:Pv}
  {g₀:View}{σ₀:St}{s₀:Shared}(hA:Room A k)(hTm:compTurn e depth it (.ref D) env=gE e depth target iter ifs it (.ref D) env T)
  (hfr:(Code.compLoop e depth it (.ref D) env).isFrame=false)(hund:A.under (.compLoop e depth it (.ref D) env)=A)(hqu:(Code.compLoop e depth it (.ref D) env).quiet=true)
  (I:Itr X k (some target) it Dep It)(hPb:(PvD N env D).Le s₀ Pb)(hDN:D<N)(hJ:mF X A N env D T J)
  {own:Pv}{l:List AV}{m:Mp}{out:List AV}{g:View}{σ:St}{s:Shared}(G:Go X Pb g₀ σ₀ s₀ g σ s)(F:Frm X env m g σ s)(hd:Dst X D out g σ s)(ho:own.Le s₀ Pb)(hap:own.Apart (iA env D))(hit:It own l g σ s)
  (h:fg X A Dep (ax N env) env target ifs J K l m σ out):
  codeAny (model P0 X.w) A (.compLoop e depth it (.ref D) env) (λr s'=>r=.ok .next∧∃m' σ' out' g',Go X Pb g₀ σ₀ s₀ g' σ' s'∧Frm X env m' g' σ' s'∧Dst X D out' g' σ' s'∧K m' σ' out') s:=by
 refine codeAny_loop hqu (λn s=>∃own l m out g σ,l.length=n∧Go X Pb g₀ σ₀ s₀ g σ s∧Frm X env m g σ s∧Dst X D out g σ s∧own.Le s₀ Pb∧own.Apart (iA env D)∧It own l g σ s∧fg X A Dep (ax N env) env target ifs J K l m σ out) (λn s hI=>?_) l.length ⟨own,l,m,out,g,σ,rfl,G,F,hd,ho,hap,hit,h⟩
 clear G F hd ho hap hit h
 obtain⟨own,l,m,out,g,σ,rfl,G,F,hd,ho,hap,hit,h⟩:=hI
 rw[hund]
 have hden:(model P0 X.w).den (.compLoop e depth it (.ref D) env)=(compTurn e depth it (.ref D) env).onRaise (λx=>do noteFrame x env;theTreesLotGoes x):=by
  show(if (Code.compLoop e depth it (.ref D) env).isFrame=true then _ else _)=_
  rw[hfr];rfl
 rw[hden]
 refine wpAny_noted (aj (E:=ai) ?_ i2 λ_ _ x=>x.elim)
 rw[hTm]
 unfold gE
 have FgoN:∀{own':Pv} {m:Mp} {g g':View} {σ σ':St} {s s':Shared},own'.Apart (iA env D)→Frm X env m g σ s→Go X own' g σ s g' σ' s'→Frm X env m g' σ' s':=λha F G=>F.goP G (λq=>ha.1 _ q (.inl rfl)) λx c hc q=>ha.1 _ q (.inr (.inl ⟨x,hc⟩))
 refine ac (bL ?_)
 cases l with
 |nil=>
  refine ac (aj (I.stop hA G.sat hit) (λr s₁ ⟨hr,g',G'⟩=>?_) i2)
  subst hr
  exact ao ⟨rfl,m,σ,out,g',G.comp G' ho,FgoN hap F G',hd.go G' (λq=>hap.1 _ q (.inr (.inr rfl))),h⟩
 |cons V l=>
  refine ac (aj (I.next hA G.sat hit) (λr s₁ ⟨v,hr,h₁⟩=>?_) i2)
  subst hr
  refine ac (aj h₁ (λ_ s₂ ⟨g₂,own',ho',G',rv,hit'⟩=>?_) i2)
  have ho₀:own'.Le s₀ Pb:=ho'.back' G.run ho
  have ha':=CV hap ho' F hd
  have hap':own'.Apart (PvD N env D):=DH ha'
  have F₂:=FgoN hap F G'
  have hd₂:=hd.go G' (λq=>hap.1 _ q (.inr (.inr rfl)))
  refine ac (aj (h g₂ s₂ v G'.sat F₂ rv) (λ_ s₃ ⟨g₃,m₃,σ₃,G₃,F₃,h₃⟩=>?_) i2)
  have hnD:¬(ax N env).a D:=λq=>Nat.not_le.mpr hDN q.1
  have hd₃:=hd₂.go G₃ hnD
  refine ac (aj (ED h₃ G₃.sat F₃) (λb s₄ ⟨g₄,σ₄,G₄,h₄⟩=>?_) i2)
  have G₂₄:Go X (PvD N env D) g₂ σ s₂ g₄ σ₄ s₄:=(G₃.weaken PvD.le).trans G₄.any
  have Gs:=(G.comp G' ho).comp G₂₄ hPb
  cases b with
  |false=>
   refine ao ?_
   exact⟨rfl,l.length,g7 _,own',l,m₃,out,g₄,σ₄,rfl,Gs,F₃.go G₄,hd₃.go G₄ id,ho₀,ha',I.keep hit' G₂₄ hap' h₄.1,h₄.2⟩
  |true=>
   refine ac (aj (hJ _ _ _ _ g₄ s₄ h₄ G₄.sat (F₃.go G₄) (hd₃.go G₄ id)) (λ_ s₅ ⟨m₅,σ₅,out₅,g₅,G₅,F₅,hd₅,hdep,h₅⟩=>?_) i2)
   refine ao ?_
   exact⟨rfl,l.length,g7 _,own',l,m₅,out₅,g₅,σ₅,rfl,Gs.comp G₅ hPb,F₅,hd₅,ho₀,ha',I.keep hit' (G₂₄.trans G₅) hap' hdep,h₅⟩
theorem w9{X:Cx}{A:Around}{e:Expr}{depth:Nat}{it acc:Value}{env:Env}{R:Result→Shared→Prop}{s:Shared}
  (hfr:(Code.compStart e depth it acc env).isFrame=false)(hund:A.under (.compStart e depth it acc env)=A)(hqu:(Code.compLoop e depth it acc env).quiet=true)
  (has:((clausesOf e)[depth]?).elim false (·.is_async !=0)=false)
  (hself:wpAny (model P0 X.w) A (pyIter it) (λr s'=>r=it∧s'=s) ai s)(h:codeAny (model P0 X.w) A (.compLoop e depth it acc env) R s):codeAny (model P0 X.w) A (.compStart e depth it acc env) R s:=by
 refine codeAny_of_tree ?_
 rw[hund]
 have hden:(model P0 X.w).den (.compStart e depth it acc env)=(compStart e depth it acc env).onRaise (λx=>do noteFrame x env;standAt theWindowsPlace):=by
  show(if (Code.compStart e depth it acc env).isFrame=true then _ else _)=_
  rw[hfr];rfl
 rw[hden]
 refine wpAny_notedAt (aj (E:=ai) ?_ i2 λ_ _ x=>x.elim)
 have fin:wpAny (model P0 X.w) A (do
   let x ←pyIter it
   again (.compLoop e depth x acc env)) (λfin s'=>match fin with|.done f=>R (.ok f) s'|.again c'=>c'.quiet=true∧codeAny (model P0 X.w) A c' R s') ai s:=
  ac (aj hself (λr s' ⟨e1,e2⟩=>by subst e1 e2;exact ao ⟨hqu,h⟩) i2)
 unfold compStart
 simp only[has,eM,dr]
 refine ac (wpAny_askSetting (wpAny_ite ?_))
 split
 ·exact ao ⟨hqu,h⟩
 ·refine ac (c5 ?_)
  split
  ·exact ac (bL fin)
  ·exact fin
section
variable {X:Cx} {A:Around} {k:Nat} {N:Addr} {env:Env} {D:Addr}
def J1(X:Cx)(A:Around)(env:Env)(elt:Expr):gK:=λm σ out K=>Ev X A ai env m elt σ λW σ'=>out.length≤65536∧K m σ' (out++[W])
def T1(D:Addr)(env:Env)(elt:Expr):Sem Unit:=do let _ ←call (.builtin "list.append") [.ref D,←eval elt env]
theorem eJ(hD:D≠env.locals∧∀x c,env.cells.lookup x=some c→c≠D):mF X A N env D (T1 D env elt) (J1 X A env elt):=λm σ out K g s h S F hd=>by
 unfold T1
 refine ac (aj (h g s S F) (λv s₁ ⟨g₁,W,σ₁,G₁,r₁,hz,h₁⟩=>?_) i2)
 obtain⟨hf,ys,hl,r⟩:=hd.go G₁ id
 refine ac (wpAny_list_append hl (λh' hl' hs=>ao ?_) (by rw[bn,cA,r.length];omega))
 have G₂:Go X (PvD N env D) g₁ σ₁ s₁ g₁ σ₁ {s₁ with heap:=h'}:=Go.sameBut G₁.sat hs hf (.inr rfl)
 have F₁:=F.go G₁
 exact⟨m,σ₁,out++[W],g₁,G₁.any.trans G₂,F₁.sameBut hs hD.1 hD.2,⟨hf,ys++[v],by simpa using hl',r.append (.cons r₁ .nil)⟩,h₁⟩
def J2(X:Cx)(A:Around)(k:Nat)(N:Addr)(env:Env)(elt target₂ iter₂:Expr)(ifs₂:List Expr):gK:=λm σ out K=>fi X A ai k env m (some target₂) iter₂ σ λDep l σ₂=>
 fg X A Dep (ax N env) env target₂ ifs₂ (J1 X A env elt) K l m σ₂ out
def T2(e:Expr)(D:Addr)(env:Env)(iter₂:Expr):Sem Unit:=do
 let x ←eval iter₂ env
 standAt iter₂.pos
 let x ←foldedSetIterable iter₂ env x
 let _ ←runOwn (.compStart e 1 (←holding [x] (pyIter x)) (.ref D) env) env
theorem E9{e elt target₂ iter₂:Expr}{ifs₂:List Expr}(hA:Room A k)(hD:D≠env.locals∧∀x c,env.cells.lookup x=some c→c≠D)(hDN:D<N)
  (hT:∀it,compTurn e 1 it (.ref D) env=gE e 1 target₂ iter₂ ifs₂ it (.ref D) env (T1 D env elt))
  (hfr:∀it,(Code.compLoop e 1 it (.ref D) env).isFrame=false)(hund:∀it,A.under (.compLoop e 1 it (.ref D) env)=A)(hqu:∀it,(Code.compLoop e 1 it (.ref D) env).quiet=true)
  (hfr':∀it,(Code.compStart e 1 it (.ref D) env).isFrame=false)(hund':∀it,A.under (.compStart e 1 it (.ref D) env)=A)(has:((clausesOf e)[1]?).elim false (·.is_async !=0)=false)
  (hs:∀x,foldedSetIterable iter₂ env x=pure x):mF X A N env D (T2 e D env iter₂) (J2 X A k N env elt target₂ iter₂ ifs₂):=λm σ out K g s h S F hd=>by
 unfold T2
 refine ac (aj (h g s S F) (λv s₁ h₁=>?_) i2)
 refine ac (bL (ac (bw (hs v) ?_)))
 refine ac (bT (aj h₁ (λit s₂ ⟨g₂,σ₂,Dep,It,own,l,G,ho',I,hit,h₂⟩=>?_) i2))
 refine ac (wpAny_runOwn ?_)
 refine w9 (hfr' it) (hund' it) (hqu it) has (I.self hA G.sat hit ⟨rfl,rfl⟩) ?_
 have hap:own.Apart (iA env D):=by
  refine⟨λa h1 h2=>?_,λ_ _ h=>h.elim⟩
  have:∃o,s.heap.get? a=some o:=by
   rcases h2 with rfl|⟨x,hx⟩|rfl
   ·exact F.atL
   ·exact F.csz x a hx
   ·exact hd.at
  obtain⟨o,e⟩:=this
  exact ho'.1 a o e h1
 refine cI (xo (J:=J1 X A env elt) (K:=K) hA (hT it) (hfr it) (hund it) (hqu it) I (Pv.Le.refl s _) hDN (eJ hD) G.any (F.go G) (hd.go G id) ⟨λa o e q=>(ho'.1 a o e q).elim,λi e q=>(ho'.2 i e q).elim⟩ hap hit h₂) λr s' ⟨hr,h₃⟩=>?_
 subst hr
 exact ao h₃
end
theorem Go.freeze(S:Sat X g σ s)(hf:Free X g σ D)(ho:s.heap.get? D=some o):Go X (a9 D) g σ s (g.add D o) σ s:=by
 have hle:=View.le_add o hf.1
 refine⟨⟨S.le.trans hle,λb o' e=>?_,λb t e=>?_,λp hp=>?_⟩,hle,λb o' e hp=>?_,λ_ _ _ _=>eD,.refl X _ σ s⟩
 ·unfold View.add at e
  split at e
  ·rename_i q;cases e;rw[q];exact ho
  ·exact S.in_ b o' e
 ·obtain⟨e1,e2⟩:=S.trk b t e
  have:b≠D:=λq=>by rw[q,hf.2.1] at e;cases e
  exact⟨by unfold View.add;rw[ae this];exact e1,e2.le hle⟩
 ·obtain⟨e1,e2,e4,ps,e3⟩:=S.tab p hp
  exact⟨by unfold View.add;rw[ae (hf.2.2 p hp)];exact e1,e2,by unfold View.add;split;simp;exact e4,ps,e3⟩
 ·unfold View.add;rw[ae (show ¬b=D from λq=>hp q)]
theorem xX{X:Cx}{A:Around}{E:Value→Shared→Prop}{k:Nat}{env:Env}{m:Mp}{σ:St}{Q:AV→St→Prop}{use:Option (Value→Sem Unit)}{QQ:Value→Shared→Prop}{ppos:Pos}{g:View}{s:Shared}(S:Sat X g σ s)(F:Frm X env m g σ s){elt target iter:Expr}{ifs:List Expr}{rest:List Comprehension}{scope:Scope}{pos:Pos}(T:Addr→Env→Sem Unit)(J:Addr→Env→gK)
  (hA:Room A k)
  (hTm:∀C D it,compTurn (.ListComp elt (⟨target,iter,ifs,0⟩::rest) scope pos) 0 it (.ref D) (aS scope C env)=gE (.ListComp elt (⟨target,iter,ifs,0⟩::rest) scope pos) 0 target iter ifs it (.ref D) (aS scope C env) (T D (aS scope C env)))
  (hJ:∀D C,D<C→(D≠(aS scope C env).locals∧∀x c,(aS scope C env).cells.lookup x=some c→c≠D)→mF X A C (aS scope C env) D (T D (aS scope C env)) (J C (aS scope C env)))
  (hk:scope.kind=.function)(hf:fa env scope.names=true)(hn:(scope.names.map (·.1)).Nodup)(hnames:∀x∈scope.names,x.2=.local→scope.names.lookup x.1=some .local)
  (h:fi X A E k env m (some target) iter σ λDep l σ₂=>∀C,fg X A Dep (ax C (aS scope C env)) (aS scope C env) target ifs (J C (aS scope C env)) (λ_ σ' out=>Q (.lst out) σ') l (gR scope m) σ₂ [])
  (fin:∀(D C:Addr) (g':View) (σ':St) (s':Shared) (m':Mp) (out:List AV),D≠C→s.heap.get? D=none→s.heap.get? C=none→Go X am g σ s g' σ' s'→Frm X (aS scope C env) m' g' σ' s'→Dst X D out g' σ' s'→Q (.lst out) σ'→compPost (model P0 X.w) A E use QQ (.ref D) C (.ok .next) s')
  (hs:∀x,foldedSetIterable iter env x=pure x)
  (hfr:∀it D cenv,(Code.compLoop (.ListComp elt (⟨target,iter,ifs,0⟩::rest) scope pos) 0 it (.ref D) cenv).isFrame=false)(hund:∀it D cenv,A.under (.compLoop (.ListComp elt (⟨target,iter,ifs,0⟩::rest) scope pos) 0 it (.ref D) cenv)=A)
  (hqu:∀it D cenv,(Code.compLoop (.ListComp elt (⟨target,iter,ifs,0⟩::rest) scope pos) 0 it (.ref D) cenv).quiet=true)
  (hfr':∀it D cenv,(Code.compStart (.ListComp elt (⟨target,iter,ifs,0⟩::rest) scope pos) 0 it (.ref D) cenv).isFrame=false)(hund':∀it D cenv,A.under (.compStart (.ListComp elt (⟨target,iter,ifs,0⟩::rest) scope pos) 0 it (.ref D) cenv)=A):
  wpAny (model P0 X.w) A (comprehension (.ListComp elt (⟨target,iter,ifs,0⟩::rest) scope pos) scope env ppos (newList []) false (eval iter env) use) QQ E s:=by
 refine wpAny_comprehension_free (use:=use) (g:=⟨target,iter,ifs,0⟩) (gs:=rest) rfl hs (Ap hf) hk hnames (aj (h g s S F) (λv s₁ h₁=>aj h₁ (λit s₂ ⟨g₂,σ₂,Dep,It,own,l,G₁₂,ho',I,hit,h₂⟩=>?_) i2) i2)
 have F₂:=F.go G₁₂
 refine di ?_ (by size_fits)
 have kp:∀b o,s₂.heap.get? b=some o→(s₂.heap.push {cls:=.type "list",data:=.seq ([]:List Value).toArray}).get? b=some o:=λb o e=>aJ _ e
 have G₃:Go X am g₂ σ₂ s₂ g₂ σ₂ {s₂ with heap:=s₂.heap.push {cls:=.type "list",data:=.seq ([]:List Value).toArray}}:=Go.keeps G₁₂.sat kp
 have F₃:=F₂.go G₃
 have hD₃:Dst X s₂.heap.objs.size [] g₂ σ₂ {s₂ with heap:=s₂.heap.push {cls:=.type "list",data:=.seq ([]:List Value).toArray}}:=
  ⟨bC G₁₂.sat (aG _),[],⟨_,aX _ rfl,rfl,0,rfl⟩,.nil⟩
 have hDC:s₂.heap.objs.size<(s₂.heap.push {cls:=.type "list",data:=.seq ([]:List Value).toArray}).objs.size:=by rw[dj];exact g7 _
 refine A1 λcenv hce hcl=>?_
 rw[hce]
 obtain⟨F₄,G₄⟩:=C2 G₃.sat F₃ hk hf hn
 have hDc:s₂.heap.objs.size≠(aS scope (s₂.heap.push {cls:=.type "list",data:=.seq ([]:List Value).toArray}).objs.size env).locals∧∀x c,(aS scope (s₂.heap.push {cls:=.type "list",data:=.seq ([]:List Value).toArray}).objs.size env).cells.lookup x=some c→c≠s₂.heap.objs.size:=by
  refine⟨fz hDC,λx c hc=>?_⟩
  have hm:(x,c)∈cellsFrom ((s₂.heap.push {cls:=.type "list",data:=.seq ([]:List Value).toArray}).objs.size+1) scope.names (dh env scope.names []):=mem_of_lookup hc
  rcases nj scope.names ((s₂.heap.push {cls:=.type "list",data:=.seq ([]:List Value).toArray}).push {cls:=.type "dict",data:=.dict #[]}) _ (x,c) (by rw[dj];exact hm) with h1|⟨h1,_⟩
  ·rcases kH scope.names [] (x,c) hf h1 with h1|⟨_,h1,_⟩
   ·cases h1
   ·obtain⟨o,ho⟩:=F₂.csz x c h1
    exact fz (aY ho)
  ·rw[dj] at h1
   exact kh (nx hDC h1)
 have hit₄:=I.keep hit (G₃.trans G₄) Pv.Apart.noP (I.dep σ₂)
 refine w9 (hfr' _ _ _) (hund' _ _ _) (hqu _ _ _) rfl (I.self hA G₄.sat hit₄ ⟨rfl,rfl⟩) ?_
 have big:∀a o,s₂.heap.objs.size≤a→s.heap.get? a=some o→False:=λa o ha e=>by
  obtain⟨o',e'⟩:=G₁₂.dom e id
  exact absurd (aY e') (i9.mpr ha)
 have hPb:(PvD (s₂.heap.push {cls:=.type "list",data:=.seq ([]:List Value).toArray}).objs.size (aS scope (s₂.heap.push {cls:=.type "list",data:=.seq ([]:List Value).toArray}).objs.size env) s₂.heap.objs.size).Le s am:=by
  refine⟨λa o e q=>?_,λ_ _ h=>h⟩
  have:s₂.heap.objs.size≤a:=by
   rcases q with q|q
   ·exact eQ (eR hDC) q.1
   ·exact kj q.symm
  exact big a o this e
 have hap:own.Apart (iA (aS scope (s₂.heap.push {cls:=.type "list",data:=.seq ([]:List Value).toArray}).objs.size env) s₂.heap.objs.size):=by
  refine⟨λa h1 h2=>?_,λ_ _ h=>h.elim⟩
  obtain⟨o,e⟩:=(I.ex hit).1 a h1
  have hlt:=aY e
  rcases h2 with h2|⟨x,hx⟩|h2
  ·rw[h2] at hlt;exact bt _ (nx hlt hDC)
  ·have hm:(x,a)∈cellsFrom ((s₂.heap.push {cls:=.type "list",data:=.seq ([]:List Value).toArray}).objs.size+1) scope.names (dh env scope.names []):=mem_of_lookup hx
   rcases nj scope.names ((s₂.heap.push {cls:=.type "list",data:=.seq ([]:List Value).toArray}).push {cls:=.type "dict",data:=.dict #[]}) _ (x,a) (by rw[dj];exact hm) with h1'|⟨h1',_⟩
   ·rcases kH scope.names [] (x,a) hf h1' with h1'|⟨_,h1',_⟩
    ·cases h1'
    ·obtain⟨o',hoo⟩:=F.csz x a h1'
     exact ho'.1 a o' hoo h1
   ·rw[dj] at h1'
    exact bt _ (nx hlt (nx hDC h1'))
  ·rw[h2] at hlt;exact bt _ hlt
 refine cI (xo (K:=λ_ σ' out=>Q (.lst out) σ') hA (hTm _ _ it) (hfr _ _ _) (hund _ _ _) (hqu _ _ _) I hPb hDC (hJ _ _ hDC hDc) (G₁₂.trans (G₃.trans G₄)) F₄ (hD₃.go G₄ id)
  ho' hap hit₄ (h₂ _)) λr s' ⟨hr,m',σ',out,g',G',F',hd',hq⟩=>?_
 subst hr
 rw[hcl]
 exact fin _ _ g' σ' s' m' out (fz hDC) (fresh_big big _ (aG _)) (fresh_big big _ (eR hDC)) G' F' hd' hq
where
 fresh_big {s₂ s:Shared} (big:∀a o,s₂.heap.objs.size≤a→s.heap.get? a=some o→False) (a:Addr) (h:s₂.heap.objs.size≤a):s.heap.get? a=none:=by
  cases e:s.heap.get? a with
  |none=>rfl
  |some o=>exact(big a o h e).elim
theorem fM{X:Cx}{A:Around}{E:Value→Shared→Prop}{k:Nat}{env:Env}{m:Mp}{σ:St}{Q:AV→St→Prop}{elt target iter:Expr}{ifs:List Expr}{rest:List Comprehension}{scope:Scope}{pos:Pos}(T:Addr→Env→Sem Unit)(J:Addr→Env→gK)
  (hA:Room A k)
  (hTm:∀C D it,compTurn (.ListComp elt (⟨target,iter,ifs,0⟩::rest) scope pos) 0 it (.ref D) (aS scope C env)=gE (.ListComp elt (⟨target,iter,ifs,0⟩::rest) scope pos) 0 target iter ifs it (.ref D) (aS scope C env) (T D (aS scope C env)))
  (hJ:∀D C,D<C→(D≠(aS scope C env).locals∧∀x c,(aS scope C env).cells.lookup x=some c→c≠D)→mF X A C (aS scope C env) D (T D (aS scope C env)) (J C (aS scope C env)))
  (hk:scope.kind=.function)(hf:fa env scope.names=true)(hn:(scope.names.map (·.1)).Nodup)(hnames:∀x∈scope.names,x.2=.local→scope.names.lookup x.1=some .local)
  (h:fi X A E k env m (some target) iter σ λDep l σ₂=>∀C,fg X A Dep (ax C (aS scope C env)) (aS scope C env) target ifs (J C (aS scope C env)) (λ_ σ' out=>Q (.lst out) σ') l (gR scope m) σ₂ [])
  (hs:∀x,foldedSetIterable iter env x=pure x:=by intro _;rfl)
  (hfr:∀it D cenv,(Code.compLoop (.ListComp elt (⟨target,iter,ifs,0⟩::rest) scope pos) 0 it (.ref D) cenv).isFrame=false:=by intro _ _ _;rfl)(hund:∀it D cenv,A.under (.compLoop (.ListComp elt (⟨target,iter,ifs,0⟩::rest) scope pos) 0 it (.ref D) cenv)=A:=by intro _ _ _;rfl)
  (hqu:∀it D cenv,(Code.compLoop (.ListComp elt (⟨target,iter,ifs,0⟩::rest) scope pos) 0 it (.ref D) cenv).quiet=true:=by intro _ _ _;rfl)
  (hfr':∀it D cenv,(Code.compStart (.ListComp elt (⟨target,iter,ifs,0⟩::rest) scope pos) 0 it (.ref D) cenv).isFrame=false:=by intro _ _ _;rfl)(hund':∀it D cenv,A.under (.compStart (.ListComp elt (⟨target,iter,ifs,0⟩::rest) scope pos) 0 it (.ref D) cenv)=A:=by intro _ _ _;rfl):
  Ev X A E env m (.ListComp elt (⟨target,iter,ifs,0⟩::rest) scope pos) σ Q:=λg s S F=>by
 rw[eval_ListComp]
 refine xX S F T J hA hTm hJ hk hf hn hnames h (λD C g' σ' s' m' out hDne hDs hCs G' F' hd' hq=>?_) hs hfr hund hqu hfr' hund'
 obtain⟨mC,hns,_⟩:=F'.ns
 refine⟨mC,hns,λh' hs'=>?_⟩
 obtain⟨hfD,ys,⟨o,ho,hc,n,hdt⟩,ro⟩:=hd'
 have G₅:Go X (a9 C) g' σ' s' g' σ' {s' with heap:=h'}:=Go.sameBut G'.sat hs' F'.free rfl
 have ho':h'.get? D=some o:=(hs'.2 _ hDne).trans ho
 have G₆:=Go.freeze G₅.sat hfD ho'
 refine⟨g'.add D o,.lst out,σ',(G'.comp G₅ ⟨λa o e q=>(by rw[show a=C from q,hCs] at e;cases e),λ_ _ h=>h⟩).comp G₆ ⟨λa o e q=>(by rw[show a=D from q,hDs] at e;cases e),λ_ _ h=>h⟩,?_,hq⟩
 unfold Rep
 exact⟨_,ys,rfl,⟨o,n,by unfold View.add;rw[ah rfl],hc,hdt⟩,ro.le (View.le_add o hfD.1)⟩
theorem ux{X:Cx}{A:Around}{k:Nat}{env:Env}{m:Mp}{σ:St}{Q:AFl→Mp→St→Prop}{N:Addr}{t:Expr}{elt target iter:Expr}{ifs:List Expr}{rest:List Comprehension}{scope:Scope}{pos apos:Pos}(T:Addr→Env→Sem Unit)(J:Addr→Env→gK)
  (hA:Room A k)
  (hTm:∀C D it,compTurn (.ListComp elt (⟨target,iter,ifs,0⟩::rest) scope pos) 0 it (.ref D) (aS scope C env)=gE (.ListComp elt (⟨target,iter,ifs,0⟩::rest) scope pos) 0 target iter ifs it (.ref D) (aS scope C env) (T D (aS scope C env)))
  (hJ:∀D C,D<C→(D≠(aS scope C env).locals∧∀x c,(aS scope C env).cells.lookup x=some c→c≠D)→mF X A C (aS scope C env) D (T D (aS scope C env)) (J C (aS scope C env)))
  (hk:scope.kind=.function)(hf:fa env scope.names=true)(hn:(scope.names.map (·.1)).Nodup)(hnames:∀x∈scope.names,x.2=.local→scope.names.lookup x.1=some .local)
  (h:fi X A ai k env m (some target) iter σ λDep l σ₂=>∀C,fg X A Dep (ax C (aS scope C env)) (aS scope C env) target ifs (J C (aS scope C env)) (λ_ σ' out=>As X A ai (ax N env) env m t (.lst out) σ' λm₁ σ₂=>Q .next m₁ σ₂) l (gR scope m) σ₂ [])
  (hsw:swapsWithSole [t] (.ListComp elt (⟨target,iter,ifs,0⟩::rest) scope pos) apos.line env=pure true:=by rfl)(he:assignEach [t] env=[(false,assign t env)]:=by rfl)
  (hfa:firstAsync (⟨target,iter,ifs,0⟩::rest)=false:=by rfl)
  (hs:∀x,foldedSetIterable iter env x=pure x:=by intro _;rfl)
  (hfr:∀it D cenv,(Code.compLoop (.ListComp elt (⟨target,iter,ifs,0⟩::rest) scope pos) 0 it (.ref D) cenv).isFrame=false:=by intro _ _ _;rfl)(hund:∀it D cenv,A.under (.compLoop (.ListComp elt (⟨target,iter,ifs,0⟩::rest) scope pos) 0 it (.ref D) cenv)=A:=by intro _ _ _;rfl)
  (hqu:∀it D cenv,(Code.compLoop (.ListComp elt (⟨target,iter,ifs,0⟩::rest) scope pos) 0 it (.ref D) cenv).quiet=true:=by intro _ _ _;rfl)
  (hfr':∀it D cenv,(Code.compStart (.ListComp elt (⟨target,iter,ifs,0⟩::rest) scope pos) 0 it (.ref D) cenv).isFrame=false:=by intro _ _ _;rfl)(hund':∀it D cenv,A.under (.compStart (.ListComp elt (⟨target,iter,ifs,0⟩::rest) scope pos) 0 it (.ref D) cenv)=A:=by intro _ _ _;rfl):
  Ex X A ai (ax N env) env m (.Assign [t] (.ListComp elt (⟨target,iter,ifs,0⟩::rest) scope pos) apos) σ Q:=λg s S F=>by
 rw[exec_Assign]
 refine ac (bL ?_)
 rw[hsw]
 refine ac (ao ?_)
 rw[ah rfl,he]
 refine ac ?_
 show wpAny _ A (comprehension (.ListComp elt (⟨target,iter,ifs,0⟩::rest) scope pos) scope env _ (newList []) (firstAsync (⟨target,iter,ifs,0⟩::rest)) (eval iter env) (some λv=>assignAll v [assign t env])>>= λ_=>pure ()) _ _ s
 rw[hfa]
 refine ac (xX (Q:=λV σ'=>As X A ai (ax N env) env m t V σ' λm₁ σ₂=>Q .next m₁ σ₂) S F T J hA hTm hJ hk hf hn hnames h (λD C g' σ' s' m' out hDne hDs hCs G' F' hd' hq=>?_) hs hfr hund hqu hfr' hund')
 obtain⟨hfD,ys,⟨o,ho,hc,n,hdt⟩,ro⟩:=hd'
 have G1:Go X am g σ s (g'.add D o) σ' s':=G'.comp (Go.freeze G'.sat hfD ho) ⟨λa o e q=>(by rw[show a=D from q,hDs] at e;cases e),λ_ _ h=>h⟩
 have rep:Rep (g'.add D o) (.lst out) (.ref D):=by
  unfold Rep
  exact⟨_,ys,rfl,⟨o,n,by unfold View.add;rw[ah rfl],hc,hdt⟩,ro.le (View.le_add o hfD.1)⟩
 show wpAny _ A (assign t env (.ref D)) _ _ s'
 refine aj (hq _ s' _ G1.sat (F.go G1) rep) (λ_ s₂ ⟨g₂,m₂,σ₂,G₂,F₂,h₂⟩=>?_) i2
 have nP:¬(ax N env).a C:=λq=>by
  rcases q.2 with q|⟨x,q⟩
  ·obtain⟨o,e⟩:=F.atL;rw[←q,hCs] at e;cases e
  ·obtain⟨o,e⟩:=F.csz x C q;rw[hCs] at e;cases e
 obtain⟨mC,hns,_⟩:=F'.ns
 obtain⟨oC,hoC⟩:=F'.atL
 have hfC:Free X (g'.add D o) σ' C:=⟨by unfold View.add;rw[ae hDne.symm];exact F'.free.1,F'.free.2.1,F'.free.2.2⟩
 refine⟨mC,y5 hns λo' e=>G₂.run.keep C o' e hfC.2.1 hfC.2.2 nP,λh' hs'=>?_⟩
 have G₃:Go X (a9 C) g₂ σ₂ s₂ g₂ σ₂ {s₂ with heap:=h'}:=Go.sameBut G₂.sat hs' (hfC.go G₂ hoC nP) rfl
 have G₄:Go X (ax N env) g σ s g₂ σ₂ {s₂ with heap:=h'}:=(G1.any.trans G₂).comp G₃ ⟨λa o e q=>(by rw[show a=C from q,hCs] at e;cases e),λ_ _ h=>h.elim⟩
 have F₃:Frm X env m₂ g₂ σ₂ {s₂ with heap:=h'}:=F₂.goP G₃ (λq=>by
  obtain⟨o,e⟩:=F.atL;rw[show env.locals=C from q,hCs] at e;cases e) λx c hc q=>by
  obtain⟨o,e⟩:=F.csz x c hc;rw[show c=C from q,hCs] at e;cases e
 exact ao (ao ⟨g₂,.next,m₂,σ₂,G₄,F₃,rfl,h₂⟩)
section
open PySem.W.X
theorem qG(s:Shared)(i:Nat)(x:GenState):(s.setGen i x).heap=s.heap:=rfl
theorem cZ{s:Shared}{i j:Nat}{x:GenState}:(s.setGen i x).gens[j]?=if j=i∧i<s.gens.size then some x else s.gens[j]?:=by
 show(s.gens.setIfInBounds i x)[j]?=_
 rw[wv]
 by_cases h:i=j
 ·subst h
  by_cases h2:i<s.gens.size
  ·simp[h2]
  ·simp[h2]
 ·have:¬j=i:=λq=>h q.symm
  simp[h,this]
theorem dV{s:Shared}{i:Nat}{x:GenState}:(s.setGen i x).gens.size=s.gens.size:=by
 show(s.gens.setIfInBounds i x).size=_
 simp
theorem Sat.heap(S:Sat X g σ s)(h:s'.heap=s.heap):Sat X g σ s':=S.keeps λb o e=>by rw[h];exact e
theorem Go.setGen{X:Cx}{P:Pv}{g:View}{σ:St}{s:Shared}{i:Nat}{x:GenState}(S:Sat X g σ s)(hP:P.n i)(hx:x.bare=true):Go X P g σ s g σ (s.setGen i x):=by
 refine⟨S.heap rfl,.refl g,λ_ _ _ _=>rfl,λ_ _ _ _=>eD,rfl,λa o e _=>⟨o,e⟩,λa o e _ _ _=>.inl e,λp _ o vs e hd=>⟨#[],by rw[qG,e];congr 1;obtain⟨c,d,dt,sl⟩:=o;subst hd;simp⟩,by rw[dV];exact aG _,λj y e hp=>?_,λj y e=>?_⟩
 ·rw[cZ,ae];exact e
  rintro⟨rfl,_⟩;exact hp hP
 ·rw[cZ] at e
  split at e
  ·cases e;exact .inr (.inl hx)
  ·exact .inl e
theorem Go.underGen{X:Cx}{P:Pv}{g g':View}{σ σ':St}{s s':Shared}{i:Nat}{x y:GenState}(G:Go X P g σ (s.setGen i x) g' σ' s')(hi:i<s.gens.size)(hP:¬P.n i)(hy:y.bare=true):Go X P g σ (s.setGen i y) g' σ' (s'.setGen i y):=by
 have hs:i<s'.gens.size:=bu (by rw[dV];exact hi) G.run.gsize
 refine⟨G.sat.heap rfl,G.le,G.new,G.st,G.run.os,G.run.dom,G.run.keep,G.run.tab,?_,λj z e hp=>?_,λj z e=>?_⟩
 ·rw[dV,dV];have:=G.run.gsize;rwa [dV] at this
 ·rw[cZ] at e ⊢
  by_cases hj:j=i
  ·subst hj;rw[ah ⟨rfl,hi⟩] at e;rw[ah ⟨rfl,hs⟩];exact e
  ·rw[ae (λq=>hj q.1)] at e ⊢
   exact G.run.gold j z (by rw[cZ,ae (λq=>hj q.1)];exact e) hp
 ·rw[cZ] at e
  by_cases hj:j=i
  ·subst hj;rw[ah ⟨rfl,hs⟩] at e;cases e;exact .inr (.inl hy)
  ·rw[ae (λq=>hj q.1)] at e
   rcases G.run.gbare j z e with h|h
   ·left;rw[cZ,ae (λq=>hj q.1)] at h ⊢;exact h
   ·exact .inr h
def Pv.Ex(P:Pv)(s:Shared):Prop:=(∀a,P.a a→∃o,s.heap.get? a=some o)∧(∀i,P.n i→i<s.gens.size)
def wq(X:Cx)(k:Nat)(σ:St):List AV→Pv→View→Shared→End→Shared→Prop
 |[],own,g₀,s₀,e,s'=>(∃f,e=.ret (.ok f)∧(f=.next∨f=.ret .none))∧∃g',Go X own g₀ σ s₀ g' σ s'
 |V::l,own,g₀,s₀,e,s'=>∃v lv kk c' p fs' g' own',e=.susp v false lv kk c' p fs'∧fs'.any Frame.guarded=false∧own'.Le s₀ own∧own'.Ex s'∧Go X own g₀ σ s₀ g' σ s'∧Rep g' V v∧
   ∀P g'' s'',Go X P g' σ s' g'' σ s''→own'.Apart P→∀A,Room A (k+1)→SegX (model P0 X.w) A c' (kk (.send .none)) fs' s'' (wq X k σ l own' g'' s'')
def Ready(X:Cx)(k:Nat)(σ:St)(gi:Nat)(l:List AV)(own:Pv)(g:View)(s:Shared):Prop:=
 ∃gs c₀ t₀ fs₀,s.gens[gi]?=some gs∧gs.bare=true∧((gs=.fresh c₀∧t₀=denote table c₀∧fs₀=[])∨(∃k₀ l₀ p₀ cl,gs=.suspended k₀ l₀ c₀ p₀ fs₀ cl∧t₀=k₀ (.send .none)))∧
  ∀P g'' s'',Go X P g σ s g'' σ s''→own.Apart P→¬P.n gi→∀A,Room A (k+1)→SegX (model P0 X.w) A c₀ t₀ fs₀ (s''.setGen gi .running) (wq X k σ l own g'' (s''.setGen gi .running))
def Pv.gen(P:Pv)(a:Addr)(gi:Nat):Pv:=⟨λb=>P.a b∨b=a,λi=>P.n i∨i=gi⟩
def Pv.gn(P:Pv)(gi:Nat):Pv:=⟨P.a,λi=>P.n i∨i=gi⟩
def eI(X:Cx)(k:Nat)(σ:St)(a:Addr)(gi:Nat):f5:=λown l g σ' s=>σ'=σ∧s.heap.IsGen a gi∧Free X g σ a∧∃ob:Pv,own=ob.gen a gi∧¬ob.a a∧¬ob.n gi∧ob.Ex s∧gi<s.gens.size∧Ready X k σ gi l ob g s
theorem yb{X:Cx}{k:Nat}{σ:St}{a:Addr}{gi:Nat}{A:Around}{ob:Pv}{l:List AV}{g:View}{s:Shared}{Q:Option Value→Shared→Prop}(hlim:s.heap.NoLimit)(hA:Room A (k+2))(hG:s.heap.IsGen a gi)(hn:¬ob.n gi)(hgi:gi<s.gens.size)(S:Sat X g σ s)
  (R:Ready X k σ gi l ob g s)
  (hY:∀V l',l=V::l'→∀v g' ob' s',ob'.Le s ob→ob'.Ex s'→Go X (ob.gn gi) g σ s g' σ s'→Rep g' V v→Ready X k σ gi l' ob' g' s'→Q (some v) s')
  (hE:l=[]→∀g' s',Go X (ob.gn gi) g σ s g' σ s'→Q none s'):wpAny (model P0 X.w) A (pyNext (.ref a)) Q ai s:=by
 obtain⟨gs,c₀,t₀,fs₀,hgs,hb,hform,hrun⟩:=R
 have hseg:=hrun am g s (.refl S) Pv.Apart.noP id A.in1 ⟨hA.handled,by have:=hA.depth;show A.depth+_<_;omega,by have:=hA.units;show A.units+1+_<_;omega⟩
 have hgen:∀s',ob.Le s' (ob.gn gi):=λs'=>⟨λ_ _ _ h=>h,λ_ _ h=>.inl h⟩
 have Grun:Go X (ob.gn gi) g σ s g σ (s.setGen gi .running):=Go.setGen S (.inr rfl) rfl
 unfold pyNext
 refine ac (nu (fK (name:=Str.ofString "__next__") hG.typeIs kg
  (dE kg hG.typeIs entry_gen_next ?_ (args_gen_next _))))
 show wpAny _ A.in1 (Builtin.Generator.genWake (.ref a) (.send .none)) _ _ s
 unfold Builtin.Generator.genWake
 refine ac (bT (wpAny_genNumber hG (ac (wpAny_genState hgs ?_))))
 have wake:∀{α:Type} {kk:GenResult→Sem α} {Q':α→Shared→Prop} {E':Value→Shared→Prop} {lv:List Value},
   (∀v g' ob' s',(∃V l',l=V::l'∧ob'.Le s ob∧ob'.Ex s'∧Go X (ob.gn gi) g σ s g' σ s'∧Rep g' V v∧Ready X k σ gi l' ob' g' s')→wpAny (model P0 X.w) A.in1 (kk (.yielded v)) Q' E' s')→
   (∀g' s',l=[]→Go X (ob.gn gi) g σ s g' σ s'→wpAny (model P0 X.w) A.in1 (kk (.returned .none)) Q' E' s')→
   wpAny (model P0 X.w) A.in1 (.resume gi (.send .none) lv kk) Q' E' s:=by
  intro α kk Q' E' lv hy he Γ p hΓ
  refine wake_any α P0 X.w (A:=A.in1) (c₀:=c₀) (t₀:=t₀) (fs₀:=fs₀) hgs ?_ (λΓ=>Γ.In A.in1) (λ_ h=>h) ?_ Γ p hΓ
  ·rcases hform with ⟨h1,h2,h3⟩|⟨k₀,l₀,p₀,cl,h1,h2⟩
   ·exact .inl ⟨h1,rfl,h2,h3⟩
   ·exact .inr ⟨k₀,l₀,p₀,cl,h1,h2⟩
  ·refine SegX.mono hseg λe s₁ hp=>?_
   cases l with
   |nil=>
    obtain⟨⟨f,rfl,hf⟩,g',G⟩:=hp
    have G₁:=Grun.trans (G.weaken (hgen _))
    have G₂:Go X (ob.gn gi) g σ s g' σ (s₁.setGen gi .finished):=G₁.trans (Go.setGen G₁.sat (.inr rfl) rfl)
    have hr:(End.ret (.ok f)).result=.returned .none:=by rcases hf with rfl|rfl<;>rfl
    intro Γ p hΓ
    rw[hr]
    exact he g' _ rfl G₂ Γ p hΓ
   |cons V l'=>
    obtain⟨v,lv',k',c',p',fs',g',ob',rfl,hfg,hle,hex',G,rv,hnext⟩:=hp
    intro Γ p hΓ
    have G₁:=Grun.trans (G.weaken (hgen _))
    have hle':ob'.Le s ob:=⟨λb o e q=>hle.1 b o (by rw[qG];exact e) q,λi hi q=>hle.2 i (by rw[dV];exact hi) q⟩
    have hgi₁:gi<s₁.gens.size:=bu hgi G₁.run.gsize
    have hn':¬ob'.n gi:=λq=>hn (hle'.2 gi hgi q)
    have hrun₁:s₁.gens[gi]?=some .running:=G.run.gold gi _ (by rw[cZ,ah ⟨rfl,hgi⟩]) hn
    have hbr:(GenState.suspended k' lv' c' p' fs' (false||fs'.any Frame.guarded)).bare=true:=by rw[hfg];rfl
    have G₂:Go X (ob.gn gi) g σ s g' σ (s₁.setGen gi (.suspended k' lv' c' p' fs' (false||fs'.any Frame.guarded))):=G₁.trans (Go.setGen G₁.sat (.inr rfl) hbr)
    refine hy v g' ob' (s₁.setGen gi (.suspended k' lv' c' p' fs' (false||fs'.any Frame.guarded))) ⟨V,l',rfl,hle',⟨hex'.1,λi q=>by rw[dV];exact hex'.2 i q⟩,G₂,rv,?_⟩ Γ p hΓ
    refine⟨_,c',k' (.send .none),fs',by rw[cZ,ah ⟨rfl,hgi₁⟩],hbr,.inr ⟨k',lv',p',_,rfl,rfl⟩,λP g'' s'' G' hap hPn A' hA'=>?_⟩
    refine hnext P g'' (s''.setGen gi .running) ?_ hap A' hA'
    have hsame:s₁=s₁.setGen gi .running:=by
     show s₁={s₁ with gens:=s₁.gens.setIfInBounds gi .running}
     have:s₁.gens.setIfInBounds gi .running=s₁.gens:=by
      apply Array.ext_getElem?
      intro j
      rw[wv]
      split
      ·rename_i q;subst q;first|exact hrun₁.symm|(rw[ah hgi₁];exact hrun₁.symm)
      ·rfl
     rw[this]
    rw[hsame]
    exact Go.underGen G' hgi₁ hPn rfl
 cases gs with
 |running=>rcases hform with ⟨h,_⟩|⟨_,_,_,_,h,_⟩<;>cases h
 |finished=>rcases hform with ⟨h,_⟩|⟨_,_,_,_,h,_⟩<;>cases h
 |_=>
  refine ac (wpAny_roomToWake hlim (by have:=hA.depth;show A.depth<_;omega) ?_)
  show wpAny _ A.in1 (.resume gi (.send .none) [] _) _ _ s
  refine wake (λv g' ob' s' ⟨V,l',hl,h1,h2,h3,h4,h5⟩=>ao ⟨v,rfl,ao (hY V l' hl v g' ob' s' h1 h2 h3 h4 h5)⟩) λg' s' hl G=>?_
  show wpAny _ A.in1 (newExc (.type "StopIteration") []>>= _) _ _ _
  refine ac ?_
  simp only[newExc,newTuple]
  refine ac (di ?_ (by size_fits))
  refine ac (m:=firstArgMember _ _) (bw (a:=Value.none) (by first|rfl|(simp only[firstArgMember];rfl)) ?_)
  refine di ?_ (by size_fits)
  simp only[raiseNew]
  refine ac (ac (qz ?_))
  rw[show A.in1.handled=none from hA.handled]
  refine qH ?_
  refine ac (fw (T:="StopIteration") (b:=true) ⟨_,aX _ rfl,rfl⟩ uz ?_)
  exact ao (hE hl g' _ (G.trans (Go.keeps G.sat λb o e=>aJ _ (aJ _ e))))
theorem Pv.gn_gen{P:Pv}{a:Addr}{gi:Nat}{s:Shared}:(P.gn gi).Le s (P.gen a gi):=⟨λ_ _ _ h=>.inl h,λ_ _ h=>h⟩
def Pv.sup(P Q:Pv):Pv:=⟨λa=>P.a a∨Q.a a,λi=>P.n i∨Q.n i⟩
theorem Pv.le_left{P Q:Pv}{s:Shared}:P.Le s (P.sup Q):=⟨λ_ _ _ h=>.inl h,λ_ _ h=>.inl h⟩
theorem Pv.le_right{P Q:Pv}{s:Shared}:Q.Le s (P.sup Q):=⟨λ_ _ _ h=>.inr h,λ_ _ h=>.inr h⟩
theorem Ready.go(R:Ready X k σ gi l ob g s)(G:Go X P g σ s g' σ s')(ha:ob.Apart P)(hn:¬P.n gi):Ready X k σ gi l ob g' s':=by
 obtain⟨gs,c₀,t₀,fs₀,hgs,hb,hform,hrun⟩:=R
 refine⟨gs,c₀,t₀,fs₀,G.run.gold gi gs hgs hn,hb,hform,λP' g'' s'' G' ha' hn' A hA=>?_⟩
 refine hrun (P.sup P') g'' s'' ((G.weaken Pv.le_left).trans (G'.weaken Pv.le_right)) ⟨λa h1 h2=>?_,λi h1 h2=>?_⟩ (λq=>?_) A hA
 ·rcases h2 with h2|h2;exact ha.1 a h1 h2;exact ha'.1 a h1 h2
 ·rcases h2 with h2|h2;exact ha.2 i h1 h2;exact ha'.2 i h1 h2
 ·rcases q with q|q;exact hn q;exact hn' q
theorem n9(hlim:∀h:Heap,X.B.In h→h.NoLimit):Itr X (k+2) tgt (.ref a) (λσ σ'=>σ'=σ) (eI X k σ a gi):=by
 have kept:∀{P:Pv} {g g':View} {σ₁:St} {s s':Shared},s.heap.IsGen a gi→Free X g σ a→Go X P g σ s g' σ₁ s'→¬P.a a→s'.heap.IsGen a gi:=λhG hf G hp=>by
  obtain⟨o,nm,qn,ho,hc,r⟩:=hG
  rcases G.run.keep a o ho hf.2.1 hf.2.2 hp with q|⟨q,_⟩
  ·exact⟨o,nm,qn,q,hc,r⟩
  ·obtain⟨_,_,q⟩:=q;rw[r.1] at q;cases q
 refine⟨λ{A own V l g σ' s} hA S ⟨e,hG,hf,ob,ho,hna,hn,hex,hgi,R⟩=>?_,λ{A own g σ' s} hA S ⟨e,hG,hf,ob,ho,hna,hn,hex,hgi,R⟩=>?_,λ_=>rfl,λ{own l g σ' s} ⟨e,hG,hf,ob,ho,hna,hn,hex,hgi,R⟩=>?_,λ{A own l g σ' s Q} hA S ⟨e,hG,_⟩ q=>um hG q,
  λ{own l P g σ' s g' σ'' s'} ⟨e,hG,hf,ob,ho,hna,hn,hex,hgi,R⟩ G hap hd=>?_⟩
 ·subst e
  refine yb (hlim _ (S.in_.le S.le)) hA hG hn hgi S R (λV' l' hl v g' ob' s' h1 h2 h3 h4 h5=>?_) λh=>(by cases h)
  cases hl
  obtain⟨oa,_,_,hoa,hca,_⟩:=id hG
  have hG':=kept hG hf h3 hna
  obtain⟨oa',_,_,hoa',hca',_⟩:=id hG'
  have hna':¬ob'.a a:=λq=>hna (h1.1 a _ hoa q)
  refine⟨v,rfl,uq hoa' hca' (by decide) ⟨g',ob'.gen a gi,?_,ho▸h3.weaken Pv.gn_gen,h4,rfl,hG',hf.go h3 hoa hna,ob',rfl,hna',λq=>hn (h1.2 gi hgi q),h2,bu hgi h3.run.gsize,h5⟩⟩
  subst ho
  refine⟨λb o e q=>?_,λi hi q=>?_⟩
  ·rcases q with q|q;exact .inl (h1.1 b o e q);exact .inr q
  ·rcases q with q|q;exact .inl (h1.2 i hi q);exact .inr q
 ·subst e
  exact yb (hlim _ (S.in_.le S.le)) hA hG hn hgi S R (λV' l' hl=>by cases hl) λ_ g' s' G=>⟨rfl,g',ho▸G.weaken Pv.gn_gen⟩
 ·subst ho
  obtain⟨oa,_,_,hoa,_⟩:=hG
  refine⟨λb q=>?_,λi q=>?_⟩
  ·rcases q with q|rfl;exact hex.1 b q;exact⟨oa,hoa⟩
  ·rcases q with q|rfl;exact hex.2 i q;exact hgi
 ·subst ho
  subst e
  subst hd
  obtain⟨oa,_,_,hoa,_⟩:=id hG
  have hpa:¬P.a a:=hap.1 a (.inr rfl)
  have hpn:¬P.n gi:=hap.2 gi (.inr rfl)
  have hob:ob.Apart P:=⟨λb h1=>hap.1 b (.inl h1),λi h1=>hap.2 i (.inl h1)⟩
  exact⟨rfl,kept hG hf G hpa,hf.go G hoa hpa,ob,rfl,hna,hn,⟨λb q=>let ⟨o,e⟩:=hex.1 b q;G.dom e (hob.1 b q),λi q=>bu (hex.2 i q) G.run.gsize⟩,bu hgi G.run.gsize,R.go G hob hpn⟩
structure Mach(X:Cx)(k:Nat)(σ:St)where
 Z:Around→List AV→Pv→View→Shared→Code→Sem Fin→List Frame→Shared→Prop
 okY:Code→Bool→Shared→Prop
 wrap:∀{α:Type} {A l own₀ g₀ s₀ c fs s} {m:Sem α} {K:α→Sem Fin} {H:Value→Sem Fin} {gd:Bool→Bool} {lv:List Value→List Value},
  wpAny (model P0 X.w) (A.over c fs) m (λa s'=>Z A l own₀ g₀ s₀ c (K a) fs s') ai s→Z A l own₀ g₀ s₀ c (m.wrap K H gd lv) fs s
 call:∀{A l own₀ g₀ s₀ c fs s c' h g lv} {kk:Result→Sem Fin},(∀p,Z A l own₀ g₀ s₀ c' (denote table c') (.ret kk h g lv c p []::fs) s)→Z A l own₀ g₀ s₀ c (.call c' h g lv kk) fs s
 leaf:∀{A l own₀ g₀ s₀ c c₁ fs s kk h g lv p₁ kp} (f:Flow),Z A l own₀ g₀ s₀ c₁ (kk (.ok f)) fs s→Z A l own₀ g₀ s₀ c (.pure (.done f)) (.ret kk h g lv c₁ p₁ kp::fs) s
 again:∀{A l own₀ g₀ s₀ c c' fs s},c'.quiet=true→Z A l own₀ g₀ s₀ c' (denote table c') fs s→Z A l own₀ g₀ s₀ c (.pure (.again c')) fs s
 ok0:∀c s,okY c false s
 yld:∀{A l own₀ g₀ s₀ c fs s V v gf lv own g} {kk:Resume→Sem Fin},splitAtGen fs=none→fs.any Frame.guarded=false→okY c gf s→Go X own₀ g₀ σ s₀ g σ s→own.Le s₀ own₀→own.Ex s→Rep g V v→
  (∀P g'' s'',Go X P g σ s g'' σ s''→own.Apart P→∀A',Room A' (k+1)→Z A' l own g'' s'' c (kk (.send .none)) fs s'')→Z A (V::l) own₀ g₀ s₀ c (.yield v gf lv kk) fs s
 fin:∀{A own₀ g₀ s₀ c s g f},Go X own₀ g₀ σ s₀ g σ s→(f=.next∨f=.ret .none)→Z A [] own₀ g₀ s₀ c (.pure (.done f)) [] s
theorem B0{M:Model}{A:Around}{c:Code}{fs:List Frame}{P:End→Shared→Prop}{α:Type}{s:Shared}{m:Sem α}{K:α→Sem Fin}{H:Value→Sem Fin}{gd:Bool→Bool}{lv:List Value→List Value}
  (h:wpAny M (A.over c fs) m (λa s'=>SegX M A c (K a) fs s' P) ai s):SegX M A c (m.wrap K H gd lv) fs s P:=by
 rintro Γ p rfl hΓ
 obtain⟨e,s',hr,hq⟩:=runs_wrap_of_wp (Φ:=λe s'=>e.quiet=true∧P e s') K H gd lv m (h (Γ.over fs) p (hΓ.over fs)) (λa p' s' h'=>h' Γ p' rfl hΓ) (λx p' s' h'=>h'.elim)
 exact⟨e,s',hr,hq⟩
def vK(X:Cx)(k:Nat)(σ:St):Mach X k σ where
 Z A l own₀ g₀ s₀ c t fs s:=SegX (model P0 X.w) A c t fs s (wq X k σ l own₀ g₀ s₀)
 okY _ gf _:=gf=false
 wrap h:=B0 h
 call h:=s_call P0 X.w _ _ _ _ _ _ _ _ _ _ h
 leaf f h:=s_pop P0 X.w _ _ _ _ _ (.ok f) _ rfl _ _ _ _ _ _ _ h
 again hq h:=s_again P0 X.w _ _ _ _ _ _ hq h
 ok0 _ _:=rfl
 yld {A l own₀ g₀ s₀ c fs s V v gf lv own g kk} hfs hfg hg G hle hex r h:=by
  subst hg
  exact s_yield P0 X.w _ _ _ _ s v lv kk hfs hfg λp=>⟨v,lv,kk,c,p,fs,g,own,rfl,hfg,hle,hex,G,r,h⟩
 fin {A own₀ g₀ s₀ c s g f} G hf:=s_end P0 X.w _ _ _ s (.ok f) _ rfl ⟨⟨f,rfl,hf⟩,g,G⟩
structure GC(k:Nat)(c:Code)(fs:List Frame):Prop where
 split:splitAtGen fs=none
 guard:fs.any Frame.guarded=false
 hnd:∀A:Around,(A.over c fs).handled=A.handled
 dep:∀A:Around,(A.over c fs).depth≤A.depth+1
 uni:∀A:Around,(A.over c fs).units≤A.units+3
theorem GC.room(h:GC k c fs)(hA:Room A (k+1)):Room (A.over c fs) k:=
 ⟨(h.hnd A).trans hA.handled,by have:=hA.depth;have:=h.dep A;omega,by have:=hA.units;have:=h.uni A;omega⟩
def eC(X:Cx)(σ:St)(jo:Pv)(J:View→Shared→Prop):Prop:=∀{P:Pv} {g g':View} {s s':Shared},Go X P g σ s g' σ s'→jo.Apart P→J g s→J g' s'
structure YS(X:Cx)(σ:St)(N:Addr)(env:Env)(jo:Pv)(J:View→Shared→Prop)(m:Mp)(own₀:Pv)(g₀:View)(s₀:Shared)(own:Pv)(g:View)(s:Shared):Prop where
 go:Go X own₀ g₀ σ s₀ g σ s
 le:own.Le s₀ own₀
 ex:own.Ex s
 frm:Frm X env m g σ s
 foL:own.a env.locals
 foC:∀x c,env.cells.lookup x=some c→own.a c
 jex:jo.Ex s
 jap:jo.Apart (ax N env)
 jle:(∀a,jo.a a→own.a a)∧(∀i,jo.n i→own.n i)
 jh:J g s
theorem YS.prv(Y:YS X σ N env jo J m own₀ g₀ s₀ own g s):(ax N env).Le s' own:=
 ⟨λa _ _ h=>by rcases h.2 with rfl|⟨x,hx⟩;exact Y.foL;exact Y.foC x a hx,λ_ _ h=>h.elim⟩
theorem Pv.Le.trans{s:Shared}{P Q R:Pv}(x:P.Le s Q)(y:Q.Le s R):P.Le s R:=⟨λa o e h=>y.1 a o e (x.1 a o e h),λi hi h=>y.2 i hi (x.2 i hi h)⟩
theorem YS.step{X:Cx}{σ:St}{N:Addr}{env:Env}{jo:Pv}{J:View→Shared→Prop}{m m':Mp}{own₀:Pv}{g₀:View}{s₀:Shared}{own:Pv}{g g':View}{s s':Shared}(Y:YS X σ N env jo J m own₀ g₀ s₀ own g s)(hJ:eC X σ jo J)
  (G:Go X (ax N env) g σ s g' σ s')(F:Frm X env m' g' σ s'):YS X σ N env jo J m' own₀ g₀ s₀ own g' s':=by
 have ex':∀{P:Pv},P.Ex s→P.Ex s':=λ{P} h=>⟨λa q=>by
   by_cases hp:(ax N env).a a
   ·exact iq F a hp
   ·obtain⟨o,e⟩:=h.1 a q;exact G.dom e hp,λi q=>bu (h.2 i q) G.run.gsize⟩
 exact⟨Y.go.comp G (Y.prv.trans Y.le),Y.le,ex' Y.ex,F,Y.foL,Y.foC,ex' Y.jex,Y.jap,Y.jle,hJ G Y.jap Y.jh⟩
section
variable {X:Cx} {k:Nat} {σ:St} (M:Mach X k σ) (N:Addr) (env:Env)
def F7(c:Code)(fs:List Frame)(jo:Pv)(J:View→Shared→Prop)(K:Flow→Sem Fin)(Q:AFl→Mp→List AV→Prop):Prop:=
 ∀A f F m l own₀ g₀ s₀ own g s,Room A (k+1)→YS X σ N env jo J m own₀ g₀ s₀ own g s→RepF g F f→Q F m l→M.Z A l own₀ g₀ s₀ c (K f) fs s
def ExT(t:Sem Flow)(m:Mp)(l:List AV)(Q:AFl→Mp→List AV→Prop):Prop:=
 ∀c fs jo J,GC k c fs→eC X σ jo J→∀A K H gd lv own₀ g₀ s₀ own g s,Room A (k+1)→gd false=false→YS X σ N env jo J m own₀ g₀ s₀ own g s→F7 M N env c fs jo J K Q→M.Z A l own₀ g₀ s₀ c (t.wrap K H gd lv) fs s
def mH(m:Mp)(st:Stmt)(l:List AV)(Q:AFl→Mp→List AV→Prop):Prop:=ExT M N env (exec st env) m l Q
def fJ(m:Mp)(st:List Stmt)(l:List AV)(Q:AFl→Mp→List AV→Prop):Prop:=ExT M N env (execs st env) m l Q
end
section
variable {X:Cx} {k:Nat} {σ:St} {M:Mach X k σ} {N:Addr} {env:Env} {m:Mp} {l:List AV} {Q:AFl→Mp→List AV→Prop}
theorem Mach.bind{α β:Type}{A:Around}{l:List AV}{own₀:Pv}{g₀:View}{s₀:Shared}{c:Code}{fs:List Frame}{s:Shared}{t:Sem α}{f:α→Sem β}{K:β→Sem Fin}{H:Value→Sem Fin}{gd:Bool→Bool}{lv:List Value→List Value}
  (h:wpAny (model P0 X.w) (A.over c fs) t (λa s'=>M.Z A l own₀ g₀ s₀ c ((f a).wrap K H gd lv) fs s') ai s):M.Z A l own₀ g₀ s₀ c ((t>>= f).wrap K H gd lv) fs s:=by
 rw[el,eP]
 exact M.wrap h
theorem Mach.raise{α:Type}{A:Around}{l:List AV}{own₀:Pv}{g₀:View}{s₀:Shared}{c:Code}{fs:List Frame}{s:Shared}{t:Sem α}{h':Value→Sem Unit}{K:α→Sem Fin}{H:Value→Sem Fin}{gd:Bool→Bool}{lv:List Value→List Value}
  (h:∀H',M.Z A l own₀ g₀ s₀ c (t.wrap K H' gd lv) fs s):M.Z A l own₀ g₀ s₀ c ((t.onRaise h').wrap K H gd lv) fs s:=by
 rw[iQ,eP]
 exact h _
theorem jg{st:Stmt}(h:∀A',Room A' k→Ex X A' ai (ax N env) env m st σ λF m' σ'=>σ'=σ∧Q F m' l):mH M N env m st l Q:=λc fs jo J hc hJ A K H gd lv own₀ g₀ s₀ own g s hA hgd Y hK=>
 M.wrap (aj (h _ (hc.room hA) g s Y.go.sat Y.frm) (λf s' ⟨g',F,m',σ',G,F',rf,e,q⟩=>by subst e;exact hK A f F m' l own₀ g₀ s₀ own g' s' hA (Y.step hJ G F') rf q) i2)
theorem cK(h:Q .next m l):fJ M N env m [] l Q:=λc fs jo J hc hJ A K H gd lv own₀ g₀ s₀ own g s hA hgd Y hK=>hK A .next .next m l own₀ g₀ s₀ own g s hA Y rfl h
theorem bU{st:Stmt}{rest:List Stmt}(h:mH M N env m st l λF m₁ l₁=>match F with|.next=>fJ M N env m₁ rest l₁ Q|F=>Q F m₁ l₁):fJ M N env m (st::rest) l Q:=λc fs jo J hc hJ A K H gd lv own₀ g₀ s₀ own g s hA hgd Y hK=>by
 rw[execs_cons_wrap]
 refine h c fs jo J hc hJ A _ H gd lv own₀ g₀ s₀ own g s hA hgd Y λA' f F m' l' own₀' g₀' s₀' own' g' s' hA' Y' rf q=>?_
 cases F with
 |next=>cases rf;exact q c fs jo J hc hJ A' K H gd lv own₀' g₀' s₀' own' g' s' hA' hgd Y' hK
 |brk=>cases rf;exact hK A' .brk .brk m' l' own₀' g₀' s₀' own' g' s' hA' Y' rfl q
 |cont=>cases rf;exact hK A' .cont .cont m' l' own₀' g₀' s₀' own' g' s' hA' Y' rfl q
 |ret V=>obtain⟨v,rfl,r⟩:=rf;exact hK A' (.ret v) (.ret V) m' l' own₀' g₀' s₀' own' g' s' hA' Y' ⟨v,rfl,r⟩ q
theorem fW{t:Expr}{a b:List Stmt}{pos}(h:∀A',Room A' k→EvB X A' ai env m t σ λr σ'=>σ'=σ∧if r then fJ M N env m a l Q else fJ M N env m b l Q):mH M N env m (.If t a b pos) l Q:=λc fs jo J hc hJ A K H gd lv own₀ g₀ s₀ own g s hA hgd Y hK=>by
 have e:exec (.If t a b pos) env=(do standAt pos;let r ←isTrue t env (eval t env);if r then execs a env else execs b env):=rfl
 rw[e]
 refine Mach.bind (bL (Mach.bind (aj (h _ (hc.room hA) g s Y.go.sat Y.frm) (λr s' ⟨g',σ',G,e,q⟩=>?_) i2)))
 subst e
 have Y':=Y.step hJ G.any (Y.frm.go G)
 cases r with
 |true=>exact q c fs jo J hc hJ A K H gd lv own₀ g₀ s₀ own g' s' hA hgd Y' hK
 |false=>exact q c fs jo J hc hJ A K H gd lv own₀ g₀ s₀ own g' s' hA hgd Y' hK
end
section
variable {X:Cx} {k:Nat} {σ:St} {M:Mach X k σ} {N:Addr} {env:Env} {m:Mp} {l:List AV} {Q:AFl→Mp→List AV→Prop}
theorem YS.woken(Y:YS X σ N env jo J m own₀ g₀ s₀ own g s)(hJ:eC X σ jo J)
  (G:Go X P g σ s g' σ s')(hap:own.Apart P):YS X σ N env jo J m own g' s' own g' s':=by
 have ex':∀{R:Pv},(∀a,R.a a→own.a a)→R.Ex s→R.Ex s':=λ{R} hR h=>⟨λa q=>let ⟨o,e⟩:=h.1 a q;G.dom e (hap.1 a (hR a q)),λi q=>bu (h.2 i q) G.run.gsize⟩
 exact⟨.refl G.sat,Pv.Le.refl _ _,ex' (λ_ h=>h) Y.ex,Y.frm.goP G (hap.1 _ Y.foL) (λx c hc=>hap.1 c (Y.foC x c hc)),Y.foL,Y.foC,ex' Y.jle.1 Y.jex,Y.jap,Y.jle,hJ G ⟨λa h=>hap.1 a (Y.jle.1 a h),λi h=>hap.2 i (Y.jle.2 i h)⟩ Y.jh⟩
theorem YS.woken'(Y:YS X σ N env jo J m own₀ g₀ s₀ own g s)(hJ:eC X σ jo J)
  (G:Go X P g σ s g' σ s')(hap:own.Apart P)(hb:own.Le s' ob):YS X σ N env jo J m ob g' s' own g' s':=
 let Y':=Y.woken hJ G hap
 ⟨.refl G.sat,hb,Y'.ex,Y'.frm,Y'.foL,Y'.foC,Y'.jex,Y'.jap,Y'.jle,Y'.jh⟩
theorem je(h:∀A',Room A' k→Ev X A' ai env m e σ λW σ'=>σ'=σ∧W=V∧Q .next m l)(hco:env.scope.isCoroutine=false:=by rfl)(hi:interactive env=false:=by rfl):
  mH M N env m (.Expr (.Yield (some e) ypos) pos) (V::l) Q:=λc fs jo J hc hJ A K H gd lv own₀ g₀ s₀ own g s hA hgd Y hK=>by
 rw[exec_Expr env _ pos hi rfl]
 have hy:∀v,yieldOut env v=yieldValue v:=λv=>by simp only[yieldOut,hco,eM,dr]
 refine Mach.bind (bL ?_)
 show M.Z A _ own₀ g₀ s₀ c (((eval e env>>= λv=>(standAt ypos>>= λ_=>yieldOut env v))>>= λx=>dropValue (.Yield (some e) ypos) pos x).wrap K H gd lv) fs s
 simp only[hy]
 rw[el,el,eP,eP]
 refine M.wrap (aj (h _ (hc.room hA) g s Y.go.sat Y.frm) (λv s' ⟨g',W,σ',G,r,e1,e2,q⟩=>?_) i2)
 subst e1 e2
 have Y':=Y.step hJ G.any (Y.frm.go G)
 refine M.wrap (m:=standAt ypos) (H:=.raise) (gd:=id) (lv:=id) (bL ?_)
 refine M.yld hc.split hc.guard (by simp only[id,hgd];exact M.ok0 c s') Y'.go Y'.le Y'.ex r λP g'' s'' G'' hap A' hA'=>?_
 exact hK A' .next .next m l own g'' s'' own g'' s'' hA' (Y'.woken hJ G'' hap) rfl q
def so(M:Mach X k σ)(N:Addr)(env:Env)(target:Expr)(body:List Stmt)(Q:AFl→Mp→List AV→Prop):List AV→Mp→List AV→Prop
 |[],m,l=>Q .next m l
 |V::it,m,l=>∀A',Room A' k→As X A' ai (ax N env) env m target V σ λm₁ σ₁=>σ₁=σ∧fJ M N env m₁ body l λF m₂ l₂=>match F with
  |.next|.cont=>so M N env target body Q it m₂ l₂
  |.brk=>Q .next m₂ l₂
  |.ret W=>Q (.ret W) m₂ l₂
theorem nN(A:Around)(c c':Code)(fs:List Frame)(kk:Result→Sem Fin)(g:Bool)(lv:List Value)(p:Pos)(kp:List Value):(A.over c' (.ret kk none g lv c p kp::fs)).handled=(A.over c fs).handled∧(A.over c' (.ret kk none g lv c p kp::fs)).depth=(A.over c fs).depth+c'.weight∧(A.over c' (.ret kk none g lv c p kp::fs)).units=(A.over c fs).units+c'.cUnits:=by
 refine⟨rfl,?_,?_⟩
 ·show A.depth+frameCount ((c,p)::fs.map Frame.where_)+c'.weight=A.depth+frameCount (fs.map Frame.where_)+c.weight+c'.weight
  rw[frameCount_cons];omega
 ·show A.units+unitsOf ((c,p)::fs.map Frame.where_)+c'.cUnits=A.units+unitsOf (fs.map Frame.where_)+c.cUnits+c'.cUnits
  rw[unitsOf_cons];omega
theorem DL(hc:GC k c fs)(hw:c'.weight=0)(hu:c'.cUnits=0):GC k c' (.ret kk none false lv c p kp::fs):=by
 refine⟨?_,?_,λA=>?_,λA=>?_,λA=>?_⟩
 ·show(splitAtGen fs).map _=none
  rw[hc.split];rfl
 ·show(false||fs.any Frame.guarded)=false
  rw[hc.guard];rfl
 ·exact(nN A c c' fs kk false lv p kp).1.trans (hc.hnd A)
 ·rw[(nN A c c' fs kk false lv p kp).2.1,hw];exact hc.dep A
 ·rw[(nN A c c' fs kk false lv p kp).2.2,hu];exact hc.uni A
theorem YS.inner(Y:YS X σ N env jo J m own₀ g₀ s₀ own g s)(hJ:eC X σ jo J)(G:Go X oi g σ s g' σ s')(hap:oi.Apart own)(hle:oi.Le s₀ own₀):
  YS X σ N env jo J m own₀ g₀ s₀ own g' s':=by
 have ex':∀{R:Pv},(∀a,R.a a→own.a a)→R.Ex s→R.Ex s':=λ{R} hR h=>⟨λa q=>let ⟨o,e⟩:=h.1 a q;G.dom e (λz=>hap.1 a z (hR a q)),λi q=>bu (h.2 i q) G.run.gsize⟩
 exact⟨Y.go.comp G hle,Y.le,ex' (λ_ h=>h) Y.ex,Y.frm.goP G (λz=>hap.1 _ z Y.foL) (λx c hc z=>hap.1 c z (Y.foC x c hc)),Y.foL,Y.foC,ex' Y.jle.1 Y.jex,Y.jap,Y.jle,
  hJ G ⟨λa h z=>hap.1 a z (Y.jle.1 a h),λi h z=>hap.2 i z (Y.jle.2 i h)⟩ Y.jh⟩
def Pv.minus(P Q:Pv):Pv:=⟨λa=>P.a a∧¬Q.a a,λi=>P.n i∧¬Q.n i⟩
theorem YS.minus(Y:YS X σ N env jo' J' m own₀ g₀ s₀ own g s)(hL:¬oi.a env.locals)(hC:∀x c,env.cells.lookup x=some c→¬oi.a c)
  (hj:∀a,jo.a a→jo'.a a∧¬oi.a a)(hj':∀i,jo.n i→jo'.n i∧¬oi.n i)(hJ:J g s):YS X σ N env jo J m own₀ g₀ s₀ (own.minus oi) g s:=
 ⟨Y.go,⟨λa o e h=>Y.le.1 a o e h.1,λi hi h=>Y.le.2 i hi h.1⟩,⟨λa h=>Y.ex.1 a h.1,λi h=>Y.ex.2 i h.1⟩,Y.frm,⟨Y.foL,hL⟩,λx c hc=>⟨Y.foC x c hc,hC x c hc⟩,
  ⟨λa h=>Y.jex.1 a (hj a h).1,λi h=>Y.jex.2 i (hj' i h).1⟩,⟨λa h=>Y.jap.1 a (hj a h).1,λi h=>Y.jap.2 i (hj' i h).1⟩,⟨λa h=>⟨Y.jle.1 a (hj a h).1,(hj a h).2⟩,λi h=>⟨Y.jle.2 i (hj' i h).1,(hj' i h).2⟩⟩,hJ⟩
theorem YS.weakJ(Y:YS X σ N env jo' J' m own₀ g₀ s₀ own g s)(hj:∀a,jo.a a→jo'.a a)(hj':∀i,jo.n i→jo'.n i)(hJ:J g s):YS X σ N env jo J m own₀ g₀ s₀ own g s:=
 ⟨Y.go,Y.le,Y.ex,Y.frm,Y.foL,Y.foC,⟨λa h=>Y.jex.1 a (hj a h),λi h=>Y.jex.2 i (hj' i h)⟩,⟨λa h=>Y.jap.1 a (hj a h),λi h=>Y.jap.2 i (hj' i h)⟩,⟨λa h=>Y.jle.1 a (hj a h),λi h=>Y.jle.2 i (hj' i h)⟩,hJ⟩
theorem xC{own oi oi':Pv}{s:Shared}(h:oi.Apart own)(k:oi'.Le s oi)(hx:own.Ex s):oi'.Apart own:=
 ⟨λa h1 h2=>let ⟨o,e⟩:=hx.1 a h2;h.1 a (k.1 a o e h1) h2,λi h1 h2=>h.2 i (k.2 i (hx.2 i h2) h1) h2⟩
theorem BZ{target:Expr}{body:List Stmt}{it:Value}{Dep:St→St→Prop}{It:f5}{c:Code}{fs:List Frame}{jo:Pv}{J:View→Shared→Prop}{kk:Result→Sem Fin}{lv:List Value}{p:Pos}(I:Itr X k (some target) it Dep It)
  (hc:GC k c fs)(hJ:eC X σ jo J)(hq:(Code.forLoop target it body [] env).quiet=true)(hq':(Code.block [] env).quiet=true)(hw:(Code.forLoop target it body [] env).weight=0)(hu:(Code.forLoop target it body [] env).cUnits=0)
  (hkk:∀A f F m l own₀ g₀ s₀ own g s,Room A (k+1)→YS X σ N env jo J m own₀ g₀ s₀ own g s→RepF g F f→Q F m l→M.Z A l own₀ g₀ s₀ c (kk (.ok f)) fs s):
  ∀(L:List AV) A (m:Mp) (l:List AV) own₀ g₀ s₀ own g s oi,Room A (k+1)→YS X σ N env jo J m own₀ g₀ s₀ own g s→oi.Le s₀ own₀→oi.Apart own→It oi L g σ s→so M N env target body Q L m l→
   M.Z A l own₀ g₀ s₀ (.forLoop target it body [] env) (denote table (.forLoop target it body [] env)) (.ret kk none false lv c p []::fs) s:=by
 have hc':GC k (.forLoop target it body [] env) (.ret kk none false lv c p []::fs):=DL hc hw hu
 intro L
 induction L with
 |nil=>
  intro A m l own₀ g₀ s₀ own g s oi hA Y hle hap hit h
  show M.Z A l own₀ g₀ s₀ _ ((forTurn target it body [] env).onRaise _) _ s
  rw[iQ]
  unfold forTurn
  refine Mach.bind (bL ?_)
  refine Mach.bind (nv (aj (I.stop (hc'.room hA) Y.go.sat hit) (λr s₁ ⟨hr,g',G⟩=>?_) λ_ _ x=>x.elim))
  subst hr
  refine M.again hq' ?_
  show M.Z A l own₀ g₀ s₀ _ (.pure (.done .next)) _ s₁
  exact M.leaf .next (hkk A .next .next m l own₀ g₀ s₀ own g' s₁ hA (Y.inner hJ G hap hle) rfl h)
 |cons V L ih=>
  intro A m l own₀ g₀ s₀ own g s oi hA Y hle hap hit h
  show M.Z A l own₀ g₀ s₀ _ ((forTurn target it body [] env).onRaise _) _ s
  rw[iQ]
  unfold forTurn
  refine Mach.bind (bL ?_)
  refine Mach.bind (nv (aj (I.next (hc'.room hA) Y.go.sat hit) (λr s₁ ⟨v,hr,h₁⟩=>?_) λ_ _ x=>x.elim))
  subst hr
  refine Mach.bind (aj h₁ (λ_ s₂ ⟨g₂,oi',hl',G,rv,hit'⟩=>?_) i2)
  have Y₂:=Y.inner hJ G hap hle
  have hap':=xC hap hl' Y.ex
  have hle':oi'.Le s₀ own₀:=hl'.back' Y.go.run hle
  refine Mach.bind (aj (h _ (hc'.room hA) g₂ s₂ v Y₂.go.sat Y₂.frm rv) (λ_ s₃ ⟨g₃,m₃,σ₃,G₃,F₃,e₃,h₃⟩=>?_) i2)
  subst e₃
  have Y₃:=Y₂.step hJ G₃ F₃
  have hapP:oi'.Apart (ax N env):=⟨λa h1 h2=>hap'.1 a h1 (by rcases h2.2 with rfl|⟨x,hx⟩;exact Y.foL;exact Y.foC x a hx),λ_ _ z=>z.elim⟩
  have hit₃:=I.keep hit' G₃ hapP (I.dep _)
  have hL':¬oi'.a env.locals:=λz=>hap'.1 _ z Y.foL
  have hC':∀x c,env.cells.lookup x=some c→¬oi'.a c:=λx c hc z=>hap'.1 c z (Y.foC x c hc)
  have hJ':eC X σ₃ (jo.sup oi') (λg s=>J g s∧It oi' L g σ₃ s):=λ{P g g' s s'} G ha ⟨a,b⟩=>⟨hJ G ⟨λa h=>ha.1 a (.inl h),λi h=>ha.2 i (.inl h)⟩ a,I.keep b G ⟨λa h=>ha.1 a (.inr h),λi h=>ha.2 i (.inr h)⟩ (I.dep _)⟩
  have Yb:YS X σ₃ N env (jo.sup oi') (λg s=>J g s∧It oi' L g σ₃ s) m₃ own₀ g₀ s₀ (own.sup oi') g₃ s₃:=
   ⟨Y₃.go,⟨λa o e h=>by rcases h with h|h;exact Y₃.le.1 a o e h;exact hle'.1 a o e h,λi hi h=>by rcases h with h|h;exact Y₃.le.2 i hi h;exact hle'.2 i hi h⟩,
    ⟨λa h=>by rcases h with h|h;exact Y₃.ex.1 a h;exact(I.ex hit₃).1 a h,λi h=>by rcases h with h|h;exact Y₃.ex.2 i h;exact(I.ex hit₃).2 i h⟩,Y₃.frm,.inl Y₃.foL,λx c hc=>.inl (Y₃.foC x c hc),
    ⟨λa h=>by rcases h with h|h;exact Y₃.jex.1 a h;exact(I.ex hit₃).1 a h,λi h=>by rcases h with h|h;exact Y₃.jex.2 i h;exact(I.ex hit₃).2 i h⟩,
    ⟨λa h=>by rcases h with h|h;exact Y₃.jap.1 a h;exact hapP.1 a h,λi h=>by rcases h with h|h;exact Y₃.jap.2 i h;exact hapP.2 i h⟩,
    ⟨λa h=>by rcases h with h|h;exact .inl (Y₃.jle.1 a h);exact .inr h,λi h=>by rcases h with h|h;exact .inl (Y₃.jle.2 i h);exact .inr h⟩,Y₃.jh,hit₃⟩
  have hjo:∀a,jo.a a→(jo.sup oi').a a∧¬oi'.a a:=λa h=>⟨.inl h,λz=>hap'.1 a z (Y.jle.1 a h)⟩
  have hjo':∀i,jo.n i→(jo.sup oi').n i∧¬oi'.n i:=λi h=>⟨.inl h,λz=>hap'.2 i z (Y.jle.2 i h)⟩
  rw[el,eP]
  refine h₃ _ _ _ _ hc' hJ' A _ _ _ _ own₀ g₀ s₀ _ g₃ s₃ hA rfl Yb λA' f F m' l' own₀' g₀' s₀' own' g' s' hA' Y' rf q=>?_
  have again_:M.Z A' l' own₀' g₀' s₀' (.forLoop target it body [] env) (denote table (.forLoop target it body [] env)) (.ret kk none false lv c p []::fs) s'→M.Z A' l' own₀' g₀' s₀' (.forLoop target it body [] env) (.pure (.again (.forLoop target it body [] env))) (.ret kk none false lv c p []::fs) s':=M.again hq
  have oiLe:oi'.Le s₀' own₀':=⟨λa o e z=>Y'.le.1 a o e (Y'.jle.1 a (.inr z)),λi hi z=>Y'.le.2 i hi (Y'.jle.2 i (.inr z))⟩
  have oiAp:oi'.Apart (own'.minus oi'):=⟨λa z1 z2=>z2.2 z1,λi z1 z2=>z2.2 z1⟩
  have Ym:=Y'.minus (jo:=jo) (J:=J) hL' hC' hjo hjo' Y'.jh.1
  cases F with
  |next=>cases rf;exact again_ (ih A' m' l' own₀' g₀' s₀' _ g' s' oi' hA' Ym oiLe oiAp Y'.jh.2 q)
  |cont=>cases rf;exact again_ (ih A' m' l' own₀' g₀' s₀' _ g' s' oi' hA' Ym oiLe oiAp Y'.jh.2 q)
  |brk=>cases rf;exact M.leaf .next (hkk A' .next .next m' l' own₀' g₀' s₀' _ g' s' hA' (Y'.weakJ (λ_ h=>.inl h) (λ_ h=>.inl h) Y'.jh.1) rfl q)
  |ret W=>obtain⟨u,rfl,ru⟩:=rf;exact M.leaf (.ret u) (hkk A' (.ret u) (.ret W) m' l' own₀' g₀' s₀' _ g' s' hA' (Y'.weakJ (λ_ h=>.inl h) (λ_ h=>.inl h) Y'.jh.1) ⟨u,rfl,ru⟩ q)
theorem vo{pos}(h:∀A',Room A' k→fi X A' ai k env m (some target) iter σ λDep L σ₂=>σ₂=σ∧so M N env target body Q L m l)
  (hs:∀x,foldedSetIterable iter env x=pure x:=by intro _;rfl)(hq:∀it,(Code.forLoop target it body [] env).quiet=true:=by intro _;rfl)(hq':(Code.block [] env).quiet=true:=by rfl)
  (hw:∀it,(Code.forLoop target it body [] env).weight=0:=by intro _;rfl)(hu:∀it,(Code.forLoop target it body [] env).cUnits=0:=by intro _;rfl):mH M N env m (.For target iter body [] pos) l Q:=λc fs jo J hc hJ A K H gd lv own₀ g₀ s₀ own g s hA hgd Y hK=>by
 rw[exec_For]
 refine Mach.bind (bL (Mach.bind (aj (h _ (hc.room hA) g s Y.go.sat Y.frm) (λv s₁ h₁=>?_) i2)))
 refine Mach.bind (bw (hs v) (Mach.bind (bL (Mach.bind (bT (aj h₁ (λit s₂ ⟨g₂,σ₂,Dep,It,oi,L,G,ho,I,hit,e,h₂⟩=>?_) i2))))))
 subst e
 have Y₂:=Y.step hJ G.any (Y.frm.go G)
 have hap:oi.Apart own:=⟨λa h1 h2=>let ⟨o,e⟩:=Y.ex.1 a h2;ho.1 a o e h1,λi h1 h2=>ho.2 i (Y.ex.2 i h2) h1⟩
 have hle:oi.Le s₀ own₀:=by
  refine⟨λa o e q=>?_,λi hi q=>(ho.2 i (bu hi Y.go.run.gsize) q).elim⟩
  by_cases hp:own₀.a a
  ·exact hp
  ·obtain⟨o',e'⟩:=Y.go.dom e hp;exact(ho.1 a o' e' q).elim
 refine M.call λp=>?_
 show M.Z A l own₀ g₀ s₀ _ _ (.ret _ none (gd false) (lv []) c p []::fs) s₂
 rw[hgd]
 refine BZ I hc hJ (hq it) hq' (hw it) (hu it) (λA' f F m' l' own₀' g₀' s₀' own' g' s' hA' Y' rf q=>?_) L A m l own₀ g₀ s₀ own g₂ s₂ oi hA Y₂ hle hap hit h₂
 exact hK A' f F m' l' own₀' g₀' s₀' own' g' s' hA' Y' rf q
end
def vA(e:Value)(s:Shared):Prop:=∃x ob vs,e=.ref x∧s.heap.get? x=some ob∧ob.cls=.type "StopIteration"∧ob.data=.fields vs∧vs[5]?=some .none
section
variable {X:Cx} {A:Around} {E:Value→Shared→Prop} {s:Shared}
theorem zK{it t:Addr}{i:Nat}{items}{x:Value}{Q:Option Value→Shared→Prop}(hit:s.heap.IsTupleIter it t i)(ht:s.heap.IsTuple t items)(hx:items[i]?=some x)
  (hQ:∀h',h'.IsTupleIter it t (i+1)→Heap.SameBut it s.heap h'→Q (some x) {s with heap:=h'}):wpAny (model P0 X.w) A (callSpecial? (.ref it) "__next__") Q E s:=by
 obtain⟨o,ho,hc,hd⟩:=id hit
 obtain⟨ol,hol,_,nl,hdl⟩:=ht
 refine fK (name:=Str.ofString "__next__") hit.typeIs tY (dE tY hit.typeIs F.entry_tuple_iterator_next ?_ (F.args_tuple_iterator_next_1 _))
 refine ac (m:=field (.ref it) 0) (bM ho hd (x:=.ref t) rfl ?_)
 show wpAny _ _ (if (Value.ref t==Value.none)=true then _ else _) _ _ s
 rw[ae (show ¬((Value.ref t==Value.none)=true) from aT)]
 refine ac (m:=field (.ref it) 1) (bM ho hd (x:=.int i 0) rfl ?_)
 refine ac (m:=seqItems? (.ref t)) (eA hol hdl ?_)
 simp only[eO,hx]
 refine ac (qt ho hd (by simp) (ao ⟨x,rfl,hQ _ ?_ (dD ..)⟩))
 exact⟨_,fk _ ho (t6 (mP hd _)),(Obj.cls_mapFields ..).trans hc,by rw[mP hd];simp[rawInt]⟩
theorem zP{it t:Addr}{i:Nat}{items}{Q:Option Value→Shared→Prop}(hh:A.handled=none)(hit:s.heap.IsTupleIter it t i)(ht:s.heap.IsTuple t items)(hx:items[i]?=none)
  (hE:∀e h',vA e {s with heap:=h'}→Heap.ExtBut it s.heap h'→E e {s with heap:=h'}):wpAny (model P0 X.w) A (callSpecial? (.ref it) "__next__") Q E s:=by
 obtain⟨o,ho,hc,hd⟩:=id hit
 obtain⟨ol,hol,_,nl,hdl⟩:=ht
 refine fK (name:=Str.ofString "__next__") hit.typeIs tY (dE tY hit.typeIs F.entry_tuple_iterator_next ?_ (F.args_tuple_iterator_next_1 _))
 refine ac (m:=field (.ref it) 0) (bM ho hd (x:=.ref t) rfl ?_)
 show wpAny _ _ (if (Value.ref t==Value.none)=true then _ else _) _ _ s
 rw[ae (show ¬((Value.ref t==Value.none)=true) from aT)]
 refine ac (m:=field (.ref it) 1) (bM ho hd (x:=.int i 0) rfl ?_)
 refine ac (m:=seqItems? (.ref t)) (eA hol hdl ?_)
 simp only[eO,hx]
 refine ac (c5 (ac (qt ho hd (by simp) ?_)))
 refine ac (m:=newExc (.type "StopIteration") []) ?_
 simp only[newExc,newTuple]
 refine ac (di ?_ (by size_fits))
 refine ac (m:=firstArgMember _ _) (bw (a:=Value.none) (by first|rfl|(simp only[firstArgMember];rfl)) ?_)
 refine di ?_ (by size_fits)
 simp only[raiseNew]
 refine ac (qz ?_)
 first|rw[show A.in1.handled=none from hh]|rw[hh]
 refine ac (ao (qH ?_))
 exact hE _ _ ⟨_,_,_,rfl,aX _ rfl,rfl,rfl,by rfl⟩ (((dD ..).extBut.push _).push _)
end
def ci(I:Addr):Code:=.builtin "proto.yield_from" ⟨[.ref I,.bool false,.none],[]⟩
theorem CP:entryFor table "proto.yield_from"=some Builtin.«proto.yield_from»:=entryFor_of_fast (by kernel_rfl)
def yT(it:Value):Resume→Sem Fin
 |.send v=>do again (.builtin "proto.yield_from" ⟨[it,.bool false,←(match v with|.ref _=>newList [v]|_=>pure v)],[]⟩)
 |.throw e=>do again (.builtin "proto.yield_from" ⟨[it,.bool true,←(match e with|.ref _=>newList [e]|_=>pure e)],[]⟩)
def y8(it:Value):Sem Value:=holding [.none] (do
   rule "yield-from.next"
   match ←callSpecial? it "__next__" with
   |some v=>pure v
   |none=>do rule "yield-from.send-none";call (←getAttr it "send") [.none])
def kR(it y:Value):Sem Fin:=do
  let quiet ←match ←typeOf it with
   |.type n=>do pure (←typeLookup (.type n) "close").isNone
   |_=>pure false
  Builtin.Generator.sleptOver it true
  let woken ←suspend y (cleanup:= !quiet)
  Builtin.Generator.sleptOver it false
  yT it woken
def kM(e:Value):Sem Fin:=do
  if ←Builtin.Generator.endsTheTurnAsAValue false e then
   rule "yield-from.value";return ←ret (←field e 5)
  throw e
theorem Du(it:Value):Builtin.«proto.yield_from» ⟨[it,.bool false,.none],[]⟩=(do
 match ←(y8 it).attempt with
 |.error e=>kM e
 |.ok y=>kR it y):=by rfl
theorem AT{id:String}{args:Args}{b:Builtin}(hb:entryFor table id=some b):denote table (.builtin id args)=b args:=by
 show(match entryFor table id with|some b=>b args|none=>unsupported ((withoutEnding? id "#data").getD id))=_
 rw[hb]
theorem rO(I:Addr):denote table (ci I)=(do
 match ←(y8 (.ref I)).attempt with
 |.error e=>kM e
 |.ok y=>kR (.ref I) y):=(AT CP).trans (Du _)
section
variable {X:Cx} {k:Nat} {σ:St} {M:Mach X k σ} {N:Addr} {env:Env} {m:Mp} {l:List AV} {Q:AFl→Mp→List AV→Prop}
theorem Mach.bind0{α:Type}{A:Around}{l:List AV}{own₀:Pv}{g₀:View}{s₀:Shared}{c:Code}{fs:List Frame}{s:Shared}{t:Sem α}{f:α→Sem Fin}
  (h:wpAny (model P0 X.w) (A.over c fs) t (λa s'=>M.Z A l own₀ g₀ s₀ c (f a) fs s') ai s):M.Z A l own₀ g₀ s₀ c (t>>= f) fs s:=by
 rw[el]
 exact M.wrap h
theorem yE{A:Around}{e:Value}{s:Shared}{Q:Bool→Shared→Prop}(h:vA e s)(hQ:Q true s):wpAny (model P0 X.w) A (Builtin.Generator.endsTheTurnAsAValue false e) Q ai s:=by
 obtain⟨x,ob,vs,rfl,ho,hc,hd,h5⟩:=h
 have hT:s.TypeIs (.ref x) "StopIteration":=⟨ob,ho,hc⟩
 unfold Builtin.Generator.endsTheTurnAsAValue Builtin.Generator.isStopAndMetaclass
 refine ac (ac (wpAny_typeOf hT ?_))
 refine ac (bw uz ?_)
 refine ac (bw (a:=Value.type "type") (by rfl) ?_)
 exact ao (ao hQ)
theorem CK:typeLookup (.type "tuple_iterator") "close"=pure none:=by rw[ur,t7];kernel_rfl
theorem xU{A:Around}{I:Addr}{o:Obj}{n:String}{b:Bool}{s:Shared}{Q:Unit→Shared→Prop}(ho:s.heap.get? I=some o)(hc:o.cls=.type n)(hn:n≠"generator")(hQ:Q () s):wpAny (model P0 X.w) A (Builtin.Generator.sleptOver (.ref I) b) Q ai s:=by
 unfold Builtin.Generator.sleptOver
 refine ac (ja ho ?_)
 have:(o.cls !=.type "generator")=true:=by rw[hc];simpa using hn
 rw[ah this]
 exact ao hQ
theorem DU{a I:Addr}{vs:List Value}{L:List AV}{c:Code}{fs:List Frame}{jo:Pv}{J:View→Shared→Prop}{kk:Result→Sem Fin}{lv:List Value}{p:Pos}
  (hc:GC k c fs)(hJ:eC X σ jo J)(hq:(ci I).quiet=true)
  (hkk:∀A m l own₀ g₀ s₀ own g s,Room A (k+1)→YS X σ N env jo J m own₀ g₀ s₀ own g s→Q .next m l→M.Z A l own₀ g₀ s₀ c (kk (.ok (.ret .none))) fs s):
  ∀(R:List AV) A (m:Mp) own₀ g₀ s₀ own g s i,Room A (k+1)→YS X σ N env jo J m own₀ g₀ s₀ own g s→(a9 I).Le s₀ own₀→(a9 I).Apart own→Free X g σ I→SeqAt g "tuple" a vs→RepL g L vs→s.heap.IsTupleIter I a i→L.drop i=R→Q .next m l→
   M.Z A (R++l) own₀ g₀ s₀ (ci I) (denote table (ci I)) (.ret kk none false lv c p []::fs) s:=by
 have room:∀{A:Around},Room A (k+1)→(A.over (ci I) (.ret kk none false lv c p []::fs)).handled=none∧True:=λ{A} hA=>⟨(nN A c (ci I) fs kk false lv p []).1.trans ((hc.hnd A).trans hA.handled),trivial⟩
 intro R
 induction R with
 |nil=>
  intro A m own₀ g₀ s₀ own g s i hA Y hle hap hf h1 h2 hit hd hQ
  rw[rO]
  have hn:vs[i]?=none:=by have:=kA hd;rw[iO] at this ⊢;rw[h2.length];exact this
  refine Mach.bind0 (nu (bT (ac (c5 (ac (zP (room hA).1 hit (ii h1 Y.go.sat.in_) (by simpa using hn) λe h' he hx=>?_))))))
  have G:Go X (a9 I) g σ s g σ {s with heap:=h'}:=Go.extBut Y.go.sat hf hx rfl
  have Y':=Y.inner hJ G hap hle
  obtain⟨x,ob,ws,rfl,ho,hc',hd',h5⟩:=id he
  show M.Z A l own₀ g₀ s₀ (ci I) (kM (.ref x)) _ _
  unfold kM
  refine Mach.bind0 (yE he ?_)
  rw[ah rfl]
  refine Mach.bind0 (c5 (Mach.bind0 (bM ho hd' h5 ?_)))
  exact M.leaf (.ret .none) (hkk A m l own₀ g₀ s₀ own g _ hA Y' hQ)
 |cons V R ih=>
  intro A m own₀ g₀ s₀ own g s i hA Y hle hap hf h1 h2 hit hd hQ
  obtain⟨e1,e2⟩:=jc hd
  obtain⟨v,hv,rv⟩:=h2.get e1
  rw[rO]
  refine Mach.bind0 (nu (bT (ac (c5 (ac (zK hit (ii h1 Y.go.sat.in_) (by simpa using hv) λh' hi hs=>?_))))))
  have G:Go X (a9 I) g σ s g σ {s with heap:=h'}:=Go.sameBut Y.go.sat hs hf rfl
  have Y':=Y.inner hJ G hap hle
  obtain⟨o,ho,hc',hd'⟩:=id hi
  refine ao ?_
  show M.Z A _ own₀ g₀ s₀ (ci I) (kR (.ref I) v) _ _
  unfold kR
  refine Mach.bind0 (wpAny_typeOf (show Shared.TypeIs {s with heap:=h'} (.ref I) "tuple_iterator" from⟨o,ho,hc'⟩) ?_)
  refine Mach.bind0 (bw CK ?_)
  refine Mach.bind0 (ao ?_)
  refine Mach.bind0 (xU ho hc' (by decide) ?_)
  have hsup:(own.sup (a9 I)).Le s₀ own₀:=⟨λa o e h=>by rcases h with h|h;exact Y'.le.1 a o e h;exact hle.1 a o e h,λi hi h=>by rcases h with h|h;exact Y'.le.2 i hi h;exact hle.2 i hi h⟩
  have hsx:(own.sup (a9 I)).Ex {s with heap:=h'}:=⟨λa h=>by rcases h with h|h;exact Y'.ex.1 a h;exact⟨o,by rw[show a=I from h];exact ho⟩,λi h=>by rcases h with h|h;exact Y'.ex.2 i h;exact h.elim⟩
  refine M.yld (c:=ci I) (gf:=false) (own:=own.sup (a9 I)) (g:=g) ?_ ?_ (M.ok0 _ _) Y'.go hsup hsx rv λP g'' s'' G'' hap'' A' hA'=>?_
  ·show(splitAtGen fs).map _=none
   rw[hc.split];rfl
  ·show(false||fs.any Frame.guarded)=false
   rw[hc.guard];rfl
  have hI:¬P.a I:=hap''.1 I (.inr rfl)
  have hown:own.Apart P:=⟨λa h=>hap''.1 a (.inl h),λi h=>hap''.2 i (.inl h)⟩
  have ho'':s''.heap.get? I=some o:=by
   rcases G''.run.keep I o ho hf.2.1 hf.2.2 hI with q|⟨q,_⟩
   ·exact q
   ·obtain⟨_,_,q⟩:=q;rw[hd'] at q;cases q
  refine Mach.bind0 (ao (Mach.bind0 (xU ho'' hc' (by decide) ?_)))
  refine M.again hq ?_
  exact ih A' m _ g'' s'' own g'' s'' (i+1) hA' (Y'.woken' hJ G'' hown Pv.le_left) Pv.le_right ⟨λa h1 h2=>hap.1 a h1 h2,λi h1 h2=>hap.2 i h1 h2⟩ (hf.go G'' ho hI) (h1.le G''.le) (h2.le G''.le) ⟨o,ho'',hc',hd'⟩ e2 hQ
theorem qy{e:Expr}{ypos pos:Pos}{R:List AV}(h:∀A',Room A' k→Ev X A' ai env m e σ λW σ'=>σ'=σ∧W=.tup R∧Q .next m l)(hi:interactive env=false:=by rfl):
  mH M N env m (.Expr (.YieldFrom e ypos) pos) (R++l) Q:=λc fs jo J hc hJ A K H gd lv own₀ g₀ s₀ own g s hA hgd Y hK=>by
 rw[exec_Expr env _ pos hi rfl]
 refine Mach.bind (bL ?_)
 rw[arm_eval_YieldFrom,el,el,eP,eP]
 refine M.wrap (aj (h _ (hc.room hA) g s Y.go.sat Y.frm) (λv s' ⟨g',W,σ',G,r,e1,e2,q⟩=>?_) i2)
 subst e1 e2
 have Y':=Y.step hJ G.any (Y.frm.go G)
 unfold Rep at r
 obtain⟨a,vs,rfl,hq,rl⟩:=r
 refine M.wrap (m:=standAt ypos) (H:=.raise) (gd:=id) (lv:=id) (bL ?_)
 refine Mach.bind (t:=typeOf (.ref a)) (wpAny_typeOf (ii hq G.sat.in_).typeIs ?_)
 dsimp only
 rw[ae (by decide)]
 refine Mach.bind (t:=holding [.ref a] (pyIter (.ref a))) (bT (wpAny_pyIter_tuple (ii hq G.sat.in_) ?_))
 refine M.call λp=>?_
 show M.Z _ _ _ _ _ (ci s'.heap.objs.size) (denote table (ci s'.heap.objs.size)) (.ret _ none (gd false) (lv []) c p []::fs) _
 rw[hgd]
 have Gk:Go X (ax N env) g' σ' s' g' σ' {s' with heap:=s'.heap.push {cls:=.type "tuple_iterator",data:=.fields #[.ref a,.int 0 0]}}:=Go.keeps G.sat λb o e=>aJ _ e
 have Gk':Go X am g' σ' s' g' σ' {s' with heap:=s'.heap.push {cls:=.type "tuple_iterator",data:=.fields #[.ref a,.int 0 0]}}:=Go.keeps G.sat λb o e=>aJ _ e
 have Y'':=Y'.step hJ Gk (Y'.frm.go Gk')
 have hnew:∀o,s'.heap.get? s'.heap.objs.size=some o→False:=λo e=>bt _ (aY e)
 refine DU (I:=s'.heap.objs.size) (a:=a) (vs:=vs) (L:=R) hc hJ (Code.quiet_builtin _ (by decide+kernel)) (λA' m' l' own₀' g₀' s₀' own' g'' s'' hA' Yy q'=>?_) R A m own₀ g₀ s₀ own g' _ 0 hA Y'' ⟨λb o e hb=>?_,λ_ _ h=>h.elim⟩ ⟨λb h1 h2=>?_,λ_ h=>h.elim⟩ (bC G.sat (aG _)) hq rl ⟨_,aX _ rfl,rfl,rfl⟩ rfl q
 ·exact hK A' .next .next m' l' own₀' g₀' s₀' own' g'' s'' hA' Yy rfl q'
 ·have hb':b=s'.heap.objs.size:=hb
  by_cases hp:own₀.a b
  ·exact hp
  ·obtain⟨o',e'⟩:=Y'.go.dom e hp;rw[hb'] at e';exact(hnew _ e').elim
 ·have hb':b=s'.heap.objs.size:=h1
  obtain⟨o,e⟩:=Y'.ex.1 b h2
  rw[hb'] at e;exact hnew _ e
end
theorem yJ:GC k (.func body env) []:=by
 refine⟨rfl,rfl,λA=>rfl,λA=>?_,λA=>?_⟩
 ·show A.depth+frameCount []+(Code.func body env).weight≤A.depth+1
  have:(Code.func body env).weight=1:=by rfl
  rw[this];simp[frameCount]
 ·show A.units+unitsOf []+(Code.func body env).cUnits≤A.units+3
  have:(Code.func body env).cUnits=3:=by rfl
  rw[this];simp[unitsOf]
theorem Bw{X:Cx}{k:Nat}{σ:St}{M:Mach X k σ}{N:Addr}{env:Env}{m:Mp}{body:List Stmt}{l:List AV}(h:fJ M N env m body l λF _ l'=>l'=[]∧(F=.next∨F=.ret .none))
  {A:Around}{own₀:Pv}{g₀:View}{s₀:Shared}{own:Pv}{g:View}{s:Shared}(hA:Room A (k+1))(Y:YS X σ N env ⟨λ_=>False,λ_=>False⟩ (λ_ _=>True) m own₀ g₀ s₀ own g s):
  M.Z A l own₀ g₀ s₀ (.func body env) (denote table (.func body env)) [] s:=by
 have hJ:eC X σ ⟨λ_=>False,λ_=>False⟩ (λ_ _=>True):=λ_ _ _=>trivial
 show M.Z A l own₀ g₀ s₀ (.func body env) (point>>= λ_=>(execs body env).onRaise (leaving env)>>= λf=>match f with|.ret v=>ret v|_=>ret .none) [] s
 refine Mach.bind0 (qI ?_)
 rw[el,iQ,eP]
 refine h _ _ _ _ yJ hJ A _ _ _ _ own₀ g₀ s₀ own g s hA rfl Y λA' f F m' l' own₀' g₀' s₀' own' g' s' hA' Y' rf ⟨e,q⟩=>?_
 subst e
 rcases q with rfl|rfl
 ·cases rf;exact M.fin Y'.go (.inr rfl)
 ·obtain⟨v,rfl,r⟩:=rf
  unfold Rep at r;subst r
  exact M.fin Y'.go (.inr rfl)
theorem Frm.heapEq(F:Frm X env m g σ s)(h:s'.heap=s.heap):Frm X env m g σ s':=
 ⟨F.kind,F.free,by rw[h];exact F.ns,by rw[h];exact F.cells,F.var,F.inj,by rw[h];exact F.csz,F.own⟩
theorem Go.keepsG(S:Sat X g σ s)(k:∀b o,s.heap.get? b=some o→s'.heap.get? b=some o)(hos:s'.os=s.os)(hg:s'.gens=s.gens.push x)(hx:x.bare=true):Go X P g σ s g σ s':=by
 refine⟨S.keeps k,.refl g,λ_ _ _ _=>rfl,λ_ _ _ _=>eD,hos,λa o e _=>⟨o,k a o e⟩,λa o e _ _ _=>.inl (k a o e),λp _ o vs e hd=>⟨#[],by rw[k _ _ e];congr 1;obtain⟨c,d,dt,sl⟩:=o;subst hd;simp⟩,by rw[hg,j9];exact eS _,λi y e _=>?_,λi y e=>?_⟩
 ·rw[hg,Array.getElem?_push,ae];exact e
  intro q;rw[q,wB (aG _)] at e;cases e
 ·rw[hg,Array.getElem?_push] at e
  split at e
  ·cases e;exact .inr (.inl hx)
  ·exact .inl e
def kI(X:Cx)(k:Nat)(f:AV)(args:List AV)(σ:St)(l:List AV):Prop:=
 ∀A g s fv vs,Room A (k+2)→Sat X g σ s→Rep g f fv→RepL g args vs→codeAny (model P0 X.w) A (.call fv ⟨vs,[]⟩) (λr s'=>∃a gi g' own,r=.ok (.ret (.ref a))∧Go X am g σ s g' σ s'∧own.Le s am∧eI X k σ a gi own l g' σ s') s
theorem nV(F:FnAt X a fd body)(xs:List Str)
  (hbind:∀g s vs,Sat X g σ s→RepL g args vs→∃vs',RepL g args' vs'∧BindsTo s fd ⟨vs,[]⟩ (xs.zip vs'))
  (hx:xs.all (λx=>fd.scope.names.lookup x==some .local||fd.scope.names.lookup x==some .cell)=true)
  (h:∀L,fJ (vK X k σ) L (callEnvC fd L a) (cF xs args' Mp.nil) body l λF _ l'=>l'=[]∧(F=.next∨F=.ret .none))
  (hclo:fd.closure=[]:=by rfl)(hco:fd.scope.isCoroutine=false:=by rfl)(hgen:fd.scope.isGenerator=true:=by rfl)(hk:fd.scope.kind=.function:=by rfl):
  kI X k (.ref a) args σ l:=λA g s fv vs hA S hf r=>by
 unfold Rep at hf
 subst hf
 obtain⟨o,ho,hd⟩:=F.obj S
 obtain⟨vs',r',hb⟩:=hbind g s vs S r
 refine codeAny_call_generator (by have:=hA.depth;omega) ho hd hco hgen F.body (F.cdRec S) (hb _ _ _ _ ?_)
 rw[hclo]
 refine jY hk (λy hy=>?_) λenv he s' x=>?_
 ·have hm:y.1∈xs:=(mV hy).1
  have:=gq.mp hx y.1 hm
  rw[iS,bd,bd] at this
  rcases this with q|q
  ·exact .inl q
  ·exact .inr ⟨q,let ⟨c,hc⟩:=gx fd.scope.names (s.heap.objs.size+1) [] q;by rw[hc];rfl⟩
 ·have he':env=callEnvC fd s.heap.objs.size a:=he
  subst he'
  have Fr:=iY (a:=a) S r' hk hx x
  have G:=jf S x (P:=am)
  refine⟨(F.noLimit S).keeps x.toInCall.keep,s'.heap.objs.size,s'.gens.size,g,(ax s.heap.objs.size (callEnvC fd s.heap.objs.size a)).gen s'.heap.objs.size s'.gens.size,rfl,?_⟩
  generalize hob:({cls:=.type "generator",data:=.fields #[.int s'.gens.size 0,.str fd.name s'.toks,.str fd.qualname (s'.toks+1)]}:Obj)=ob
  have kp:∀b o,s'.heap.get? b=some o→(s'.heap.push ob).get? b=some o:=λb o e=>aJ _ e
  have G₂:∀{P:Pv},Go X P g σ s' g σ {s' with gens:=s'.gens.push (.fresh (.func body (callEnvC fd s.heap.objs.size a))),toks:=s'.toks+1+1,heap:=s'.heap.push ob}:=Go.keepsG G.sat kp rfl rfl rfl
  have hgen_:∀b o,s.heap.get? b=some o→b<s.heap.objs.size:=λb o e=>aY e
  have hle:(ax s.heap.objs.size (callEnvC fd s.heap.objs.size a)).Le s am:=io (aG _)
  have hsz:∀o,s.heap.get? s'.heap.objs.size=some o→False:=λo e=>by
   obtain⟨o',e'⟩:=G.dom e id;exact bt _ (aY e')
  refine⟨G.trans G₂,⟨λb o e h=>?_,λi hi h=>?_⟩,rfl,⟨ob,.str fd.name s'.toks,.str fd.qualname (s'.toks+1),aX _ (by rw[←hob];rfl),by rw[←hob],by rw[←hob],by rw[←hob]⟩,bC G.sat (aG _),_,rfl,λh=>?_,id,⟨λb h=>?_,λ_ h=>h.elim⟩,?_,?_⟩
  ·rcases h with h|rfl
   ·exact hle.1 b o e h
   ·exact hsz o e
  ·rcases h with h|rfl
   ·exact h.elim
   ·exact bt _ (bu hi G.run.gsize)
  ·obtain⟨o',e'⟩:=iq Fr _ h
   exact bt _ (aY e')
  ·obtain⟨o',e'⟩:=iq Fr _ h
   exact⟨o',kp _ _ e'⟩
  ·show s'.gens.size<(s'.gens.push _).size
   rw[j9];exact g7 _
  ·refine⟨.fresh (.func body (callEnvC fd s.heap.objs.size a)),.func body (callEnvC fd s.heap.objs.size a),_,_,by show(s'.gens.push _)[s'.gens.size]?=_;simp,rfl,.inl ⟨rfl,rfl,rfl⟩,λP g'' s'' G'' hap hpn A' hA'=>?_⟩
   have hpL:¬P.a (callEnvC fd s.heap.objs.size a).locals:=hap.1 _ ⟨aG _,.inl rfl⟩
   have hpC:∀x c,(callEnvC fd s.heap.objs.size a).cells.lookup x=some c→¬P.a c:=λy c hc=>hap.1 c ⟨eR (x.above y c (mem_of_lookup hc)),.inr ⟨y,hc⟩⟩
   have F₂:=(Fr.go G₂).goP G'' hpL hpC
   have Gr:Go X (ax s.heap.objs.size (callEnvC fd s.heap.objs.size a)) g'' σ (s''.setGen s'.gens.size .running) g'' σ (s''.setGen s'.gens.size .running):=.refl (G''.sat.heap rfl)
   have F₃:Frm X (callEnvC fd s.heap.objs.size a) (cF xs args' Mp.nil) g'' σ (s''.setGen s'.gens.size .running):=F₂.heapEq rfl
   exact Bw (M:=vK X k σ) (h s.heap.objs.size) hA' ⟨Gr,Pv.Le.refl _ _,⟨λb h=>iq F₃ b h,λ_ h=>h.elim⟩,F₃,⟨aG _,.inl rfl⟩,λy c hc=>⟨eR (x.above y c (mem_of_lookup hc)),.inr ⟨y,hc⟩⟩,⟨λ_ h=>h.elim,λ_ h=>h.elim⟩,⟨λ_ h=>h.elim,λ_ h=>h.elim⟩,⟨λ_ h=>h.elim,λ_ h=>h.elim⟩,trivial⟩
theorem Room.in1{A:Around}{k:Nat}(h:Room A (k+1)):Room A.in1 k:=⟨h.handled,by have:=h.depth;show A.depth+_<_;omega,by have:=h.units;show A.units+1+_<_;omega⟩
section
variable {X:Cx} {k:Nat} {σ:St}
theorem AM{tgt:Option Expr}{it:Addr}{Dep:St→St→Prop}{It:f5}{S:Addr}{res:Value}{Pb:Pv}{g₀:View}{σ₀:St}{s₀:Shared}(I:Itr X k none (.ref it) Dep It)(hS:Pb.a S):
  ∀(l:List AV) A own out g s,Room A (k+1)→Go X Pb g₀ σ₀ s₀ g σ s→own.Le s₀ Pb→¬own.a S→It own l g σ s→Dst X S out g σ s→out.length+l.length≤65536→
   codeAny (model P0 X.w) A (.builtin "list.extend.loop" ⟨[.ref S,.ref it,res],[]⟩) (λr s'=>r=.ok (.ret res)∧∃g',Go X Pb g₀ σ₀ s₀ g' σ s'∧Dst X S (out++l) g' σ s') s:=by
 intro l
 induction l with
 |nil=>
  intro A own out g s hA G ho hoS hit hd hz
  refine g9 ub ?_
  rw[gY iR _]
  show wpAny _ A.in1 (pyNext (.ref it)>>= _) _ _ s
  refine ac (aj (I.stop hA.in1 G.sat hit) (λr s₁ ⟨hr,g',G'⟩=>?_) λ_ _ x=>x.elim)
  subst hr
  exact ao ⟨rfl,g',G.comp G' ho,by rw[ey];exact hd.go G' hoS⟩
 |cons V l ih=>
  intro A own out g s hA G ho hoS hit hd hz
  refine g9 ub ?_
  rw[gY iR _]
  show wpAny _ A.in1 (pyNext (.ref it)>>= _) _ _ s
  refine ac (aj (I.next hA.in1 G.sat hit) (λr s₁ ⟨v,hr,h₁⟩=>?_) λ_ _ x=>x.elim)
  subst hr
  show wpAny _ A.in1 (nJ none (.ref it) v>>= λ_=>updateSeq S (·.push v)>>= _) _ _ s₁
  refine ac (aj h₁ (λ_ s₂ ⟨g₂,own',hl',G',rv,hit'⟩=>?_) λ_ _ x=>x.elim)
  have ho':own'.Le s₀ Pb:=hl'.back' G.run ho
  have hoS':¬own'.a S:=λq=>let ⟨o,e⟩:=hd.at;hoS (hl'.1 S o e q)
  obtain⟨hf,ys,⟨oS,hoS₂,hcS,n,hdS⟩,ry⟩:=hd.go G' hoS
  have hlen:ys.length=out.length:=ry.length
  refine ac (iU hoS₂ hdS (ao ⟨fy iR _,?_⟩) (by rw[bn,cA,hlen];simp at hz;omega) (by show(ys.toArray.push v).size≤sizeLine+1;rw[bn,j9,cA,hlen];simp at hz;omega))
  obtain⟨n',hdS'⟩:=mX hdS (·.push v)
  have hself:=fk (Obj.mapSeq (·.push v)) hoS₂ (mQ hdS')
  have G₂:Go X Pb g₂ σ s₂ g₂ σ {s₂ with heap:=s₂.heap.update S (Obj.mapSeq (·.push v))}:=Go.sameBut G'.sat (dD ..) hf hS
  have G₂':Go X (a9 S) g₂ σ s₂ g₂ σ {s₂ with heap:=s₂.heap.update S (Obj.mapSeq (·.push v))}:=Go.sameBut G'.sat (dD ..) hf rfl
  have hap:own'.Apart (a9 S):=⟨λb h1 h2=>hoS' (by rw[←show b=S from h2];exact h1),λ_ _ h=>h.elim⟩
  have hd₂:Dst X S (out++[V]) g₂ σ {s₂ with heap:=s₂.heap.update S (Obj.mapSeq (·.push v))}:=⟨hf,ys++[v],⟨_,hself,(nb ..).trans hcS,n',by rw[hdS'];simp⟩,ry.append (.cons rv .nil)⟩
  refine cI (ih A own' (out++[V]) g₂ _ hA ((G.comp G' ho).trans G₂) ho' hoS' (I.keep hit' G₂' hap (I.dep _)) hd₂ (by simp at hz ⊢;omega)) λr s' ⟨h1,g',h2,h3⟩=>⟨h1,g',h2,by simpa using h3⟩
theorem wX{x:Value}{T:String}{S:Addr}{res:Value}{Pb:Pv}{g₀:View}{σ₀:St}{s₀:Shared}{g:View}{s:Shared}{A:Around}{l:List AV}(hA:Room A (k+1))(hS:Pb.a S)(G:Go X Pb g₀ σ₀ s₀ g σ s)(hd:Dst X S [] g σ s)
  (hT:s.TypeIs x T)(hsame:Builtin.List.listSameRef (.ref S) x=false)(h2:(Value.type T==Value.type "list")=false)(h3:(Value.type T==Value.type "tuple")=false)(hz:l.length≤65536)
  (hit:∀{Q:Value→Shared→Prop},(∀it Dep It own s',Go X am g σ s g σ s'→s'.TypeIs x T→own.Le s₀ Pb→¬own.a S→Itr X k none (.ref it) Dep It→It own l g σ s'→Q (.ref it) s')→wpAny (model P0 X.w) A.in1 (pyIter x) Q ai s)
  (hint:∀{s':Shared} {Q:Bool→Shared→Prop},s'.TypeIs x T→(∀b tk,Q b {s' with toks:=tk})→wpAny (model P0 X.w) A.in1 (Builtin.List.listLengthHint x) Q ai s'):
  wpAny (model P0 X.w) A.in1 (Builtin.List.listExtendWith (.ref S) x res) (λfin s'=>match fin with
   |.done f=>(Except.ok f:Result)=.ok (.ret res)∧∃g',Go X Pb g₀ σ₀ s₀ g' σ s'∧Dst X S l g' σ s'
   |.again c'=>c'.quiet=true∧codeAny (model P0 X.w) A c' (λr s'=>r=.ok (.ret res)∧∃g',Go X Pb g₀ σ₀ s₀ g' σ s'∧Dst X S l g' σ s') s') ai s:=by
 unfold Builtin.List.listExtendWith
 refine ac (wpAny_typeOf hT ?_)
 simp only[hsame,h2,h3,Bool.or_false,eM,dr]
 refine ac (hit λit Dep It own s₁ G₁ hT₁ ho hoS I hi=>?_)
 have hd₁:=hd.go G₁ id
 refine ac (bT (hint hT₁ λb tk=>?_))
 have Gt:Go X am g σ s₁ g σ {s₁ with toks:=tk}:=Go.keeps G₁.sat λ_ _ e=>e
 have hi':=I.keep hi Gt Pv.Apart.noP (I.dep σ)
 have hd₂:=hd₁.go Gt id
 have G₂:=(G.trans G₁.any).trans Gt.any
 have loop:∀s₃,Go X (a9 S) g σ {s₁ with toks:=tk} g σ s₃→Dst X S [] g σ s₃→wpAny (model P0 X.w) A.in1 (again (.builtin "list.extend.loop" ⟨[.ref S,.ref it,res],[]⟩)) (λfin s'=>match fin with
   |.done f=>(Except.ok f:Result)=.ok (.ret res)∧∃g',Go X Pb g₀ σ₀ s₀ g' σ s'∧Dst X S l g' σ s'
   |.again c'=>c'.quiet=true∧codeAny (model P0 X.w) A c' (λr s'=>r=.ok (.ret res)∧∃g',Go X Pb g₀ σ₀ s₀ g' σ s'∧Dst X S l g' σ s') s') ai s₃:=λs₃ G₃ hd₃=>by
  have hap:own.Apart (a9 S):=⟨λb h1 h2=>hoS (by rw[←show b=S from h2];exact h1),λ_ _ h=>h.elim⟩
  have hSP:(a9 S).Le s₀ Pb:=⟨λb o e h=>by rw[show b=S from h];exact hS,λ_ _ h=>h.elim⟩
  refine ao ⟨fy iR _,cI (AM (tgt:=none) I hS l A own [] g s₃ hA (G₂.comp G₃ hSP) ho hoS (I.keep hi' G₃ hap (I.dep σ)) hd₃ (by simpa using hz)) λr s' ⟨h1,g',h2,h3⟩=>⟨h1,g',h2,by simpa using h3⟩⟩
 split
 ·refine ac (c5 (ac ?_))
  show wpAny _ A.in1 (updateSeq S (·.push .none)>>= λ_=>updateSeq S (·.pop)) _ _ _
  obtain⟨hfr,ys,⟨o,ho,hc,n,hdt⟩,r⟩:=id hd₂
  have e0:ys=[]:=by unfold RepL at r;exact r
  subst e0
  refine ac (iU ho hdt ?_)
  obtain⟨n',hd'⟩:=mX hdt (·.push Value.none)
  have hs₁:=fk (Obj.mapSeq (·.push Value.none)) ho (mQ hd')
  refine iU hs₁ hd' ?_
  obtain⟨n'',hd''⟩:=mX hd' (·.pop)
  have hs₂:=fk (Obj.mapSeq (·.pop)) hs₁ (mQ hd'')
  have Ga:Go X (a9 S) g σ {s₁ with toks:=tk} g σ {s₁ with toks:=tk,heap:=s₁.heap.update S (Obj.mapSeq (·.push Value.none))}:=Go.sameBut Gt.sat (dD ..) hfr rfl
  have Gb:Go X (a9 S) g σ {s₁ with toks:=tk,heap:=s₁.heap.update S (Obj.mapSeq (·.push Value.none))} g σ {s₁ with toks:=tk,heap:=(s₁.heap.update S (Obj.mapSeq (·.push Value.none))).update S (Obj.mapSeq (·.pop))}:=Go.sameBut Ga.sat (dD ..) hfr rfl
  exact loop _ (Ga.trans Gb) ⟨hfr,[],⟨_,hs₂,(nb ..).trans ((nb ..).trans hc),n'',by rw[hd''];rfl⟩,.nil⟩
 ·exact loop _ (.refl Gt.sat) hd₂
end
section
variable {X:Cx} {k:Nat} {σ:St}
theorem yA{A:Around}{a:Addr}{s':Shared}{Q:Bool→Shared→Prop}(hT:s'.TypeIs (.ref a) "generator")(h:∀b tk,Q b {s' with toks:=tk}):wpAny (model P0 X.w) A (Builtin.List.listLengthHint (.ref a)) Q ai s':=by
 unfold Builtin.List.listLengthHint
 refine ac (j8 hT F.gen_no_len ?_)
 show wpAny _ A (specialOf (Value.ref a) (Str.ofString "__length_hint__")>>= _) _ _ _
 refine ac (j8 hT F.gen_no_hint ?_)
 exact ao (h _ s'.toks)
theorem yw{a:Addr}{gi:Nat}{own:Pv}{l:List AV}{g:View}{s₀ s:Shared}{g₀:View}{S:Addr}{res:Value}{A:Around}(hlim:∀h:Heap,X.B.In h→h.NoLimit)(hA:Room A (k+3))(G:Go X am g₀ σ s₀ g σ s)(hS₀:∀o,s₀.heap.get? S=some o→False)(hd:Dst X S [] g σ s)
  (hgen:eI X k σ a gi own l g σ s)(ho:own.Le s₀ am)(hoS:¬own.a S)(hz:l.length≤65536):
  wpAny (model P0 X.w) A.in1 (Builtin.List.listExtendWith (.ref S) (.ref a) res) (λfin s'=>match fin with
   |.done f=>(Except.ok f:Result)=.ok (.ret res)∧∃g',Go X am g₀ σ s₀ g' σ s'∧Dst X S l g' σ s'
   |.again c'=>c'.quiet=true∧codeAny (model P0 X.w) A c' (λr s'=>r=.ok (.ret res)∧∃g',Go X am g₀ σ s₀ g' σ s'∧Dst X S l g' σ s') s') ai s:=by
 have drop:∀{g':View} {s':Shared},Go X (a9 S) g₀ σ s₀ g' σ s'→Go X am g₀ σ s₀ g' σ s':=λG=>G.weaken ⟨λb o e h=>hS₀ o (by rw[←show b=S from h];exact e),λ_ _ h=>h⟩
 have I:Itr X (k+2) none (.ref a) (λσ σ'=>σ'=σ) (eI X k σ a gi):=n9 hlim
 have hoP:own.Le s₀ (a9 S):=⟨λb o e h=>(ho.1 b o e h).elim,λi hi h=>(ho.2 i hi h).elim⟩
 have hSa:S≠a:=λe=>by
  obtain⟨_,hG,_,ob,hoo,_⟩:=hgen
  exact hoS (by rw[hoo,e];exact .inr rfl)
 refine aj (wX (k:=k+2) (Pb:=a9 S) (T:="generator") hA rfl G.any hd hgen.2.1.typeIs (by simp[Builtin.List.listSameRef,hSa]) (by decide) (by decide) hz (λ{Q} h=>?_) (λ{s' Q} hT h=>yA hT h)) (λfin s' h=>?_) i2
 ·exact um hgen.2.1 (h a _ _ own s (.refl G.sat) hgen.2.1.typeIs hoP hoS I hgen)
 ·cases fin with
  |done f=>obtain⟨h1,g',h2,h3⟩:=h;exact⟨h1,g',drop h2,h3⟩
  |again c'=>exact⟨h.1,cI h.2 λr s'' ⟨h1,g',h2,h3⟩=>⟨h1,g',drop h2,h3⟩⟩
theorem AI{a:Addr}{gi:Nat}{own:Pv}{l:List AV}{g₀ g:View}{s₀ s:Shared}{A:Around}(hlim:∀h:Heap,X.B.In h→h.NoLimit)(hA:Room A (k+4))(G:Go X am g₀ σ s₀ g σ s)(hgen:eI X k σ a gi own l g σ s)(ho:own.Le s₀ am)(hz:l.length≤65536):
  wpAny (model P0 X.w) A (collect (.ref a)) (λvs s'=>∃g',Go X am g₀ σ s₀ g' σ s'∧RepL g' l vs) ai s:=by
 unfold collect
 refine ac (wpAny_runValue (g9 F.entry_proto_collect ?_))
 rw[gY F.plain_proto_collect _]
 show wpAny _ A.in1 (newList []>>= λl=>again (.builtin "list.__iadd__" ⟨[l,.ref a],[]⟩)) _ _ s
 refine ac (di ?_ (by size_fits))
 refine ao ⟨fy ue _,g9 F.entry_list_iadd ?_⟩
 rw[gY ue _]
 have Gk:Go X am g σ s g σ {s with heap:=s.heap.push {cls:=.type "list",data:=.seq ([]:List Value).toArray}}:=Go.keeps G.sat λb o e=>aJ _ e
 have I:Itr X (k+2) none (.ref a) (λσ σ'=>σ'=σ) (eI X k σ a gi):=n9 hlim
 have hgen':=I.keep hgen Gk Pv.Apart.noP rfl
 have hS:∀o,s.heap.get? s.heap.objs.size=some o→False:=λo e=>bt _ (aY e)
 have hS₀:∀o,s₀.heap.get? s.heap.objs.size=some o→False:=λo e=>let ⟨o',e'⟩:=G.dom e id;hS o' e'
 have hoS:¬own.a s.heap.objs.size:=λq=>let ⟨o,e⟩:=(I.ex hgen).1 _ q;hS o e
 have hd:Dst X s.heap.objs.size [] g σ {s with heap:=s.heap.push {cls:=.type "list",data:=.seq ([]:List Value).toArray}}:=⟨bC G.sat (aG _),[],⟨_,aX _ rfl,rfl,0,rfl⟩,.nil⟩
 show wpAny _ A.in1 (Builtin.List.listExtendWith (.ref s.heap.objs.size) (.ref a) (.ref s.heap.objs.size)) _ _ _
 refine aj (yw hlim (hA.mono (eS _)) (G.trans Gk) hS₀ hd hgen' ho hoS hz) (λfin s' h=>?_) λ_ _ x=>x.elim
 have fin_:∀{s':Shared},(∃g',Go X am g₀ σ s₀ g' σ s'∧Dst X s.heap.objs.size l g' σ s')→wpAny (model P0 X.w) A (do match (←load s.heap.objs.size).data with
   |.seq xs _=>pure xs.toList
   |_=>unsupported "internal:collect") (λvs s'=>∃g',Go X am g₀ σ s₀ g' σ s'∧RepL g' l vs) ai s':=λ{s'} ⟨g',h1,hf,ys,⟨o,ho,hc,n,hdt⟩,r⟩=>by
  refine ac (ja ho ?_)
  rw[hdt]
  exact ao ⟨g',h1,by simpa using r⟩
 cases fin with
 |done f=>obtain⟨h1,h2⟩:=h;cases h1;exact fin_ h2
 |again c'=>exact⟨h.1,cI h.2 λr s'' ⟨h1,h2⟩=>by subst h1;exact fin_ h2⟩
theorem Aa{a:Addr}{gi:Nat}{own:Pv}{l:List AV}{g₀ g:View}{s₀ s:Shared}{A:Around}{Q:AV→St→Prop}(hlim:∀h:Heap,X.B.In h→h.NoLimit)(hA:Room A (k+6))(G:Go X am g₀ σ s₀ g σ s)(hgen:eI X k σ a gi own l g σ s)(ho:own.Le s₀ am)(hz:l.length≤65536)(h:Q (.tup l) σ):
  wpAny (model P0 X.w) A (call (.type "tuple") [.ref a]) (Post X am g₀ σ s₀ Q) ai s:=by
 refine callType_codes (Q₁:=λobj s₁=>s₁.TypeIs obj "tuple"∧Post X am g₀ σ s₀ Q obj s₁) ng (F.typeCall_tuple_1 _) wS ?_ λobj s₁ h₁=>?_
 ·refine codeAny_of_tree ?_
  show wpAny _ A.in1.in1 (do checkBuiltinCall "tuple.__new__" ⟨[.type "tuple",.ref a],[]⟩;again (.builtin "tuple.__new__" ⟨[.type "tuple",.ref a],[]⟩)) _ _ s
  refine ac (bw (F.newCall_tuple_1 _) (ao ⟨fy uf _,g9 F.entry_tuple_new ?_⟩))
  rw[gY uf _]
  have hsub:=sub_tuple_self
  have hinit:=init_tuple_lookup
  have hmh:=madeHere_tuple
  have hTI:=hgen.2.1.typeIs
  have hcol:∀{Q':List Value→Shared→Prop} {E':Value→Shared→Prop},(∀vs s' g',Go X am g₀ σ s₀ g' σ s'→RepL g' l vs→Q' vs s')→wpAny (model P0 X.w) A.in1.in1 (collect (.ref a)) Q' E' s:=λhq=>
   aj (AI hlim hA.in1.in1 G hgen ho hz) (λvs s' ⟨g',h1,h2⟩=>hq vs s' g' h1 h2) λ_ _ x=>x.elim
  wp_walk using wpAny_typeOf hTI,hcol
  intro vs s' g' G' rv
  show wpAny _ _ (Builtin.Tuple.tupleExact vs.toArray>>= λv=>ret v) _ _ _
  unfold Builtin.Tuple.tupleExact
  have hn:g' s'.heap.objs.size=none:=View.none_of G'.sat.in_ dn
  refine ac (di ?_ (by show vs.toArray.size≤sizeLine;rw[bn,cA,rv.length];omega))
  refine ao ?_
  refine⟨⟨_,aX _ rfl,rfl⟩,Post.to (G'.trans (Go.keeps_add G'.sat (λb o e=>aJ _ e) dn (aX _ rfl))) ⟨.tup l,?_,h⟩⟩
  unfold Rep
  exact⟨_,vs,rfl,jd rfl rfl,rv.le (View.le_add _ hn)⟩
 ·exact⟨h₁.1,qe obj _,object_init_meets ng.init.lookup ng.made (by decide) P0 X.w A.in1 _ s₁ ⟨h₁.1,rfl,h₁.2⟩⟩
theorem xd{x:Value}{l:List AV}{g₀ g:View}{s₀ s:Shared}{A:Around}{Q:AV→St→Prop}(G:Go X am g₀ σ s₀ g σ s)(h:Q (.lst l) σ)
  (fill:∀s₁,Go X am g₀ σ s₀ g σ s₁→(∀b o,s.heap.get? b=some o→s₁.heap.get? b=some o)→s₁.gens=s.gens→(∀o,s.heap.get? s.heap.objs.size=some o→False)→Dst X s.heap.objs.size [] g σ s₁→
   wpAny (model P0 X.w) A.in1.in1 (Builtin.List.listExtendWith (.ref s.heap.objs.size) x .none) (λfin s'=>match fin with
   |.done f=>(Except.ok f:Result)=.ok (.ret .none)∧∃g',Go X am g₀ σ s₀ g' σ s'∧Dst X s.heap.objs.size l g' σ s'
   |.again c'=>c'.quiet=true∧codeAny (model P0 X.w) A.in1 c' (λr s'=>r=.ok (.ret .none)∧∃g',Go X am g₀ σ s₀ g' σ s'∧Dst X s.heap.objs.size l g' σ s') s') ai s₁):
  wpAny (model P0 X.w) A (call (.type "list") [x]) (Post X am g₀ σ s₀ Q) ai s:=by
 refine callType_codes (Q₁:=λobj s₁=>obj=.ref s.heap.objs.size∧s₁={s with heap:=s.heap.push {cls:=.type "list",data:=.seq #[]}}) F.called_list (F.typeCall_list_1 _) F.entry_list_init
  (code_list_new _ ⟨rfl,rfl⟩) λobj s₁ h₁=>?_
 obtain⟨rfl,rfl⟩:=h₁
 have hS:(s.heap.push {cls:=.type "list",data:=.seq #[]}).get? s.heap.objs.size=some {cls:=.type "list",data:=.seq #[]}:=aX _ rfl
 refine⟨⟨_,hS,rfl⟩,F.args_list_init_2 _ _,?_⟩
 have hnone:∀o,s.heap.get? s.heap.objs.size=some o→False:=λo e=>bt _ (aY e)
 have hnone₀:∀o,s₀.heap.get? s.heap.objs.size=some o→False:=λo e=>let ⟨o',e'⟩:=G.dom e id;hnone o' e'
 show wpAny _ _ (do let old ←Builtin.List.listItems (.ref s.heap.objs.size);Builtin.List.listUpdate (.ref s.heap.objs.size) (λ_=>#[]);letGo old.toList.reverse;Builtin.List.listExtendWith (.ref s.heap.objs.size) x .none) _ _ _
 refine ac ?_
 unfold Builtin.List.listItems
 refine ac (eA hS rfl (ao ?_))
 show wpAny _ _ (updateSeq s.heap.objs.size (λ_=>#[])>>= λ_=>letGo (#[]:Array Value).toList.reverse>>= λ_=>Builtin.List.listExtendWith (.ref s.heap.objs.size) x .none) _ _ _
 refine ac (iU hS rfl ?_)
 have hS₂:=fk (Obj.mapSeq (λ_=>(#[]:Array Value))) hS rfl
 have oth:∀b o,s.heap.get? b=some o→((s.heap.push {cls:=.type "list",data:=.seq #[]}).update s.heap.objs.size (Obj.mapSeq (λ_=>(#[]:Array Value)))).get? b=some o:=
  λb o e=>(Heap.get?_update_other _ _ (λq:s.heap.objs.size=b=>hnone o (q▸e))).trans (aJ _ e)
 refine ac (qJ ?_)
 have G₁:Go X am g₀ σ s₀ g σ {s with heap:=(s.heap.push {cls:=.type "list",data:=.seq #[]}).update s.heap.objs.size (Obj.mapSeq (λ_=>(#[]:Array Value)))}:=G.trans (Go.keeps G.sat oth)
 have fin_:∀{s':Shared},(∃g',Go X am g₀ σ s₀ g' σ s'∧Dst X s.heap.objs.size l g' σ s')→Post X am g₀ σ s₀ Q (.ref s.heap.objs.size) s':=λ{s'} ⟨g',h1,hf,ys,⟨o,ho,hc,n,hdt⟩,r⟩=>by
  have Gf:=(h1.comp (Go.freeze h1.sat hf ho) ⟨λb o e q=>hnone₀ o (by rw[←show b=s.heap.objs.size from q];exact e),λ_ _ h=>h⟩)
  refine Post.to Gf ⟨.lst l,?_,h⟩
  unfold Rep
  exact⟨_,ys,rfl,⟨o,n,by unfold View.add;rw[ah rfl],hc,hdt⟩,r.le (View.le_add o hf.1)⟩
 refine aj (fill _ G₁ oth rfl hnone ⟨bC G.sat (aG _),[],⟨_,hS₂,rfl,_,rfl⟩,.nil⟩) (λfin s' hh=>?_) λ_ _ x=>x.elim
 cases fin with
 |done f=>obtain⟨h1,h2⟩:=hh;cases h1;exact⟨rfl,fin_ h2⟩
 |again c'=>exact⟨hh.1,cI hh.2 λr s'' ⟨h1,h2⟩=>by subst h1;exact⟨rfl,fin_ h2⟩⟩
theorem Ao{a:Addr}{gi:Nat}{own:Pv}{l:List AV}{g₀ g:View}{s₀ s:Shared}{A:Around}{Q:AV→St→Prop}(hlim:∀h:Heap,X.B.In h→h.NoLimit)(hA:Room A (k+5))(G:Go X am g₀ σ s₀ g σ s)(hgen:eI X k σ a gi own l g σ s)(ho:own.Le s₀ am)(hz:l.length≤65536)(h:Q (.lst l) σ):
  wpAny (model P0 X.w) A (call (.type "list") [.ref a]) (Post X am g₀ σ s₀ Q) ai s:=
 xd G h λs₁ G₁ kp hg hn hd=>by
  have I:Itr X (k+2) none (.ref a) (λσ σ'=>σ'=σ) (eI X k σ a gi):=n9 hlim
  have Gk:Go X am g σ s g σ s₁:=⟨G₁.sat,.refl g,λ_ _ _ _=>rfl,λ_ _ _ _=>eD,by rw[G₁.run.os,G.run.os],λa o e _=>⟨o,kp a o e⟩,λa o e _ _ _=>.inl (kp a o e),λp _ o vs e hd'=>⟨#[],by rw[kp _ _ e];congr 1;obtain⟨c,d,dt,sl⟩:=o;subst hd';simp⟩,by rw[hg];exact aG _,λi x e _=>by rw[hg];exact e,λi x e=>by rw[hg] at e;exact .inl e⟩
  have hgen':=I.keep hgen Gk Pv.Apart.noP rfl
  have hoS:¬own.a s.heap.objs.size:=λq=>let ⟨o,e⟩:=(I.ex hgen).1 _ q;hn o e
  have hS₀:∀o,s₀.heap.get? s.heap.objs.size=some o→False:=λo e=>let ⟨o',e'⟩:=G.dom e id;hn o' e'
  exact yw hlim (Room.in1 (k:=k+4) hA |>.mono (eS _)) G₁ hS₀ hd hgen' ho hoS hz
end
section
variable {X:Cx} {A:Around} {E:Value→Shared→Prop} {env:Env} {m:Mp} {σ:St} {Q:AV→St→Prop} {k:Nat}
def jQ(X:Cx)(A:Around)(E:Value→Shared→Prop)(k:Nat)(env:Env)(m:Mp)(e:Expr)(σ:St)(l:List AV):Prop:=
 ∀g s,Sat X g σ s→Frm X env m g σ s→wpAny (model P0 X.w) A (eval e env) (λv s₁=>∃a gi g₁ own,v=.ref a∧Go X am g σ s g₁ σ s₁∧own.Le s am∧eI X k σ a gi own l g₁ σ s₁) E s
theorem Dp{tgt:Option Expr}{e:Expr}{l:List AV}{Q:(St→St→Prop)→List AV→St→Prop}(hlim:∀h:Heap,X.B.In h→h.NoLimit)(h:jQ X A E k env m e σ l)(hq:Q (λσ σ'=>σ'=σ) l σ):fi X A E (k+2) env m tgt e σ Q:=λg s S F=>
 aj (h g s S F) (λv s₁ ⟨a,gi,g₁,own,hv,G,ho,hg⟩=>by
  subst hv
  exact um hg.2.1 ⟨g₁,σ,_,_,own,l,G,ho,n9 hlim,hg,hq⟩) i2
theorem ij(r:Rep g f fv)
  (h:wpAny (model P0 X.w) A (spliced (backTo pos (starEach args env))) (λvs s₁=>(∃g₁ σ₁,Sat X g₁ σ₁ s₁∧aV X σ₁ f)∧wpAny (model P0 X.w) A (call fv (fvs++vs) []) R E s₁) E s)
  (hst:(starEach args env).all (λx=> !x.1)=true):wpAny (model P0 X.w) A (callWith pos fv fvs (backTo pos (starEach args env)) []) R E s:=by
 have hpl:(backTo pos (starEach args env)).any (·.1)=false:=by
  rw[kt,qd];simp only[hst];rfl
 refine qF (args:=backTo pos (starEach args env)) r hpl ?_
 have fin:=h
 cases hl:backTo pos (starEach args env) with
 |nil=>
  rw[hl] at fin
  unfold evalArgs
  show wpAny _ A (spliced []>>= _) _ E s
  refine ac (aj fin (λvs s₁ h₁=>ac (ao ?_)) i2)
  refine bT ?_
  exact ac (ao (ac (ao (ao h₁))))
 |cons x rest=>
  obtain⟨b,t⟩:=x
  rw[hl] at fin hpl
  have:b=false:=by
   cases b
   ·rfl
   ·simp at hpl
  subst this
  exact mM fin
theorem vb(hA:Room A (k+2))(h:Ev X A E env m fe σ λF σ₁=>dz X A E env m args pos σ₁ λas σ₂=>σ₂=σ∧aV X σ F∧kI X k F as σ l)
  (he:eval (.Call fe args [] pos) env=(do callWith pos (←eval fe env) [] (backTo pos (starEach args env)) (backToKw pos (keywordEach [] env))):=by rfl)
  (hst:(starEach args env).all (λx=> !x.1)=true:=by rfl):jQ X A E k env m (.Call fe args [] pos) σ l:=λg s S F=>
 Call_ (aj (h g s S F) (λfv s₁ ⟨g₁,f,σ₁,G₁,r₁,h₁⟩=>ij (fvs:=[]) r₁ (aj (h₁ g₁ s₁ G₁.sat (F.go G₁)) (λvs s₂ ⟨g₂,as,σ₂,G₂,r₂,e,hk,hc⟩=>by
  subst e
  refine⟨⟨g₂,σ₂,G₂.sat,hk⟩,ku (cI (hc A g₂ s₂ fv vs hA G₂.sat (r₁.le G₂.le) r₂) λr s₃ ⟨a,gi,g₃,own,hr,G₃,ho,hg⟩=>?_)⟩
  subst hr
  have G:=G₁.trans G₂
  exact⟨a,gi,g₃,own,rfl,G.trans G₃,⟨λb o e q=>let ⟨o',e'⟩:=G.dom e id;ho.1 b o' e' q,λi hi q=>ho.2 i (bu hi G.run.gsize) q⟩,hg⟩) i2) hst) i2) he
theorem xx(hf:Ev X A E env m fe σ λF σ₁=>F=.typ T∧σ₁=σ)(he:jQ X A E k env m e σ l)
  (hc:∀{a gi own g₀ g s₀ s},Go X am g₀ σ s₀ g σ s→eI X k σ a gi own l g σ s→own.Le s₀ am→wpAny (model P0 X.w) A (call (.type T) [.ref a]) (Post X am g₀ σ s₀ Q) ai s)
  (heq:eval (.Call fe [e] [] pos) env=(do callWith pos (←eval fe env) [] (backTo pos (starEach [e] env)) (backToKw pos (keywordEach [] env))):=by rfl)
  (hs:starEach [e] env=(false,eval e env)::starEach [] env:=by rfl):Ev X A E env m (.Call fe [e] [] pos) σ Q:=λg s S F=>
 Call_ (aj (hf g s S F) (λfv s₁ ⟨g₁,f,σ₁,G₁,r₁,e1,e2⟩=>by
  subst e1 e2
  refine ij (fvs:=[]) r₁ (kC (aj (he g₁ s₁ G₁.sat (F.go G₁)) (λv s₂ ⟨a,gi,g₂,own,hv,G₂,ho,hg⟩=>?_) i2) hs) (by rw[hs];rfl)
  subst hv
  refine args_nil ⟨⟨g₂,_,G₂.sat,trivial⟩,?_⟩
  have hf':fv=.type T:=by unfold Rep at r₁;exact r₁
  subst hf'
  have ho':own.Le s am:=⟨λb o e q=>let ⟨o',e'⟩:=G₁.dom e id;ho.1 b o' e' q,λi hi q=>ho.2 i (bu hi G₁.run.gsize) q⟩
  exact aj (hc (G₁.trans G₂) hg ho') i2 λ_ _ x=>x.elim) i2) heq
theorem AF(hlim:∀h:Heap,X.B.In h→h.NoLimit)(hA:Room A (k+6))(hf:Ev X A E env m fe σ λF σ₁=>F=.typ "tuple"∧σ₁=σ)(he:jQ X A E k env m e σ l)(hz:l.length≤65536)(h:Q (.tup l) σ)
  (heq:eval (.Call fe [e] [] pos) env=(do callWith pos (←eval fe env) [] (backTo pos (starEach [e] env)) (backToKw pos (keywordEach [] env))):=by rfl)
  (hs:starEach [e] env=(false,eval e env)::starEach [] env:=by rfl):Ev X A E env m (.Call fe [e] [] pos) σ Q:=
 xx hf he (λG hg ho=>Aa hlim hA G hg ho hz h) heq hs
theorem AO(hlim:∀h:Heap,X.B.In h→h.NoLimit)(hA:Room A (k+5))(hf:Ev X A E env m fe σ λF σ₁=>F=.typ "list"∧σ₁=σ)(he:jQ X A E k env m e σ l)(hz:l.length≤65536)(h:Q (.lst l) σ)
  (heq:eval (.Call fe [e] [] pos) env=(do callWith pos (←eval fe env) [] (backTo pos (starEach [e] env)) (backToKw pos (keywordEach [] env))):=by rfl)
  (hs:starEach [e] env=(false,eval e env)::starEach [] env:=by rfl):Ev X A E env m (.Call fe [e] [] pos) σ Q:=
 xx hf he (λG hg ho=>Ao hlim hA G hg ho hz h) heq hs
end
theorem Bt{X:Cx}{A:Around}{b:List UInt8}{t:Tok}{s':Shared}{Q:Bool→Shared→Prop}(hz:b.length≤65536)(h:∀r tk,Q r {s' with toks:=tk}):wpAny (model P0 X.w) A (Builtin.List.listLengthHint (.bytes b.toArray t)) Q ai s':=by
 unfold Builtin.List.listLengthHint
 refine ac (j8 (dS s' _ t) FB.slot_bytes_len.lookup ?_)
 generalize hid:("bytes.__len__":String)=id0
 wp_delta
 rw[show splitId id0=some ("bytes","__len__") from by subst hid;decide+kernel]
 subst hid
 refine ac (fw (T:="bytes") (b:=true) (dS s' _ t) (by rw[qv];kernel_rfl) ?_)
 refine wpAny_ite_split (λhab=>absurd hab (by decide)) (λ_=>?_)
 refine wpAny_ite_split (λ_=>?_) (λhab=>absurd (by decide+kernel) hab)
 refine ac (m:=typeOf _) (ao ?_)
 exact ao (h _ s'.toks)
section
variable {X:Cx} {A:Around} {E:Value→Shared→Prop} {σ:St} {Q:AV→St→Prop} {k:Nat}
theorem zT{b:List UInt8}(hA:Room A 2)(hz:b.length≤65536)(h:Q (.lst (ay b)) σ):cn X A ai (.typ "list") [.bytes b] σ Q:=λg s fv vs S r rl=>by
 unfold Rep at r;subst r
 unfold RepL at rl;obtain⟨v,us,rfl,r,rl⟩:=rl;unfold RepL at rl;subst rl
 unfold Rep at r;obtain⟨t,rfl⟩:=r
 refine xd (.refl S) h λs₁ G₁ kp hg hn hd=>?_
 refine aj (wX (k:=0) (Pb:=a9 s.heap.objs.size) (T:="bytes") (l:=ay b) (Room.in1 (k:=1) hA) rfl G₁.any hd (dS s₁ _ t) (by rfl) (by decide) (by decide) (by simpa [ay] using hz) (λ{Q} hq=>?_) (λ{s' Q} hT hq=>Bt hz hq)) (λfin s' hh=>?_) i2
 ·have Gp:Go X am g σ s₁ g σ {s₁ with heap:=s₁.heap.push {cls:=.type "bytes_iterator",data:=.fields #[.bytes b.toArray t,.int 0 0]}}:=Go.keeps G₁.sat λb o e=>aJ _ e
  refine ul (hq s₁.heap.objs.size _ _ (a9 s₁.heap.objs.size) _ Gp (dS _ _ t) ⟨λc o e q=>?_,λ_ _ h=>h.elim⟩ (λq=>?_) ((xR (b:=b) (t:=t)).itr 0 none) ⟨rfl,bC G₁.sat (aG _),0,⟨_,aX _ rfl,rfl,rfl⟩,rfl⟩)
  ·obtain⟨o',e'⟩:=G₁.dom e id
   rw[show c=s₁.heap.objs.size from q] at e'
   exact absurd (aY e') (bt _)
  ·obtain⟨o,e⟩:=hd.at
   have:=aY e
   rw[show s.heap.objs.size=s₁.heap.objs.size from q] at this
   exact bt _ this
 ·have drop:∀{g':View} {s':Shared},Go X (a9 s.heap.objs.size) g σ s g' σ s'→Go X am g σ s g' σ s':=λG=>G.weaken ⟨λb o e h=>hn o (by rw[←show b=s.heap.objs.size from h];exact e),λ_ _ h=>h⟩
  cases fin with
  |done f=>obtain⟨h1,g',h2,h3⟩:=hh;exact⟨h1,g',drop h2,h3⟩
  |again c'=>exact⟨hh.1,cI hh.2 λr s'' ⟨h1,g',h2,h3⟩=>⟨h1,g',drop h2,h3⟩⟩
end
def aD(i:Nat):Stmt:=(P0.main.body[i]?).getD (.Pass default)
def cj:Stmt→List Stmt|.FunctionDef _ _ b _ _ _ _ _ _ _=>b|_=>[]
def jl:Stmt→Scope|.FunctionDef _ _ _ _ _ _ s _ _ _=>s|_=>default
def ox:Stmt→Arguments|.FunctionDef _ p _ _ _ _ _ _ _ _=>p|_=>default
def vP:Stmt→Str|.FunctionDef n _ _ _ _ _ _ _ _ _=>n|_=>default
def Fd:Stmt→List Stmt|.ClassDef _ _ _ b _ _ _ _ _ _ _=>b|_=>[]
def cP(st:Stmt)(qual:Str)(code pm dflt:Value):FuncData:={name:=vP st,qualname:=qual,params:=ox st,body:=.stmts (cj st),scope:=jl st,globals:=mainGlobals,closure:=[],defaults:=dflt,kwdefaults:=.none,pyModule:=pm,code:=code,builtins:=builtinsNs}
def Fn(X:Cx)(a i:Nat)(qual:Str)(dflt:Value):Prop:=∃code pm,FnAt X a (cP (aD i) qual code pm dflt) (cj (aD i))
def Gw(i:Nat)(qual:Str)(dflt:Value)(code pm:Value):FuncData:=cP (aD i) qual code pm dflt
def blank:List UInt8:=[197,210,70,1,134,247,35,60,146,126,125,178,220,199,3,192,229,0,182,83,202,130,39,59,123,250,216,4,93,133,164,112]
structure Base(X:Cx):Prop where
 lim:∀h:Heap,X.B.In h→h.NoLimit
 bi:∀h:Heap,X.B.In h→∃m bm o,h.Ns mainGlobals m∧m "__builtins__"=some (.ref bm)∧bm≠builtinsNs∧h.get? bm=some o∧o.cls=.type "module"∧o.dict=some builtinsNs∧o.data=.plain
 tbu:∀p∈X.tabs,∀q∈X.tabs,p.2=q.2→p.1=q.1
 g_isinstance:aL X "isinstance" (.blt "isinstance")
 g_len:aL X "len" (.blt "len")
 g_bytes:aL X "bytes" (.typ "bytes")
 g_list:aL X "list" (.typ "list")
 g_tuple:aL X "tuple" (.typ "tuple")
 g_int:aL X "int" (.typ "int")
 g_range:aL X "range" (.typ "range")
 g_sum:aL X "sum" (.blt "sum")
 g_enumerate:aL X "enumerate" (.typ "enumerate")
 g_reversed:aL X "reversed" (.typ "reversed")
 f_part:Fn X 153 22 "partition_all" .none
 g_part:aL X "partition_all" (.ref 153)
 f_dfb:Fn X 160 24 "decode_from_bin" .none
 g_dfb:aL X "decode_from_bin" (.ref 160)
 f_dfb_:∃pm,FnAt X 167 (cP (aD 25) "_decode_from_bin" (.ref 166) pm .none) (cj (aD 25))
 g_dfb_:aL X "_decode_from_bin" (.ref 167)
 t_dfb_:(166,162)∈X.tabs
 g_TWO:aL X "TWO_BITS" (.lst [.bytes [0,0],.bytes [0,1],.bytes [1,0],.bytes [1,1]])
 g_TWOr:aL X "TWO_BITS" (.ref 60)
 o_TWO:∃o t0 t1 t2 t3,X.B 60=some o∧o.cls=.type "list"∧o.dict=none∧∃n,o.data=.seq #[.bytes #[0,0] t0,.bytes #[0,1] t1,.bytes #[1,0] t2,.bytes #[1,1] t3] n
 g_P00:aL X "PREFIX_00" (.bytes [0,0])
 g_P10:aL X "PREFIX_100000" (.bytes [1,0,0,0,0,0])
 f_efk:Fn X 186 28 "encode_from_bin_keypath" .none
 g_efk:aL X "encode_from_bin_keypath" (.ref 186)
 f_dtk:Fn X 193 29 "decode_to_bin_keypath" .none
 g_dtk:aL X "decode_to_bin_keypath" (.ref 193)
 g_BLANK:aL X "BLANK_HASH" (.bytes blank)
 g_KV:aL X "KV_TYPE" (.int 0)
 g_BR:aL X "BRANCH_TYPE" (.int 1)
 g_LEAF:aL X "LEAF_TYPE" (.int 2)
 g_TYPES:aL X "BINARY_TRIE_NODE_TYPES" (.tup [.int 0,.int 1,.int 2])
 g_KVP:aL X "KV_TYPE_PREFIX" (.bytes [0])
 g_BRP:aL X "BRANCH_TYPE_PREFIX" (.bytes [1])
 g_LEAFP:aL X "LEAF_TYPE_PREFIX" (.bytes [2])
 g_B1:aL X "BYTE_1" (.bytes [1])
 g_B0:aL X "BYTE_0" (.bytes [0])
 f_vbn:Fn X 214 33 "validate_is_bin_node" .none
 g_vbn:aL X "validate_is_bin_node" (.ref 214)
 f_gcp:Fn X 221 35 "get_common_prefix_length" .none
 g_gcp:aL X "get_common_prefix_length" (.ref 221)
 f_parse:Fn X 228 36 "parse_node" .none
 g_parse:aL X "parse_node" (.ref 228)
 f_ekv:Fn X 235 37 "encode_kv_node" .none
 g_ekv:aL X "encode_kv_node" (.ref 235)
 f_ebr:Fn X 242 38 "encode_branch_node" .none
 g_ebr:aL X "encode_branch_node" (.ref 242)
 f_elf:Fn X 249 39 "encode_leaf_node" .none
 g_elf:aL X "encode_leaf_node" (.ref 249)
 f_gtn:Fn X 256 41 "get_trie_nodes" .none
 g_gtn:aL X "get_trie_nodes" (.ref 256)
 f_gtn_:Fn X 263 42 "_get_trie_nodes" .none
 g_gtn_:aL X "_get_trie_nodes" (.ref 263)
 g_EXP:aL X "EXP" (.tup [.int 128,.int 64,.int 32,.int 16,.int 8,.int 4,.int 2,.int 1])
 f_vib:Fn X 200 31 "validate_is_bytes" .none
 g_vib:aL X "validate_is_bytes" (.ref 200)
 f_vl:Fn X 207 32 "validate_length" .none
 g_vl:aL X "validate_length" (.ref 207)
 f_etb:Fn X 172 26 "encode_to_bin" .none
 g_etb:aL X "encode_to_bin" (.ref 172)
 f_etb_:Fn X 179 27 "_encode_to_bin" .none
 g_etb_:aL X "_encode_to_bin" (.ref 179)
section
variable {X:Cx} {A:Around} {σ:St} {Q:AV→St→Prop}
theorem zC(h:Q (.bool true) σ):cn X A ai (.blt "isinstance") [.bytes b,.typ "bytes"] σ Q:=λg s fv vs S r rl=>by
 unfold Rep at r;subst r
 unfold RepL at rl;obtain⟨v,us,rfl,r,rl⟩:=rl
 unfold RepL at rl;obtain⟨u,ws,rfl,r',rl⟩:=rl
 unfold RepL at rl;subst rl
 unfold Rep at r r';obtain⟨t,rfl⟩:=r;subst r'
 exact call_isinstance_yes (dS s _ t) (by rfl) (by rw[qv];kernel_rfl) (Post.here S .bool h)
end
section
variable {X:Cx} {σ:St} (hX:Base X)
include hX
theorem eE(h:Q .none σ):CallOk X 1 (.ref 200) [.bytes b] σ Q:=by
 obtain⟨code,pm,F⟩:=hX.f_vib
 refine bG F ["value"] (bk ["value"] λvs hv=>?_) (by rfl) λA L hA=>?_
 ·obtain⟨v,rfl⟩:=wF.mp hv
  rfl
 refine ag (az (fE (cJ (au (eg hX.g_isinstance (ad (ab (.bytes b) (ad (eg hX.g_bytes (ak ⟨trivial,zC (kb ?_)⟩))))))))))
 exact aB (aB h)
end
section
variable {X:Cx} {k:Nat} {σ:St} {M:Mach X k σ} {N:Addr} {env:Env} {m:Mp} {l:List AV} {Q:AFl→Mp→List AV→Prop}
theorem ExT.mono(h:ExT M N env t m l Q)(hq:∀F m l,Q F m l→Q' F m l):ExT M N env t m l Q':=λc fs jo J hc hJ A K H gd lv own₀ g₀ s₀ own g s hA hgd Y hK=>
 h c fs jo J hc hJ A K H gd lv own₀ g₀ s₀ own g s hA hgd Y λA' f F m' l' own₀' g₀' s₀' own' g' s' hA' Y' rf q=>hK A' f F m' l' own₀' g₀' s₀' own' g' s' hA' Y' rf (hq _ _ _ q)
theorem As.mono{A:Around}{E:Value→Shared→Prop}{P:Pv}{target:Expr}{V:AV}{Q Q':Mp→St→Prop}(h:As X A E P env m target V σ Q)(hq:∀m σ,Q m σ→Q' m σ):As X A E P env m target V σ Q':=λg s v S F r=>
 aj (h g s v S F r) (λ_ s' ⟨g',m',σ',G,F',q⟩=>⟨g',m',σ',G,F',hq _ _ q⟩) i2
theorem q6{target:Expr}{body:List Stmt}(I:Mp→Prop)(f:AV→List AV):∀(L:List AV) (m:Mp) (l:List AV),
  (∀V∈L,∀m l,I m→∀A',Room A' k→As X A' ai (ax N env) env m target V σ λm₁ σ₁=>σ₁=σ∧fJ M N env m₁ body (f V++l) λF m₂ l₂=>F=.next∧l₂=l∧I m₂)→
  I m→(∀m',I m'→Q .next m' l)→so M N env target body Q L m (L.flatMap f++l)
 |[],m,l,_,hI,hQ=>hQ m hI
 |V::L,m,l,hb,hI,hQ=>λA' hA=>(hb V (bj) m (L.flatMap f++l) hI A' hA).mono λm₁ σ₁ ⟨e,h⟩=>⟨e,by
   rw[gp,gZ]
   refine ExT.mono h λF m₂ l₂ ⟨e1,e2,hI₂⟩=>?_
   subst e1 e2
   exact q6 I f L m₂ l (λV hV=>hb V (aR _ hV)) hI₂ hQ⟩
end
def FJ:List Int:=[128,64,32,16,8,4,2,1]
def nY(c:UInt8):List Bool:=FJ.map λe=>Builtin.bitAnd (c.toNat:Int) e !=0
def bits(b:List UInt8):List Bool:=b.flatMap nY
def rH:AV→List AV
 |.int c=>FJ.map λe=>.bool (Builtin.bitAnd c e !=0)
 |_=>[]
theorem AJ(b:List UInt8):(ay b).flatMap rH=(bits b).map .bool:=by
 unfold bits ay
 induction b with
 |nil=>rfl
 |cons c b ih=>rw[bQ,gp,gp,iV,←ih];rfl
section
variable {X:Cx} {σ:St} (hX:Base X)
include hX
theorem Dh:kI X 1 (.ref 179) [.bytes b] σ ((bits b).map .bool):=by
 obtain⟨code,pm,F⟩:=hX.f_etb_
 refine nV F ["value"] (bk ["value"] λvs hv=>?_) (by rfl) λL=>?_
 ·obtain⟨v,rfl⟩:=wF.mp hv
  rfl
 rw[←AJ,←ey (List.flatMap rH (ay b))]
 refine bU (vo (λA' hA=>c7 (ab (.bytes b) (ya ⟨rfl,q6 (λ_=>True) rH (ay b) _ [] (λV hV m l _ A' hA=>?_) trivial λm' _=>cK ⟨rfl,.inl rfl⟩⟩))))
 obtain⟨c,hc,rfl⟩:=aP.mp hV
 refine aq ⟨rfl,?_⟩
 refine bU (vo (λA' hA=>c7 (eg hX.g_EXP (vq ⟨rfl,?_⟩))))
 have hfl:rH (.int (c.toNat:Int))=(FJ.map AV.int).flatMap λV=>match V with|.int e=>[.bool (Builtin.bitAnd (c.toNat:Int) e !=0)]|_=>[]:=rfl
 rw[hfl]
 refine q6 (λm=>m "char"=some (.int (c.toNat:Int))) _ (FJ.map AV.int) _ l (λV hV m l hm A' hA=>?_) (by rfl) λm' _=>cK ⟨rfl,rfl,trivial⟩
 obtain⟨e,he,rfl⟩:=aP.mp hV
 refine aq ⟨rfl,?_⟩
 refine bU (fW λA' hA=>cJ (aK (ap (V:=.int (c.toNat:Int)) (by exact hm) (ab (.int e) (Bu (wZ ⟨rfl,?_⟩))))))
 split
 ·rename_i h
  show fJ _ _ _ _ _ (AV.bool (Builtin.bitAnd (c.toNat:Int) e !=0)::l) _
  rw[h]
  exact bU (je λA' hA=>yL ⟨rfl,rfl,cK (cK ⟨rfl,rfl,hm⟩)⟩)
 ·rename_i h
  rw[Bool.not_eq_true] at h
  show fJ _ _ _ _ _ (AV.bool (Builtin.bitAnd (c.toNat:Int) e !=0)::l) _
  rw[h]
  exact bU (je λA' hA=>yL ⟨rfl,rfl,cK (cK ⟨rfl,rfl,hm⟩)⟩)
def fh(x:Bool):UInt8:=if x then 1 else 0
def aA(b:List UInt8):List UInt8:=(bits b).map fh
omit hX in
theorem zY(h:Q (.int (if x then 1 else 0)) σ):cn X A ai (.typ "int") [.bool x] σ Q:=λg s fv vs S r rl=>by
 unfold Rep at r;subst r
 unfold RepL at rl;obtain⟨v,us,rfl,r,rl⟩:=rl
 unfold RepL at rl;subst rl
 unfold Rep at r;subst r
 exact call_int_bool (Post.tok S .int h)
end
theorem uQ:∀{ns:List Int} {vs:List Value},RepL g (ns.map AV.int) vs→IntsAre vs ns
 |[],vs,r=>by unfold RepL at r;subst r;exact .nil
 |n::ns,vs,r=>by
  rw[bQ] at r
  unfold RepL at r;obtain⟨v,us,rfl,r,rl⟩:=r
  unfold Rep at r;obtain⟨t,rfl⟩:=r
  exact .cons n t (uQ rl)
section
variable {X:Cx} {A:Around} {σ:St} {P:Pv} {env:Env} {Dep:St→St→Prop} {K:Mp→St→List AV→Prop}
theorem fc:
  compTurn (.ListComp elt [⟨target,iter,ifs,0⟩] scope pos) 0 it (.ref D) env=gE (.ListComp elt [⟨target,iter,ifs,0⟩] scope pos) 0 target iter ifs it (.ref D) env (T1 D env elt):=by rfl
theorem dH{target elt:Expr}{ifs:List Expr}(I:Mp→Prop)(p:AV→Bool)(f:AV→AV)(hD:Dep σ σ):∀(L:List AV) (m:Mp) (out:List AV),
  (∀V∈L,∀m,I m→As X A ai P env m target V σ λm₁ σ₁=>σ₁=σ∧p0 X A env m₁ ifs σ λb σ₂=>σ₂=σ∧b=p V∧I m₁∧(p V=true→Ev X A ai env m₁ elt σ λW σ₃=>σ₃=σ∧W=f V))→
  out.length+L.length≤65536→I m→(∀m',I m'→K m' σ (out++(L.filter p).map f))→fg X A Dep P env target ifs (J1 X A env elt) K L m σ out
 |[],m,out,_,_,hI,hK=>by show K m σ out;have:=hK m hI;simpa using this
 |V::L,m,out,hb,hz,hI,hK=>by
  refine(hb V bj m hI).mono λm₁ σ₁ ⟨e,h⟩=>?_
  have e:=e.symm;subst e
  have tm:∀{ifs:List Expr} {Q Q':Bool→St→Prop},p0 X A env m₁ ifs σ Q→(∀b s,Q b s→Q' b s)→p0 X A env m₁ ifs σ Q':=λ{ifs Q Q'} h hq=>by
   match ifs,h with
   |[],h=>exact hq _ _ h
   |[c],h=>exact EvB.mono h hq
  refine tm h λb σ₂ ⟨e,eb,hI₁,hv⟩=>?_
  have e:=e.symm;subst e
  have hb':∀V'∈L,_:=λV' hV'=>hb V' (aR _ hV')
  cases hp:p V with
  |true=>
   rw[eb,hp]
   refine(hv hp).mono λW σ₃ ⟨e1,e2⟩=>?_
   have e1:=e1.symm;subst e1
   subst e2
   refine⟨by simp at hz;omega,hD,dH I p f hD L m₁ _ hb' (by simp at hz ⊢;omega) hI₁ λm' hm'=>?_⟩
   have:=hK m' hm'
   rw[List.filter_cons,ah hp,bQ] at this
   rw[gZ];exact this
  |false=>
   rw[eb,hp]
   refine⟨hD,dH I p f hD L m₁ out hb' (by simp at hz ⊢;omega) hI₁ λm' hm'=>?_⟩
   have:=hK m' hm'
   rwa [List.filter_cons,ae (by rw[hp];decide)] at this
theorem qj{A:Around}{ns:List Int}{Q:AV→St→Prop}(hh:A.handled=none)(hr:∀n∈ns,0≤n∧n<256)(hz:ns.length≤65536)(h:Q (.bytes (ns.map λn=>n.toNat.toUInt8)) σ):cn X A ai (.typ "bytes") [.lst (ns.map .int)] σ Q:=λg s fv vs S r rl=>by
 unfold Rep at r;subst r
 unfold RepL at rl;obtain⟨v,us,rfl,r,rl⟩:=rl
 unfold RepL at rl;subst rl
 unfold Rep at r;obtain⟨a,vs,rfl,hq,rv⟩:=r
 refine call_bytes_ints (c6 hq S.in_) (uQ rv) hr (by rw[rv.length,bn];simp;omega) hh λh' t k hk=>?_
 exact Post.to (Go.keeps S hk) ⟨.bytes (ns.map λn=>n.toNat.toUInt8),.bytes,h⟩
end
section
variable {X:Cx} {σ:St} (hX:Base X)
include hX
omit hX in
theorem nz(b:List UInt8):(bits b).length=8 * b.length:=by
 unfold bits
 induction b with
 |nil=>rfl
 |cons c b ih=>rw[gp,bg,ih,bc];simp[nY,FJ];omega
theorem kL{b:List UInt8}{Q:AV→St→Prop}(hz:b.length≤4096)(h:Q (.bytes (aA b)) σ):CallOk X 8 (.ref 172) [.bytes b] σ Q:=by
 obtain⟨code,pm,F⟩:=hX.f_etb
 refine bG F ["value"] (bk ["value"] λvs hv=>?_) (by rfl) λA L hA=>?_
 ·obtain⟨v,rfl⟩:=wF.mp hv
  rfl
 have hl:((bits b).map AV.bool).length≤65536:=by rw[bB,nz];omega
 refine ag (aZ (au (eg hX.g_bytes (ad (fM (k:=3) (λD env=>T1 D env _) (λC env=>J1 X A env _) hA.mo (λC D it=>fc) (λD C hDC hD=>eJ hD) (by rfl) (by rfl) (by decide) (by decide)
  (Dp hX.lim (vb hA.mo (eg hX.g_etb_ (ad (ab (.bytes b) (ak ⟨rfl,?_,Dh hX⟩))))) λC=>
   dH (λ_=>True) (λ_=>true) (λV=>match V with|.bool x=>.int (if x then 1 else 0)|V=>V) (by exact rfl) ((bits b).map AV.bool) _ [] (λV hV m _=>?_) (by simpa using hl) trivial λm' _=>?_))))))
 ·obtain⟨_,_,F'⟩:=hX.f_etb_;exact F'.keep
 ·obtain⟨x,hx,rfl⟩:=aP.mp hV
  refine aq ⟨rfl,rfl,rfl,trivial,λ_=>?_⟩
  exact au (eg hX.g_int (ad (ab (.bool x) (ak ⟨trivial,zY ⟨rfl,rfl⟩⟩))))
 ·have e:((bits b).map AV.bool).filter (λ_=>true)=(bits b).map AV.bool:=by simp
  rw[e,cH,cC]
  have e2:(List.map ((λV=>match V with|AV.bool x=>AV.int (if x then 1 else 0)|V=>V) ∘ AV.bool) (bits b))=((bits b).map λx=>if x then (1:Int) else 0).map AV.int:=by rw[cC];rfl
  have e3:(((bits b).map λx=>if x then (1:Int) else 0).map λn=>n.toNat.toUInt8)=aA b:=by
   unfold aA;rw[cC];apply j6;intro x _;cases x<;>rfl
  rw[←e3] at h
  rw[e2]
  refine ak ⟨trivial,qj hA.handled (λn hn=>?_) (by simpa using hl) h⟩
  obtain⟨x,_,rfl⟩:=aP.mp hn
  cases x<;>decide
end
section
variable {X:Cx} {k:Nat} {σ:St}
theorem CH(I:Itr X k none (.ref it) Dep It)(hS:Pb.a S):
  ∀(ns:List Int) A own g s (tot:Int) tA c,Room A (k+1)→Go X Pb g₀ σ₀ s₀ g σ s→own.Le s₀ Pb→¬own.a S→It own (ns.map .int) g σ s→Free X g σ S→s.heap.get? S=some {cls:=.type "list",dict:=none,data:=.seq #[.int tot tA] c,slots:=#[]}→
   (∀n∈ns,0≤n∧n≤1000000)→0≤tot→tot+1000000 * ns.length≤1000000000000→
   codeAny (model P0 X.w) A (.builtin "sum.loop" ⟨[.ref it,.ref S,rawInt 0,rawInt 0],[]⟩) (λr s'=>∃t',r=.ok (.ret (.int (tot+ns.sum) t'))∧∃g',Go X Pb g₀ σ₀ s₀ g' σ s') s:=by
 intro ns
 induction ns with
 |nil=>
  intro A own g s tot tA c hA G ho hoS hit hf hS' hr h0 hz
  refine g9 F.entry_sum_loop ?_
  rw[gY un _]
  show wpAny _ A.in1 (seqItems? (.ref S)>>= _) _ _ s
  refine ac (eA hS' rfl ?_)
  show wpAny _ A.in1 (tryCatch (pyNext (.ref it)) _>>= _) _ _ s
  refine ac (wpAny_tryCatch (aj (I.stop hA.in1 G.sat hit) (λr s₁ ⟨hr,g',G'⟩=>?_) λ_ _ x=>x.elim))
  subst hr
  exact ao ⟨tA,by simp,g',G.comp G' ho⟩
 |cons n ns ih=>
  intro A own g s tot tA c hA G ho hoS hit hf hS' hr h0 hz
  refine g9 F.entry_sum_loop ?_
  rw[gY un _]
  show wpAny _ A.in1 (seqItems? (.ref S)>>= _) _ _ s
  refine ac (eA hS' rfl ?_)
  show wpAny _ A.in1 (tryCatch (pyNext (.ref it)) _>>= _) _ _ s
  refine ac (wpAny_tryCatch (aj (I.next hA.in1 G.sat hit) (λr s₁ ⟨v,hr',h₁⟩=>?_) λ_ _ x=>x.elim))
  subst hr'
  obtain⟨n0,n1⟩:=hr n bj
  have hrest:∀n∈ns,0≤n∧n≤1000000:=λn hn=>hr n (aR _ hn)
  have hlen:(1000000:Int) * (ns.length+1:Nat)=1000000 * ns.length+1000000:=by push_cast;omega
  rw[bc,hlen] at hz
  have hc:((decide (-(2 ^ 63)≤n)&&decide (n<2 ^ 63))&&(decide (-(2 ^ 63)≤tot+n)&&decide (tot+n<2 ^ 63)))=true:=by
   simp only[fq,g6]
   have:(0:Int)≤1000000 * ns.length:=by omega
   omega
  show wpAny _ A.in1 (nJ none (.ref it) v>>= λ_=>_) _ _ s₁
  refine ac (aj h₁ (λ_ s₂ ⟨g₂,own',hl',G',rv,hit'⟩=>?_) λ_ _ x=>x.elim)
  unfold Rep at rv
  obtain⟨t,rfl⟩:=rv
  have hS₂:s₂.heap.get? S=some {cls:=.type "list",dict:=none,data:=.seq #[.int tot tA] c,slots:=#[]}:=by
   rcases G'.run.keep S _ hS' hf.2.1 hf.2.2 hoS with q|⟨q,_⟩
   ·exact q
   ·obtain⟨_,_,q⟩:=q;cases q
  have hf₂:Free X g₂ σ S:=hf.go G' hS' hoS
  show wpAny _ A.in1 (if (_:Bool)=true then (mkInt (tot+n)>>= _) else _) _ _ _
  split
  ·refine ac (wpAny_mkInt ?_)
   show wpAny _ A.in1 (updateSeq S (λ_=>#[.int (tot+n) s₂.toks])>>= _) _ _ _
   refine ac ?_
   have ho':own'.Le s₀ Pb:=hl'.back' G.run ho
   have hoS':¬own'.a S:=λq=>hoS (hl'.1 S _ hS' q)
   have Gt:Go X am g₂ σ s₂ g₂ σ {s₂ with toks:=s₂.toks+1}:=Go.keeps G'.sat λ_ _ e=>e
   have G₂:Go X (a9 S) g₂ σ {s₂ with toks:=s₂.toks+1} g₂ σ {s₂ with toks:=s₂.toks+1,heap:=s₂.heap.update S (Obj.mapSeq λ_=>#[.int (tot+n) s₂.toks])}:=Go.sameBut Gt.sat (dD ..) hf₂ rfl
   have hap:own'.Apart (a9 S):=⟨λb h1 h2=>hoS' (by rw[←show b=S from h2];exact h1),λ_ _ h=>h.elim⟩
   have hSP:(a9 S).Le s₀ Pb:=⟨λb o e h=>by rw[show b=S from h];exact hS,λ_ _ h=>h.elim⟩
   refine iU hS₂ rfl (ao ⟨fy un _,cI (ih A own' g₂ _ (tot+n) s₂.toks _ hA (((G.comp G' ho).trans Gt.any).comp G₂ hSP) ho' hoS' (I.keep (I.keep hit' Gt Pv.Apart.noP (I.dep σ)) G₂ hap (I.dep σ)) hf₂ (fk _ hS₂ rfl) hrest (by omega) (by omega)) λr s' ⟨t',h1,h2⟩=>⟨t',by rw[h1,List.sum_cons,Int.add_assoc],h2⟩⟩)
  ·rename_i hneg
   exact absurd hc hneg
theorem Aw{a:Addr}{gi:Nat}{own:Pv}{ns:List Int}{g₀ g:View}{s₀ s:Shared}{A:Around}{Q:AV→St→Prop}(hlim:∀h:Heap,X.B.In h→h.NoLimit)(hA:Room A (k+4))(G:Go X am g₀ σ s₀ g σ s)(hgen:eI X k σ a gi own (ns.map .int) g σ s)(ho:own.Le s₀ am)
  (hr:∀n∈ns,0≤n∧n≤1000000)(hz:ns.length≤65536)(h:Q (.int ns.sum) σ):wpAny (model P0 X.w) A (call (.builtin "sum") [.ref a]) (Post X am g₀ σ s₀ Q) ai s:=by
 refine call_function_tree F.kind_sum F.plain_sum F.entry_sum (F.args_sum1 _) ?_
 unfold Builtin.«sum»
 simp only[bc,gu]
 rw[ae (by decide)]
 refine ac (bw (show Builtin.Builtins.bindParams "sum" ["start"] 0 {}=pure [none] from rfl) ?_)
 refine ac (um hgen.2.1 ?_)
 refine ac (wpAny_mkInt ?_)
 refine ac (ao ?_)
 simp only[mW,List.forIn_nil]
 refine ac (ac (ac (fw (T:="int") (b:=false) (kx _ _ _) PySem.sub_int_str ?_)))
 simp only[eM,dr]
 refine ao (ac (ac (fw (T:="int") (b:=false) (kx _ _ _) PySem.sub_int_bytes ?_)))
 simp only[eM,dr]
 refine ao (ac (ac (fw (T:="int") (b:=false) (kx _ _ _) PySem.sub_int_bytearray ?_)))
 simp only[eM,dr]
 refine ao (ao ?_)
 refine ac (di ?_)
 have I:Itr X (k+2) none (.ref a) (λσ σ'=>σ'=σ) (eI X k σ a gi):=n9 hlim
 have kp:∀b o,s.heap.get? b=some o→(s.heap.push {cls:=.type "list",data:=.seq #[.int 0 s.toks]}).get? b=some o:=λb o e=>aJ _ e
 have Gk:Go X am g σ s g σ {s with heap:=s.heap.push {cls:=.type "list",data:=.seq #[.int 0 s.toks]},toks:=s.toks+1}:=Go.keeps G.sat kp
 have hS:∀o,s.heap.get? s.heap.objs.size=some o→False:=λo e=>bt _ (aY e)
 have hS₀:∀o,s₀.heap.get? s.heap.objs.size=some o→False:=λo e=>let ⟨o',e'⟩:=G.dom e id;hS o' e'
 have hoS:¬own.a s.heap.objs.size:=λq=>let ⟨o,e⟩:=(I.ex hgen).1 _ q;hS o e
 have hz':(1000000:Int) * ns.length≤1000000 * 65536:=by omega
 refine ao ⟨fy un _,cI (CH (k:=k+2) (Pb:=a9 s.heap.objs.size) I rfl ns A own g _ 0 s.toks 0 hA.mo (G.trans Gk).any ⟨λb o e q=>(ho.1 b o e q).elim,λi hi q=>(ho.2 i hi q).elim⟩ hoS (I.keep hgen Gk Pv.Apart.noP rfl) (bC G.sat (aG _)) (aX _ rfl) hr (Int.le_refl _) (by omega)) λr s' ⟨t',h1,g',h2⟩=>?_⟩
 subst h1
 exact Post.to (h2.weaken ⟨λb o e q=>hS₀ o (by rw[←show b=s.heap.objs.size from q];exact e),λ_ _ q=>q⟩) ⟨.int ns.sum,by rw[Int.zero_add];exact .int,h⟩
end
open AutoSeq1 (wpAny_loadPart')
section
variable {prog:Program} {w:World} {A:Around} {E:Value→Shared→Prop} {s:Shared}
theorem zO{it l:Addr}{i:Nat}{items:Array Value}{x:Value}{Q:Value→Shared→Prop}(hit:s.heap.IsRevIter it l (i:Int))(hl:s.heap.IsList l items)(hx:items[i]?=some x)
  (hQ:∀h',h'.IsRevIter it l ((i:Int) - 1)→Heap.SameBut it s.heap h'→Q x {s with heap:=h'}):wpAny (model prog w) A (Builtin.SmallTypes.nextOf (.ref it)) Q E s:=by
 obtain⟨o,ho,hc,hd⟩:=id hit
 obtain⟨ol,hol,_,nl,hdl⟩:=hl
 unfold Builtin.SmallTypes.nextOf
 refine ac (fK (name:=Str.ofString "__next__") hit.typeIs ut
  (dE ut hit.typeIs F.entry_lri_next ?_ (F.args_lri_next_1 _)))
 unfold Builtin.«list_reverseiterator.__next__»
 refine ac (bw (a:=(Value.ref it,[])) rfl ?_)
 try dsimp only
 refine ac (bM ho hd (x:=rawInt (i:Int)) rfl ?_)
 show wpAny _ _ (if (i:Int)<0 then _ else _) _ _ s
 rw[ae (by omega)]
 refine ac (m:=field (.ref it) 0) (bM ho hd (x:=.ref l) rfl ?_)
 refine ac (m:=seqItems? (.ref l)) (eA hol hdl ?_)
 simp only[eO,hx]
 refine ac (qt ho hd (by simp) ?_)
 have z:Heap.IsRevIter (s.heap.update it (Obj.mapFields (·.setIfInBounds 1 (rawInt ((i:Int) - 1))))) it l ((i:Int) - 1):=
  ⟨_,fk _ ho (t6 (mP hd _)),(Obj.cls_mapFields ..).trans hc,by rw[mP hd];simp⟩
 first
 |exact ao ⟨x,rfl,ao (hQ _ z (dD ..))⟩
 |exact ac (ao (ao ⟨x,rfl,ao (hQ _ z (dD ..))⟩))
theorem z9(hh:A.handled=none)(hit:s.heap.IsRevIter it l (-1))
  (hE:∀h' e,Heap.ExtBut it s.heap h'→(∃o,h'.get? e=some o∧o.cls=.type "StopIteration")→E (.ref e) {s with heap:=h'}):wpAny (model prog w) A (Builtin.SmallTypes.nextOf (.ref it)) Q E s:=by
 obtain⟨o,ho,hc,hd⟩:=id hit
 unfold Builtin.SmallTypes.nextOf
 refine ac (fK (name:=Str.ofString "__next__") hit.typeIs ut
  (dE ut hit.typeIs F.entry_lri_next ?_ (F.args_lri_next_1 _)))
 unfold Builtin.«list_reverseiterator.__next__»
 refine ac (bw (a:=(Value.ref it,[])) rfl ?_)
 try dsimp only
 refine ac (bM ho hd (x:=rawInt (-1)) rfl ?_)
 show wpAny _ _ (if (-1:Int)<0 then _ else _) _ _ s
 rw[ah (by decide)]
 refine ac (c5 ?_)
 first
 |show wpAny _ _ (newExc (.type "StopIteration") []>>= _) _ _ _
 |(refine ac ?_;show wpAny _ _ (newExc (.type "StopIteration") []>>= _) _ _ _)
 refine ac ?_
 simp only[newExc,newTuple]
 refine ac (di ?_ (by size_fits))
 refine ac (m:=firstArgMember _ _) (bw (a:=Value.none) (by first|rfl|(simp only[firstArgMember];rfl)) ?_)
 refine di ?_ (by size_fits)
 simp only[raiseNew]
 refine ac (qz ?_)
 first|rw[show A.in1.handled=none from hh]|rw[hh]
 refine ac (ao (qH ?_))
 exact hE _ _ (((Heap.ExtBut.refl _ _).push _).push _) ⟨_,aX _ rfl,rfl⟩
end
theorem xW{prog:Program}{w:World}{A:Around}(hh:A.handled=none)(it l:Addr)(hne:l≠it)(items:Array Value):
  Draws prog w A it [it,l] items.size (λi v=>items[items.size - 1 - i]?=some v) (λi h=>i≤items.size∧h.IsRevIter it l ((items.size:Int) - 1 - (i:Int))∧h.IsList l items) where
 live:=λ_ _ st=>let ⟨o,ho,_⟩:=st.2.1;⟨o,ho⟩
 frame:=λ_ _ _ x hk=>⟨x.1,x.2.1.at λo e=>hk it (by simp) o e,x.2.2.at λo e=>hk l (by simp) o e⟩
 item:=λi s Q E hi x hQ=>by
  have e:(items.size:Int) - 1 - (i:Int)=((items.size - 1 - i:Nat):Int):=by omega
  have hit:=x.2.1
  rw[e] at hit
  have hx:items[items.size - 1 - i]?=some (items[items.size - 1 - i]'(by omega)):=Array.getElem?_eq_getElem (by omega)
  refine zO hit x.2.2 hx λh' hit' hs'=>?_
  have e2:((items.size - 1 - i:Nat):Int) - 1=(items.size:Int) - 1 - ((i+1:Nat):Int):=by omega
  rw[e2] at hit'
  exact hQ _ h' s.toks hx ⟨hi,hit',x.2.2.at λo eo=>(hs'.2 l hne).trans eo⟩ hs'
 done:=λs Q E x hE=>by
  have e:(items.size:Int) - 1 - (items.size:Int)=-1:=by omega
  have hit:=x.2.1
  rw[e] at hit
  exact z9 hh hit hE
theorem zD(it l:Addr)(i:Int):
  Meets (Builtin.«enumerate.__new__» ⟨[.type "enumerate",.ref it],[]⟩) (λ_ R s=>s.heap.get? it=some (revObj l i)∧
   R (.ok (.ret (.ref s.heap.objs.size))) {s with heap:=s.heap.push {cls:=.type "enumerate",data:=.fields #[.none,.bool false,.ref it,rawInt 0,.none,.none]}}):=
 .of_wp λprog w A R s h=>by
  obtain⟨hp,g,d,tk,os⟩:=s;obtain⟨hl,h⟩:=h
  have hsub:=sub_enumerate
  have hL:Heap.IsRevIter (Shared.heap ⟨hp,g,d,tk,os⟩) it l i:=⟨_,hl,rfl,rfl⟩
  wp_walk using wpAny_loadPart' hl
  refine wpAny_stack_any λst=>ao ?_
  split
  ·rename_i c _ _ _ _ _
   cases(c==Value.type "enumerate")
   ·wp_walk using wpAny_loadPart' hl,wL hL
    exact⟨_,rfl,h⟩
   ·wp_walk using wpAny_loadPart' hl,wL hL
    exact⟨_,rfl,h⟩
  ·wp_walk using wpAny_loadPart' hl,wL hL
   exact⟨_,rfl,h⟩
def dZ(i:Nat):List AV→List AV
 |[]=>[]
 |V::r=>.tup [.int (i:Int),V]::dZ (i+1) r
def tQ(a b:Addr):Pv:=⟨λx=>x=a∨x=b,λ_=>False⟩
def yX(X:Cx)(e it a:Addr)(vs:List Value)(L:List AV):f5:=λown l g σ s=>own=tQ e it∧e≠it∧a≠it∧Free X g σ e∧Free X g σ it∧SeqAt g "list" a vs∧RepL g L vs∧
 ∃(i:Nat) (old:Value),IsEnum s.heap e it i old∧i≤L.length∧s.heap.IsRevIter it a ((L.length:Int) - 1 - (i:Int))∧l=dZ i (L.reverse.drop i)
theorem Go.extP(S:Sat X g σ s)(hb:∀a,P.a a→Free X g σ a)(k:∀b o,¬P.a b→s.heap.get? b=some o→h'.get? b=some o):Go X P g σ s g σ {s with heap:=h',toks:=tk}:=by
 have ne:∀a o,g a=some o→¬P.a a:=λa o e q=>by rw[(hb a q).1] at e;cases e
 have nt:∀a t,σ a=some t→¬P.a a:=λa t e q=>by rw[(hb a q).2.1] at e;cases e
 have np:∀p∈X.tabs,¬P.a p.2:=λp hp q=>(hb _ q).2.2 p hp rfl
 have tkp:∀{a t},TrkAt X.w g s.heap a t→¬P.a a→TrkAt X.w g h' a t:=λ{a t} x hab=>by
  cases t with
  |dict l=>obtain⟨kvs,d,r⟩:=x;exact⟨kvs,d.at λo e=>k a o hab e,r⟩
  |ns l=>obtain⟨m,d,r⟩:=x;exact⟨m,d.at λo e=>k a o hab e,r⟩
  |obj o=>exact k a o hab x
 refine⟨⟨S.le,λa o e=>k a o (ne a o e) (S.in_ a o e),λa t e=>⟨(S.trk a t e).1,tkp (S.trk a t e).2 (nt a t e)⟩,λp hp=>?_⟩,.refl g,λ_ _ _ _=>rfl,λ_ _ _ _=>eD,rfl,λa o e hp=>⟨o,k a o hp e⟩,λa o e _ _ hp=>.inl (k a o hp e),λp hp o vs e hd=>⟨#[],?_⟩,aG _,λi x e _=>e,λi x e=>.inl e⟩
 ·obtain⟨e1,e2,e3,ps,e4⟩:=S.tab p hp
  refine⟨e1,e2,e3,ps,jj e4 (λo=>k _ o ?_) (λo=>k _ o (np p hp))⟩
  cases q:g p.1 with
  |none=>exact absurd q e3
  |some o=>exact ne _ o q
 ·rw[k _ _ (np p hp) e];congr 1;obtain⟨c,d,dt,sl⟩:=o;subst hd;simp
theorem CU{x1}:Itr X 2 (some (.Tuple ts x1 pos)) (.ref e) (λ_ _=>True) (yX X e it a vs L):=by
 refine⟨λ{A own V l g σ s} hA S ⟨ho,hei,hai,hfe,hfi,hq,rl,i,old,he,hi,hit,hl⟩=>?_,λ{A own g σ s} hA S ⟨ho,hei,hai,hfe,hfi,hq,rl,i,old,he,hi,hit,hl⟩=>?_,λ_=>trivial,
  λ{own l g σ s} ⟨ho,hei,hai,hfe,hfi,hq,rl,i,old,he,hi,hit,hl⟩=>?_,λ{A own l g σ s Q} hA S ⟨ho,hei,hai,hfe,hfi,hq,rl,i,old,he,hi,hit,hl⟩ q=>ug he q,
  λ{own l P g σ s g' σ' s'} ⟨ho,hei,hai,hfe,hfi,hq,rl,i,old,he,hi,hit,hl⟩ G hap _=>?_⟩
 ·have hlen:=rl.length
  cases hd:L.reverse.drop i with
  |nil=>rw[hd] at hl;cases hl
  |cons W rest=>
   rw[hd] at hl
   obtain⟨e1,e2⟩:=jc hd
   cases hl
   have hlt:i<L.length:=by have:=(wx.mp e1).1;simpa using this
   have hea:e≠a:=λq=>by obtain⟨o,n,ea,_⟩:=hq;rw[←q,hfe.1] at ea;cases ea
   have hL:=c6 hq S.in_
   have hsz:vs.toArray.size=L.length:=by simp[hlen]
   have D:=xW (prog:=P0) (w:=X.w) (A:=A.in1) hA.handled it a hai vs.toArray
   have hW:L[L.length - 1 - i]?=some W:=by rw[List.getElem?_reverse hlt] at e1;exact e1
   obtain⟨v,hv,rv⟩:=rl.get hW
   refine wpAny_pyNext_enum_itemD D he ⟨by rw[hsz];exact hi,by rw[hsz];exact hit,hL⟩ (by rw[hsz];exact hlt) hei (by simp[hei,hea]) λx h' tk hPx hout hst hT hsz' hk=>⟨_,rfl,?_⟩
   refine wpAny_letOwnedTupleGo_enum (elts:=ts) (x1:=x1) (pos:=pos) hout λh'' he'' hs''=>?_
   have hx:x=v:=by
    rw[hsz] at hPx
    have:vs[L.length - 1 - i]?=some x:=by simpa using hPx
    rw[hv] at this;cases this;rfl
   subst hx
   have hTe:s.heap.objs.size≠e:=λq=>by have:=aY he;rw[←q] at this;exact bt _ this
   have hite:it≠e:=λq=>hei q.symm
   have G₁:Go X (tQ e it) g σ s g σ {s with heap:=h'',toks:=tk+1}:=Go.extP S (λb q=>by rcases q with rfl|rfl;exact hfe;exact hfi) λb o hb eb=>(hs''.2 b (λq=>hb (.inl q))).trans (hk b o (λq=>hb (.inl q)) (λq=>hb (.inr q)) eb)
   have hT'':h''.get? s.heap.objs.size=some {cls:=.type "tuple",data:=.seq #[.int i tk,x]}:=(hs''.2 _ hTe).trans hT
   have hfT:Free X g σ s.heap.objs.size:=bC S (aG _)
   have G₂:=Go.freeze G₁.sat hfT hT''
   have hnT:∀o,s.heap.get? s.heap.objs.size=some o→False:=λo q=>bt _ (aY q)
   have hle:=View.le_add (g:=g) (a:=s.heap.objs.size) {cls:=.type "tuple",data:=.seq #[.int i tk,x]} hfT.1
   have hfree:∀b,b≠s.heap.objs.size→Free X g σ b→Free X (g.add s.heap.objs.size {cls:=.type "tuple",data:=.seq #[.int i tk,x]}) σ b:=λb hb hf=>⟨by unfold View.add;rw[ae hb];exact hf.1,hf.2⟩
   have hTi:it≠s.heap.objs.size:=λq=>by obtain⟨o,ho',_⟩:=hit;exact hnT o (q▸ho')
   refine⟨_,tQ e it,ho▸Pv.Le.refl _ _,by rw[ho];exact G₁.comp G₂ ⟨λb o eb q=>(hnT o (by rw[←show b=s.heap.objs.size from q];exact eb)).elim,λ_ _ q=>q⟩,?_,rfl,hei,hai,hfree e (λq=>hTe q.symm) hfe,hfree it hTi hfi,hq.le hle,rl.le hle,i+1,x,?_,hlt,?_,by rw[e2]⟩
   ·unfold Rep
    refine⟨_,[.int i tk,x],rfl,⟨_,_,by unfold View.add;rw[ah rfl],rfl,rfl⟩,.cons .int (.cons (rv.le hle) .nil)⟩
   ·have:((i+1:Nat):Int)=(i:Int)+1:=by push_cast;rfl
    rw[this];exact he''
   ·have z:=hst.2.1
    rw[hsz] at z
    exact z.at λo q=>(hs''.2 it hite).trans q
 ·have hlen:=rl.length
  cases hd:L.reverse.drop i with
  |cons W rest=>rw[hd] at hl;cases hl
  |nil=>
   have hi':i=L.length:=by
    have:=List.drop_eq_nil_iff.mp hd
    simp at this;omega
   subst hi'
   have hL:=c6 hq S.in_
   have hsz:vs.toArray.size=L.length:=by simp[hlen]
   have D:=xW (prog:=P0) (w:=X.w) (A:=A.in1) hA.handled it a hai vs.toArray
   refine wpAny_pyNext_enum_endD D he (by rw[hsz];exact⟨aG _,hit,hL⟩) λh' hx=>⟨rfl,g,?_⟩
   rw[ho]
   exact(Go.extP (tk:=s.toks) S (λb q=>by rcases q with rfl|rfl;exact hfe;exact hfi) λb o hb eb=>hx b o (λq=>hb (.inr q)) eb)
 ·subst ho
  obtain⟨o,hoi,_⟩:=hit
  exact⟨λb q=>by rcases q with rfl|rfl;exact⟨_,he⟩;exact⟨o,hoi⟩,λ_ q=>q.elim⟩
 ·subst ho
  have hpe:¬P.a e:=hap.1 e (.inl rfl)
  have hpi:¬P.a it:=hap.1 it (.inr rfl)
  obtain⟨o,hoi,hco,hdo⟩:=id hit
  have ke:s'.heap.get? e=s.heap.get? e:=by
   rcases G.run.keep e _ he hfe.2.1 hfe.2.2 hpe with q|⟨q,_⟩
   ·rw[q];exact he.symm
   ·obtain⟨_,_,q⟩:=q;cases q
  have ki:s'.heap.get? it=some o:=by
   rcases G.run.keep it _ hoi hfi.2.1 hfi.2.2 hpi with q|⟨q,_⟩
   ·exact q
   ·obtain⟨_,_,q⟩:=q;rw[hdo] at q;cases q
  exact⟨rfl,hei,hai,hfe.go G he hpe,hfi.go G hoi hpi,hq.le G.le,rl.le G.le,i,old,ke.trans he,hi,⟨o,ki,hco,hdo⟩,hl⟩
theorem zG(h1:s.heap.get? it=some (revObj l i))
  (h:Q (.ref s.heap.objs.size) {s with heap:=s.heap.push {cls:=.type "enumerate",data:=.fields #[.none,.bool false,.ref it,rawInt 0,.none,.none]}}):wpAny (model prog w) A (call (.type "enumerate") [.ref it]) Q E s:=by
 refine callType_new F.called_enumerate (by decide) (F.typeCall_enumerate_1 _) (F.newCall_enumerate_1 _) (λobj=>qe obj _) F.entry_enumerate_new (zD it l i) ⟨h1,?_⟩
 exact⟨⟨_,aX _ rfl,rfl⟩,h⟩
theorem At{X:Cx}{A:Around}{E:Value→Shared→Prop}{k:Nat}{env:Env}{m:Mp}{σ:St}{ts:List Expr}{x1}{tp:Pos}{f₁ f₂ e:Expr}{p₁ p₂:Pos}{L:List AV}{Q:(St→St→Prop)→List AV→St→Prop}
  (hf₁:Ev X A E env m f₁ σ λF σ₁=>F=.typ "enumerate"∧σ₁=σ)(hf₂:Ev X A E env m f₂ σ λF σ₁=>F=.typ "reversed"∧σ₁=σ)(he:Ev X A E env m e σ λV σ₁=>V=.lst L∧σ₁=σ)(hq:Q (λ_ _=>True) (dZ 0 L.reverse) σ)
  (h1:eval (.Call f₁ [.Call f₂ [e] [] p₂] [] p₁) env=(do callWith p₁ (←eval f₁ env) [] (backTo p₁ (starEach [.Call f₂ [e] [] p₂] env)) (backToKw p₁ (keywordEach [] env))):=by rfl)
  (h2:eval (.Call f₂ [e] [] p₂) env=(do callWith p₂ (←eval f₂ env) [] (backTo p₂ (starEach [e] env)) (backToKw p₂ (keywordEach [] env))):=by rfl)
  (s1:starEach [.Call f₂ [e] [] p₂] env=(false,eval (.Call f₂ [e] [] p₂) env)::starEach [] env:=by rfl)(s2:starEach [e] env=(false,eval e env)::starEach [] env:=by rfl):
  fi X A E 2 env m (some (.Tuple ts x1 tp)) (.Call f₁ [.Call f₂ [e] [] p₂] [] p₁) σ Q:=λg s S F=>
 Call_ (aj (hf₁ g s S F) (λfv s₁ ⟨g₁,f,σ₁,G₁,r₁,e1,e2⟩=>by
  subst e1 e2
  refine ij (fvs:=[]) r₁ (kC ?_ s1) (by rw[s1];rfl)
  refine Call_ (aj (hf₂ g₁ s₁ G₁.sat (F.go G₁)) (λfv₂ s₂ ⟨g₂,f₂',σ₂,G₂,r₂,e1,e2⟩=>?_) i2) h2
  subst e1 e2
  have G₁₂:=G₁.trans G₂
  refine ij (fvs:=[]) r₂ (kC (aj (he g₂ s₂ G₂.sat (F.go G₁₂)) (λv s₃ ⟨g₃,V,σ₃,G₃,r₃,e1,e2⟩=>?_) i2) s2) (by rw[s2];rfl)
  subst e1 e2
  refine args_nil ⟨⟨g₃,_,G₃.sat,trivial⟩,?_⟩
  have hv₁:fv=.type "enumerate":=by unfold Rep at r₁;exact r₁
  have hv₂:fv₂=.type "reversed":=by unfold Rep at r₂;exact r₂
  subst hv₁ hv₂
  unfold Rep at r₃
  obtain⟨a,vs,rfl,hq',rl⟩:=r₃
  have G:=G₁₂.trans G₃
  refine call_reversed_list (c6 hq' G₃.sat.in_) (args_nil ⟨⟨g₃,_,G₃.sat.keeps (s':={s₃ with heap:=s₃.heap.push (revObj a ((vs.toArray.size:Int) - 1))}) (λb o e=>aJ _ e),trivial⟩,?_⟩)
  refine zG (aX _ rfl) ?_
  have he':IsEnum (((s₃.heap.push (revObj a ((vs.toArray.size:Int) - 1))).push {cls:=.type "enumerate",data:=.fields #[.none,.bool false,.ref s₃.heap.objs.size,rawInt 0,.none,.none]})) (s₃.heap.push (revObj a ((vs.toArray.size:Int) - 1))).objs.size s₃.heap.objs.size (0:Int) .none:=aX _ rfl
  refine ug he' ?_
  have Gk:Go X am g₃ σ₃ s₃ g₃ σ₃ {s₃ with heap:=(s₃.heap.push (revObj a ((vs.toArray.size:Int) - 1))).push {cls:=.type "enumerate",data:=.fields #[.none,.bool false,.ref s₃.heap.objs.size,rawInt 0,.none,.none]}}:=Go.keeps G₃.sat λb o e=>aJ _ (aJ _ e)
  have hsz:(s₃.heap.push (revObj a ((vs.toArray.size:Int) - 1))).objs.size=s₃.heap.objs.size+1:=dj ..
  have hold:∀b o,s.heap.get? b=some o→b<s₃.heap.objs.size:=λb o e=>let ⟨o',e'⟩:=G.dom e id;aY e'
  obtain⟨oa,na,hga,_⟩:=id hq'
  have hlta:=aY (G₃.sat.in_ a oa hga)
  refine⟨g₃,σ₃,_,yX X _ s₃.heap.objs.size a vs L,tQ _ s₃.heap.objs.size,_,G.trans Gk,⟨λb o eb q=>?_,λ_ _ q=>q⟩,CU,⟨rfl,?_,fz hlta,bC G₃.sat (by rw[hsz];exact eS _),bC G₃.sat (aG _),hq',rl,0,.none,he',qK _,?_,rfl⟩,hq⟩
  ·have:=hold b o eb
   rcases q with q|q
   ·rw[q,hsz] at this;exact bt _ (Nat.lt_of_succ_lt this)
   ·rw[q] at this;exact bt _ this
  ·rw[hsz];exact Nat.succ_ne_self _
  ·refine⟨_,aJ _ (aX _ rfl),rfl,?_⟩
   have:((vs.toArray.size:Int) - 1)=(L.length:Int) - 1 - ((0:Nat):Int):=by rw[cA,rl.length];simp
   rw[←this];rfl) i2) h1
theorem Go.grow(S:Sat X g σ s)(ht:(c,Pa)∈X.tabs)(hu:∀p∈X.tabs,p.2=Pa→p.1=c)(h0:f8 s.heap c Pa ps)
  (k:Heap.ExtBut Pa s.heap h')(h1:f8 h' c Pa (ps++more)):Go X P g σ s g σ {s with heap:=h',toks:=tk}:=by
 obtain⟨t1,t2,t3,_⟩:=S.tab _ ht
 have ne:∀a o,g a=some o→a≠Pa:=λa o e q=>by rw[q,t1] at e;cases e
 have nt:∀a t,σ a=some t→a≠Pa:=λa t e q=>by rw[q,t2] at e;cases e
 have tkp:∀{a t},TrkAt X.w g s.heap a t→a≠Pa→TrkAt X.w g h' a t:=λ{a t} x hab=>by
  cases t with
  |dict l=>obtain⟨kvs,d,r⟩:=x;exact⟨kvs,d.at λo e=>k a o hab e,r⟩
  |ns l=>obtain⟨m,d,r⟩:=x;exact⟨m,d.at λo e=>k a o hab e,r⟩
  |obj o=>exact k a o hab x
 refine⟨⟨S.le,λa o e=>k a o (ne a o e) (S.in_ a o e),λa t e=>⟨(S.trk a t e).1,tkp (S.trk a t e).2 (nt a t e)⟩,λp hp=>?_⟩,.refl g,λ_ _ _ _=>rfl,λ_ _ _ _=>eD,rfl,λa o e hp=>?_,λa o e _ hta hp=>.inl (k a o (λq=>hta _ ht q.symm) e),λp hp o vs e hd=>?_,aG _,λi x e _=>e,λi x e=>.inl e⟩
 ·obtain⟨e1,e2,e3,ps',e4⟩:=S.tab p hp
  by_cases q:p.2=Pa
  ·have q1:=hu p hp q
   exact⟨e1,e2,e3,ps++more,by rw[q,q1];exact h1⟩
  ·refine⟨e1,e2,e3,ps',jj e4 (λo=>k _ o ?_) (λo=>k _ o q)⟩
   cases z:g p.1 with
   |none=>exact absurd z e3
   |some o=>exact ne _ o z
 ·by_cases q:a=Pa
  ·subst q;exact⟨_,h1.2.2⟩
  ·exact⟨o,k a o q e⟩
 ·by_cases q:p.2=Pa
  ·rw[q] at e ⊢
   rw[h0.2.2] at e;cases e
   cases hd
   exact⟨more,h1.2.2⟩
  ·exact⟨#[],by rw[k _ _ q e];congr 1;obtain⟨c,d,dt,sl⟩:=o;subst hd;simp⟩
theorem Bm(S:Sat X g σ s)(hc:env.code=.ref c)(ht:(c,Pa)∈X.tabs)(hu:∀p∈X.tabs,p.2=Pa→p.1=c):
  wpAny (model P0 X.w) A (genexprCode env pos qual scope) (λ_ s'=>Go X am g σ s g σ s') ai s:=by
 obtain⟨t1,t2,t3,ps,h0⟩:=S.tab _ ht
 cases hn:codeAmong pos ps.toList with
 |some cv=>exact wpAny_genexprCode_hit hc h0.1 hn (.refl S)
 |none=>exact wpAny_genexprCodeX hc h0.1 h0.2 hn λc' h' tk hk _ _ hi _ htab _=>Go.grow S ht hu h0 hk ⟨hi,htab⟩
theorem Dy(hw:(Code.compLoop e depth it acc env).weight=1)(hu:(Code.compLoop e depth it acc env).cUnits=3):GC k (.compLoop e depth it acc env) []:=by
 refine⟨rfl,rfl,λA=>rfl,λA=>?_,λA=>?_⟩
 ·show A.depth+frameCount []+(Code.compLoop e depth it acc env).weight≤A.depth+1
  rw[hw];simp[frameCount]
 ·show A.units+unitsOf []+(Code.compLoop e depth it acc env).cUnits≤A.units+3
  rw[hu];simp[unitsOf]
theorem Ct(hw:(Code.compStart e depth it acc env).weight=1)(hu:(Code.compStart e depth it acc env).cUnits=3):GC k (.compStart e depth it acc env) []:=by
 refine⟨rfl,rfl,λA=>rfl,λA=>?_,λA=>?_⟩
 ·show A.depth+frameCount []+(Code.compStart e depth it acc env).weight≤A.depth+1
  rw[hw];simp[frameCount]
 ·show A.units+unitsOf []+(Code.compStart e depth it acc env).cUnits≤A.units+3
  rw[hu];simp[unitsOf]
theorem xS:compTurn (.GeneratorExp elt [⟨target,iter,[],0⟩] scope pos) 0 it .none env=
  (standAt iter.pos>>= λ_=>pyNext it>>= λr=>match r with
   |none=>pure (.done .next)
   |some v=>letOwnedTupleGo target it v>>= λ_=>assign target env v>>= λ_=>
    (eval elt env>>= λx=>standAt elt.pos>>= λ_=>yieldOut env x>>= λ_=>pure ())>>= λ_=>again (.compLoop (.GeneratorExp elt [⟨target,iter,[],0⟩] scope pos) 0 it .none env)):=by rfl
theorem Cm(elt:Expr)(gens:List Comprehension)(scope:Scope)(pos:Pos)(it acc:Value)(env:Env):denote table (.compLoop (.GeneratorExp elt gens scope pos) 0 it acc env)=(compTurn (.GeneratorExp elt gens scope pos) 0 it acc env).onRaise (leaving env):=by rfl
theorem A9(elt:Expr)(gens:List Comprehension)(scope:Scope)(pos:Pos)(it acc:Value)(env:Env):denote table (.compStart (.GeneratorExp elt gens scope pos) 0 it acc env)=(compStart (.GeneratorExp elt gens scope pos) 0 it acc env).onRaise (leaving env):=by rfl
section
variable {X:Cx} {k:Nat} {σ:St} {M:Mach X k σ} {N:Addr} {env:Env}
theorem BN(I:Itr X k (some target) it Dep It)(J:Mp→Prop)(f:AV→AV)
  (hqu:(Code.compLoop (.GeneratorExp elt [⟨target,iter,[],0⟩] scope pos) 0 it .none env).quiet=true)
  (hc:GC k (.compLoop (.GeneratorExp elt [⟨target,iter,[],0⟩] scope pos) 0 it .none env) [])(hco:env.scope.isCoroutine=false)
:∀(L:List AV),
  (∀V∈L,∀m,J m→∀A',Room A' k→As X A' ai (ax N env) env m target V σ λm₁ σ₁=>σ₁=σ∧J m₁∧Ev X A' ai env m₁ elt σ λW σ₂=>σ₂=σ∧W=f V)→∀A (m:Mp) own₀ g₀ s₀ own g s oi,Room A (k+1)→J m→
   YS X σ N env ⟨λ_=>False,λ_=>False⟩ (λ_ _=>True) m own₀ g₀ s₀ own g s→oi.Le s₀ own₀→oi.Apart own→It oi L g σ s→
   M.Z A (L.map f) own₀ g₀ s₀ (.compLoop (.GeneratorExp elt [⟨target,iter,[],0⟩] scope pos) 0 it .none env) (denote table (.compLoop (.GeneratorExp elt [⟨target,iter,[],0⟩] scope pos) 0 it .none env)) [] s:=by
 have hJ:eC X σ ⟨λ_=>False,λ_=>False⟩ (λ_ _=>True):=λ_ _ _=>trivial
 have hden:denote table (.compLoop (.GeneratorExp elt [⟨target,iter,[],0⟩] scope pos) 0 it .none env)=(compTurn (.GeneratorExp elt [⟨target,iter,[],0⟩] scope pos) 0 it .none env).onRaise (leaving env):=by
  exact Cm ..
 intro L
 induction L with
 |nil=>
  intro _ A m own₀ g₀ s₀ own g s oi hA hJm Y hle hap hit
  rw[hden,xS,iQ]
  refine Mach.bind (bL ?_)
  refine Mach.bind (aj (I.stop (hc.room hA) Y.go.sat hit) (λr s₁ ⟨hr,g',G⟩=>?_) i2)
  subst hr
  exact M.fin (Y.inner hJ G hap hle).go (.inl rfl)
 |cons V L ih=>
  intro hV A m own₀ g₀ s₀ own g s oi hA hJm Y hle hap hit
  rw[hden,xS,iQ]
  refine Mach.bind (bL ?_)
  refine Mach.bind (aj (I.next (hc.room hA) Y.go.sat hit) (λr s₁ ⟨v,hr,h₁⟩=>?_) i2)
  subst hr
  refine Mach.bind (aj h₁ (λ_ s₂ ⟨g₂,oi',hl',G,rv,hit'⟩=>?_) i2)
  have Y₂:=Y.inner hJ G hap hle
  have hap':=xC hap hl' Y.ex
  have hle':oi'.Le s₀ own₀:=hl'.back' Y.go.run hle
  refine Mach.bind (aj (hV V bj m hJm _ (hc.room hA) g₂ s₂ v Y₂.go.sat Y₂.frm rv) (λ_ s₃ ⟨g₃,m₃,σ₃,G₃,F₃,e₃,hJ₃,h₃⟩=>?_) i2)
  have e₃:=e₃.symm
  subst e₃
  have Y₃:=Y₂.step hJ G₃ F₃
  have hapP:oi'.Apart (ax N env):=⟨λa h1 h2=>hap'.1 a h1 (by rcases h2.2 with rfl|⟨x,hx⟩;exact Y.foL;exact Y.foC x a hx),λ_ _ z=>z.elim⟩
  have hit₃:=I.keep hit' G₃ hapP (I.dep _)
  have hy:∀v,yieldOut env v=yieldValue v:=λv=>by simp only[yieldOut,hco,eM,dr]
  simp only[hy]
  have hJ':eC X σ oi' (λg s=>It oi' L g σ s):=λ{P g g' s s'} G ha b=>I.keep b G ha (I.dep _)
  have Yb:YS X σ N env oi' (λg s=>It oi' L g σ s) m₃ own₀ g₀ s₀ (own.sup oi') g₃ s₃:=
   ⟨Y₃.go,⟨λa o e h=>by rcases h with h|h;exact Y₃.le.1 a o e h;exact hle'.1 a o e h,λi hi h=>by rcases h with h|h;exact Y₃.le.2 i hi h;exact hle'.2 i hi h⟩,
    ⟨λa h=>by rcases h with h|h;exact Y₃.ex.1 a h;exact(I.ex hit₃).1 a h,λi h=>by rcases h with h|h;exact Y₃.ex.2 i h;exact(I.ex hit₃).2 i h⟩,Y₃.frm,.inl Y₃.foL,λx c hc=>.inl (Y₃.foC x c hc),
    I.ex hit₃,hapP,⟨λa h=>.inr h,λi h=>.inr h⟩,hit₃⟩
  have hL':¬oi'.a env.locals:=λz=>hap'.1 _ z Y.foL
  have hC':∀x c,env.cells.lookup x=some c→¬oi'.a c:=λx c hc z=>hap'.1 c z (Y.foC x c hc)
  rw[el,el,eP,eP]
  refine M.wrap (aj (h₃ _ _ Yb.go.sat Yb.frm) (λv₄ s₄ ⟨g₄,W,σ₄,G₄,r₄,e₄,e₅⟩=>?_) i2)
  have e₄:=e₄.symm
  subst e₄
  subst e₅
  have Y₄:=Yb.step hJ' G₄.any (Yb.frm.go G₄)
  refine M.wrap (m:=standAt elt.pos) (H:=.raise) (gd:=id) (lv:=id) (bL ?_)
  refine M.yld hc.split hc.guard (M.ok0 _ _) Y₄.go Y₄.le Y₄.ex r₄ λP g'' s'' G'' hapw A' hA'=>?_
  have Y₅:=Y₄.woken hJ' G'' hapw
  refine M.again hqu ?_
  exact ih (λV hV'=>hV V (aR _ hV')) A' m₃ _ g'' s'' _ g'' s'' oi' hA' hJ₃ (Y₅.minus hL' hC' (λ_ z=>z.elim) (λ_ z=>z.elim) trivial) ⟨λa o e z=>.inr z,λi hi z=>.inr z⟩ ⟨λa z1 z2=>z2.2 z1,λi z1 z2=>z2.2 z1⟩ Y₅.jh
theorem Be(I:Itr X k (some target) it Dep It)(J:Mp→Prop)(f:AV→AV)
  (hqu:(Code.compLoop (.GeneratorExp elt [⟨target,iter,[],0⟩] scope pos) 0 it .none env).quiet=true)(hc:GC k (.compLoop (.GeneratorExp elt [⟨target,iter,[],0⟩] scope pos) 0 it .none env) [])
  (hc':GC k (.compStart (.GeneratorExp elt [⟨target,iter,[],0⟩] scope pos) 0 it .none env) [])(hco:env.scope.isCoroutine=false)(L:List AV)
  (hV:∀V∈L,∀m,J m→∀A',Room A' k→As X A' ai (ax N env) env m target V σ λm₁ σ₁=>σ₁=σ∧J m₁∧Ev X A' ai env m₁ elt σ λW σ₂=>σ₂=σ∧W=f V)(hA:Room A (k+1))(hJm:J m)
  (Y:YS X σ N env ⟨λ_=>False,λ_=>False⟩ (λ_ _=>True) m own₀ g₀ s₀ own g s)(hle:oi.Le s₀ own₀)(hap:oi.Apart own)(hit:It oi L g σ s):
  M.Z A (L.map f) own₀ g₀ s₀ (.compStart (.GeneratorExp elt [⟨target,iter,[],0⟩] scope pos) 0 it .none env) (denote table (.compStart (.GeneratorExp elt [⟨target,iter,[],0⟩] scope pos) 0 it .none env)) [] s:=by
 have loop:=BN (M:=M) (N:=N) (iter:=iter) (pos:=pos) I J f hqu hc hco L hV A m own₀ g₀ s₀ own g s oi hA hJm Y hle hap hit
 rw[A9]
 unfold compStart
 rw[iQ]
 refine Mach.bind (t:=ask) (wpAny_askSetting ?_)
 split
 ·exact M.again hqu loop
 ·have fin:∀{K:Fin→Sem Fin} {H:Value→Sem Fin} {gd:Bool→Bool} {lv:List Value→List Value},(∀c,K (.again c)=.pure (.again c))→M.Z A (L.map f) own₀ g₀ s₀ (.compStart (.GeneratorExp elt [⟨target,iter,[],0⟩] scope pos) 0 it .none env) ((pyIter it>>= λx=>PySem.again (.compLoop (.GeneratorExp elt [⟨target,iter,[],0⟩] scope pos) 0 x .none env)).wrap K H gd lv) [] s:=λ{K H gd lv} hK=>by
   refine Mach.bind (aj (I.self (Q:=λr s'=>r=it∧s'=s) (hc'.room hA) Y.go.sat hit ⟨rfl,rfl⟩) (λr s' ⟨e1,e2⟩=>?_) i2)
   subst e1
   subst e2
   show M.Z A (L.map f) own₀ g₀ s₀ _ (K (.again _)) [] s'
   rw[hK]
   exact M.again hqu loop
  refine Mach.bind (c5 ?_)
  exact Mach.bind (bL (fin λ_=>rfl))
end
theorem Pv.Apart.sup{P Q R:Pv}(x:P.Apart R)(y:Q.Apart R):(P.sup Q).Apart R:=⟨λa h1 h2=>h1.elim (λh=>x.1 a h h2) λh=>y.1 a h h2,λa h1 h2=>h1.elim (λh=>x.2 a h h2) λh=>y.2 a h h2⟩
theorem C4{X:Cx}{g:View}{σ:St}{s:Shared}{scope:Scope}{C bi:Addr}{code:Value}{env:Env}{m:Str→Option Value}(hk:scope.kind=.function)(hf:Free X g σ C)(hn:s.heap.Ns C m):Frm X (genEnv scope [] C code bi env) Mp.nil g σ s:=
 ⟨hk,hf,⟨m,hn,λx V h=>(by cases h)⟩,λx c h=>(by cases h),λx V h=>(by cases h),.nil,λx c h=>(by cases h),λx c _ _ h=>(by cases h)⟩
theorem Bn{X:Cx}(hX:Base X){A:Around}{E:Value→Shared→Prop}{env:Env}{m:Mp}{σ:St}{k:Nat}{elt target iter:Expr}{scope:Scope}{pos:Pos}{c Pa:Addr}(L:List AV)(J:Mp→Prop)(f:AV→AV)(hA:Room A k)
  (h:fi X A E k env m (some target) iter σ λDep l σ₂=>σ₂=σ∧l=L)(hJ:J Mp.nil)
  (hV:∀cenv N,cenv.scope=scope→cenv.globals=mainGlobals→cenv.builtins=builtinsNs→N≤cenv.locals→∀V∈L,∀m,J m→∀A',Room A' k→As X A' ai (ax N cenv) cenv m target V σ λm₁ σ₁=>σ₁=σ∧J m₁∧Ev X A' ai cenv m₁ elt σ λW σ₂=>σ₂=σ∧W=f V)
  (hc:env.code=.ref c)(ht:(c,Pa)∈X.tabs)(hg:env.globals=mainGlobals)
  (hclos:closureFor scope env=pure [])(hcell:∀y∈scope.names,y.2≠.cell)(h0:scope.names.lookup (".0":Str)=some NameKind.local)(hco:scope.isCoroutine=false:=by rfl)(hk:scope.kind=.function:=by rfl)(hs:∀x,genFold iter env x=pure x:=by intro _;rfl):
  jQ X A E k env m (.GeneratorExp elt [⟨target,iter,[],0⟩] scope pos) σ (L.map f):=λg s S F=>by
 have hroom:A.depth<recursionLimit:=by have:=hA.depth;omega
 refine wpAny_GeneratorExp_make hco hclos hcell h0 hk hroom (aj (h g s S F) (λv s₁ h₁=>aj h₁ (λit s₂ ⟨g₂,σ₂,Dep,It,own,l,G₂,ho,I,hit,e1,e2⟩=>⟨?_,?_⟩) i2) i2) hs
 ·exact hX.lim _ (G₂.sat.in_.le G₂.sat.le)
 subst e1
 subst e2
 refine aj (Bm G₂.sat hc ht λp hp e=>hX.tbu p hp _ ht e) (λcode s₃ G₃=>?_) λ_ _ x=>x.elim
 obtain⟨mm,bm,o,b1,b2,b3,b4,b5,b6,b7⟩:=hX.bi _ (G₃.sat.in_.le G₃.sat.le)
 rw[hg]
 refine wpAny_builtinsFor b1 b2 b3 b4 b5 b6 b7 λh' hn' hs'=>?_
 have hsz:h'.objs.size=s₃.heap.objs.size+1:=by rw[hs'.1,dj]
 have keep':∀b o,s₃.heap.get? b=some o→h'.get? b=some o:=λb o e=>hs'.extBut b o (fz (aY e)) (aJ _ e)
 generalize hob:({cls:=.type "generator",data:=.fields #[.int s₃.gens.size 0,.str "<genexpr>" (s₃.toks+1),.str (env.qual++"<genexpr>") (s₃.toks+1+1)]}:Obj)=ob
 have hobf:ob.isFreed=false:=by rw[←hob];rfl
 have kp:∀b o,s₃.heap.get? b=some o→(h'.push ob).get? b=some o:=λb o e=>aJ _ (keep' b o e)
 have G₄:∀{P:Pv} {gs:GenState} {tk:Nat},gs.bare=true→Go X P g₂ σ₂ s₃ g₂ σ₂ {s₃ with gens:=s₃.gens.push gs,toks:=tk,heap:=h'.push ob}:=λ{P gs tk} hb=>Go.keepsG G₃.sat kp rfl rfl hb
 have G:=G₂.trans G₃
 have hold:∀b o,s.heap.get? b=some o→b<s₃.heap.objs.size:=λb o e=>let ⟨o',e'⟩:=G.dom e id;aY e'
 have hown:∀b,own.a b→b<s₃.heap.objs.size:=λb hb=>let ⟨o,e⟩:=(I.ex hit).1 b hb;let ⟨o',e'⟩:=G₃.dom e id;aY e'
 have hownN:∀i,own.n i→i<s₃.gens.size:=λi hi=>bu ((I.ex hit).2 i hi) G₃.run.gsize
 have hfC:Free X g₂ σ₂ s₃.heap.objs.size:=bC G₃.sat (aG _)
 refine⟨h'.objs.size,s₃.gens.size,g₂,((a9 s₃.heap.objs.size).sup own).gen h'.objs.size s₃.gens.size,rfl,G.trans (G₄ rfl),⟨λb o e q=>?_,λi hi q=>?_⟩,rfl,⟨ob,.str "<genexpr>" (s₃.toks+1),.str (env.qual++"<genexpr>") (s₃.toks+1+1),aX _ hobf,by rw[←hob],by rw[←hob],by rw[←hob]⟩,bC G₃.sat (by rw[hsz];exact eS _),_,rfl,λq=>?_,λq=>?_,⟨λb q=>?_,λi q=>?_⟩,?_,?_⟩
 ·have:=hold b o e
  rcases q with (q|q)|q
  ·rw[show b=s₃.heap.objs.size from q] at this;exact bt _ this
  ·exact ho.1 b o e q
  ·rw[q,hsz] at this;exact bt _ (Nat.lt_of_succ_lt this)
 ·rcases q with (q|q)|q
  ·exact q
  ·exact ho.2 i hi q
  ·have:=G.run.gsize;rw[q] at hi;exact bt _ (bu hi this)
 ·rcases q with q|q
  ·rw[hsz] at q;exact Nat.succ_ne_self _ q
  ·have:=hown _ q;rw[hsz] at this;exact bt _ (Nat.lt_of_succ_lt this)
 ·rcases q with q|q
  ·exact q
  ·exact bt _ (hownN _ q)
 ·rcases q with q|q
  ·rw[show b=s₃.heap.objs.size from q]
   obtain⟨o,_,_,ho',_⟩:=hn'
   exact⟨o,aJ _ ho'⟩
  ·obtain⟨o,e⟩:=(I.ex hit).1 b q
   obtain⟨o',e'⟩:=G₃.dom e id
   exact⟨o',kp _ _ e'⟩
 ·rcases q with q|q
  ·exact q.elim
  ·show i<(s₃.gens.push _).size
   rw[j9];exact qh (hownN _ q)
 ·show s₃.gens.size<(s₃.gens.push _).size
  rw[j9];exact g7 _
 ·refine⟨.fresh _,_,_,_,Array.getElem?_push_size ..,rfl,.inl ⟨rfl,rfl,rfl⟩,λP g'' s'' G'' hap hpn A' hA'=>?_⟩
  have hpC:¬P.a s₃.heap.objs.size:=hap.1 _ (.inl rfl)
  have hpo:own.Apart P:=⟨λa h1 h2=>hap.1 a (.inr h1) h2,λi h1 h2=>hap.2 i (.inr h1) h2⟩
  have Fr:=C4 (X:=X) (s:={s₃ with gens:=s₃.gens.push (.fresh (.compStart (.GeneratorExp elt [⟨target,iter,[],0⟩] scope pos) 0 it .none (genEnv scope [] s₃.heap.objs.size code builtinsNs env))),toks:=s₃.toks+1+1+1,heap:=h'.push ob}) (bi:=builtinsNs) (code:=code) (env:=env) hk hfC (hn'.push _)
  have F₂:=Fr.goP G'' hpC (λx c h=>by cases h)
  have Gr:Go X ⟨λ_=>False,λi=>i=s₃.gens.size⟩ g'' σ₂ s'' g'' σ₂ (s''.setGen s₃.gens.size .running):=Go.setGen G''.sat rfl rfl
  have hit₂:=I.keep (I.keep (I.keep (I.keep hit G₃ Pv.Apart.noP (I.dep _)) (G₄ rfl) Pv.Apart.noP (I.dep _)) G'' hpo (I.dep _)) Gr ⟨λ_ _ z=>z,λi h1 h2=>bt _ (by rw[show i=s₃.gens.size from h2] at h1;exact hownN _ h1)⟩ (I.dep _)
  have F₃:Frm X (genEnv scope [] s₃.heap.objs.size code builtinsNs env) Mp.nil g'' σ₂ (s''.setGen s₃.gens.size .running):=F₂.heapEq rfl
  refine Be (M:=vK X k σ₂) (N:=s₃.heap.objs.size) (own:=a9 s₃.heap.objs.size) (env:=genEnv scope [] s₃.heap.objs.size code builtinsNs env) (own₀:=(a9 s₃.heap.objs.size).sup own) I J f (by rfl) (Dy (by rfl) (by rfl)) (Ct (by rfl) (by rfl)) hco l (hV _ _ rfl hg rfl (aG _)) hA' hJ
   ⟨.refl Gr.sat,⟨λa o e q=>.inl q,λ_ _ q=>q.elim⟩,⟨λa q=>?_,λ_ q=>q.elim⟩,F₃,rfl,λx c h=>(by cases h),⟨λ_ q=>q.elim,λ_ q=>q.elim⟩,⟨λ_ q=>q.elim,λ_ q=>q.elim⟩,⟨λ_ q=>q.elim,λ_ q=>q.elim⟩,trivial⟩ ⟨λa o e q=>.inr q,λi hi q=>.inr q⟩ ⟨λa h1 h2=>?_,λ_ _ q=>q⟩ hit₂
  ·rw[show a=s₃.heap.objs.size from q];exact F₃.atL
  ·have:=hown a h1;rw[show a=s₃.heap.objs.size from h2] at this;exact bt _ this
section
variable {X:Cx} {A:Around} {σ:St} {Q:AV→St→Prop}
theorem xk(hc:c≠0)(hp:Builtin.divisionGoesByPylong (b - a) c=false)(h:Q (.rng a b c) σ):cn X A ai (.typ "range") [.int a,.int b,.int c] σ Q:=λg s fv vs S r rl=>by
 unfold Rep at r;subst r
 unfold RepL at rl;obtain⟨v,us,rfl,r,rl⟩:=rl
 unfold RepL at rl;obtain⟨u,ws,rfl,r',rl⟩:=rl
 unfold RepL at rl;obtain⟨w,zs,rfl,r'',rl⟩:=rl
 unfold RepL at rl;subst rl
 unfold Rep at r r' r'';obtain⟨t,rfl⟩:=r;obtain⟨t',rfl⟩:=r';obtain⟨t'',rfl⟩:=r''
 refine call_range_3 hc ?_ (.inl hp)
 generalize hob:({cls:=.type "range",data:=.fields #[.int a t,.int b t',.int c t'']}:Obj)=ob
 have kp:∀b o,s.heap.get? b=some o→(s.heap.push ob).get? b=some o:=λb o e=>aJ _ e
 have G₁:Go X am g σ s g σ {s with heap:=s.heap.push ob}:=Go.keeps S kp
 have hf:=bC (a:=s.heap.objs.size) S (aG _)
 have G₂:=Go.freeze G₁.sat hf (aX _ (by rw[←hob];rfl))
 refine Post.to (G₁.comp G₂ ⟨λb o e q=>?_,λ_ _ q=>q⟩) ⟨.rng a b c,?_,h⟩
 ·rw[show b=s.heap.objs.size from q] at e;exact bt _ (aY e)
 ·unfold Rep
  exact⟨_,t,t',t'',rfl,by unfold View.add;rw[ah rfl,←hob]⟩
end
def de(b:List UInt8):List (List UInt8):=(List.range ((b.length+7) / 8)).map λj=>(b.drop (8 * j)).take 8
theorem uI(b:List UInt8):Builtin.Range.rangeSize 0 b.length 8=((b.length+7) / 8:Nat):=by
 unfold Builtin.Range.rangeSize
 split
 ·split<;>omega
 ·omega
theorem oF(h:-100000≤i)(h':i≤100000):Builtin.Range.rangeFitsLong i=true:=by
 unfold Builtin.Range.rangeFitsLong
 rw[fq,g6,g6]
 have:(2:Int) ^ 63=9223372036854775808:=by decide
 rw[this]
 constructor<;>omega
theorem xc(b:List UInt8)(hz:b.length≤4096):Builtin.Range.small 0 b.length 8=true:=by
 unfold Builtin.Range.small
 rw[uI,oF (by decide) (by decide),oF (i:=(b.length:Int)) (by omega) (by omega),oF (i:=8) (by decide) (by decide),oF (i:=(((b.length+7) / 8:Nat):Int)) (by omega) (by omega),ah (by decide),oF (i:=(b.length:Int)+(8 - 1)) (by omega) (by omega)]
 simp
theorem zo{b:List UInt8}{i:Nat}:bX (some (0+(i:Int) * 8)) (some (0+(i:Int) * 8+8)) b=(b.drop (8 * i)).take 8:=by
 have e:(0+(i:Int) * 8)=((8 * i:Nat):Int):=by omega
 have e2:((8 * i:Nat):Int)+8=((8 * i+8:Nat):Int):=by omega
 rw[e,e2,nL]
 congr 1;omega
section
variable {X:Cx} {σ:St} (hX:Base X)
include hX
theorem Di{b:List UInt8}{Q:AV→St→Prop}(hz:b.length≤4096)(h:Q (.lst ((de b).map λc=>.lst (ay c))) σ):CallOk X 3 (.ref 153) [.int 8,.bytes b] σ Q:=by
 obtain⟨code,pm,F⟩:=hX.f_part
 refine bG F ["size","items"] (bk ["size","items"] λvs hv=>?_) (by rfl) λA L hA=>?_
 ·match vs,hv with|[v,w],_=>rfl
 refine ag<|aZ<|fM (k:=2) (λD env=>T1 D env _) (λC env=>J1 X A env _) hA (λC D it=>fc) (λD C hDC hD=>eJ hD) (by rfl) (by rfl) (by decide) (by decide)
  <|c7<|au<|eg hX.g_range<|ad<|av<|ad<|au<|eg hX.g_len<|ad<|ab (.bytes b)<|ak ⟨trivial,gw (by omega)<|ad<|ab (.int 8)<|ak ⟨trivial,xk (by decide) (wC (by decide))<|rj (xc b hz) (uI b) λC=>
   dH (λm=>m "items"=some (.bytes b)∧m "size"=some (.int 8)) (λ_=>true) (λV=>match V with|.int i=>.lst (ay ((b.drop i.toNat).take 8))|V=>V) trivial _ _ [] (λV hV m hm=>?_) ?_ ⟨by rfl,by rfl⟩ λm' _=>?_⟩⟩
 ·obtain⟨i,hi,rfl⟩:=aP.mp hV
  have hi':=qw.mp hi
  refine aq ⟨rfl,rfl,rfl,⟨?_,?_⟩,λ_=>?_⟩
  ·rw[←hm.1];rfl
  ·rw[←hm.2];rfl
  refine au<|eg hX.g_list<|ad<|aC<|ap (V:=.bytes b) (by rw[←hm.1];rfl)<|bP (lower:=some _) (upper:=some _)<|ab (.int (0+i * 8)) ⟨_,rfl,aK<|ab (.int (0+i * 8))<|ap (V:=.int 8) (by rw[←hm.2];rfl)<|fN ⟨_,rfl,cr (by omega)<|ak ⟨trivial,zT hA ?_ ⟨rfl,?_⟩⟩⟩⟩
  ·rw[zo];have:=List.length_take_le 8 (b.drop (8 * i));omega
  ·rw[zo]
   show AV.lst _=AV.lst (ay ((b.drop (0+(i:Int) * 8).toNat).take 8))
   have:(0+(i:Int) * 8).toNat=8 * i:=by omega
   rw[this]
 ·simp[cw];omega
 ·have e:((cw 0 8 ((b.length+7) / 8)).filter λ_=>true)=cw 0 8 ((b.length+7) / 8):=by simp
  rw[e,cH]
  have e2:(cw 0 8 ((b.length+7) / 8)).map (λV=>match V with|AV.int i=>AV.lst (ay ((b.drop i.toNat).take 8))|V=>V)=(de b).map λc=>AV.lst (ay c):=by
   unfold cw de
   rw[cC,cC]
   apply j6
   intro i _
   show AV.lst (ay ((b.drop (0+(i:Int) * 8).toNat).take 8))=_
   have:(0+(i:Int) * 8).toNat=8 * i:=by omega
   rw[this];rfl
  rw[e2];exact h
omit hX in
theorem xM:∀{l:List AV} {i:Nat} {V:AV},V∈dZ i l→∃j W,V=.tup [.int ((j:Nat):Int),W]∧W∈l∧i≤j∧j<i+l.length
 |[],_,_,h=>by cases h
 |W::l,i,V,h=>by
  unfold dZ at h
  rcases bv.mp h with rfl|h
  ·exact⟨i,W,rfl,bj,aG _,by simp⟩
  ·obtain⟨j,W',e,hm,h1,h2⟩:=xM h
   exact⟨j,W',e,aR _ hm,by omega,by rw[bc];omega⟩
omit hX in
theorem vB{A:Around}{E:Value→Shared→Prop}{Q:AV→St→Prop}{e:Nat}(he:e≤7)(h:Q (.int (2 ^ e)) σ):bh X A E (binaryOp .Pow) (.int 2) (.int e) σ Q:=λg s v u S r r'=>by
 unfold Rep at r r';obtain⟨t,rfl⟩:=r;obtain⟨t',rfl⟩:=r'
 cases e with
 |zero=>exact AutoIntOps.pow_0 (by decide) (by decide) (Post.tok S .int h)
 |succ e=>
  refine AutoIntOps.pow_4 (by omega) (by simp;omega) (by decide) (by decide) ?_ (Post.tok S .int ?_)
  ·unfold Builtin.Int.intTooBig Builtin.Int.intBits
   have:bitsLine>1000:=by decide
   have e2:((if ((2:Int)==0)=true then 0 else (2:Int).natAbs.log2+1:Nat):Int)=2:=by decide
   rw[e2,g6];omega
  ·have:((e+1:Nat):Int).toNat=e+1:=by omega
   rw[this];exact h
omit hX in
theorem Bh{A:Around}{E:Value→Shared→Prop}{env:Env}{m:Mp}{Q:AV→St→Prop}{k:Nat}{fe e:Expr}{pos:Pos}{ns:List Int}(hlim:∀h:Heap,X.B.In h→h.NoLimit)(hA:Room A (k+4))(hf:Ev X A E env m fe σ λF σ₁=>F=.blt "sum"∧σ₁=σ)(he:jQ X A E k env m e σ (ns.map .int))
  (hr:∀n∈ns,0≤n∧n≤1000000)(hz:ns.length≤65536)(h:Q (.int ns.sum) σ)
  (heq:eval (.Call fe [e] [] pos) env=(do callWith pos (←eval fe env) [] (backTo pos (starEach [e] env)) (backToKw pos (keywordEach [] env))):=by rfl)
  (hs:starEach [e] env=(false,eval e env)::starEach [] env:=by rfl):Ev X A E env m (.Call fe [e] [] pos) σ Q:=λg s S F=>
 Call_ (aj (hf g s S F) (λfv s₁ ⟨g₁,f,σ₁,G₁,r₁,e1,e2⟩=>by
  subst e1 e2
  refine ij (fvs:=[]) r₁ (kC (aj (he g₁ s₁ G₁.sat (F.go G₁)) (λv s₂ ⟨a,gi,g₂,own,hv,G₂,ho,hg⟩=>?_) i2) hs) (by rw[hs];rfl)
  subst hv
  refine args_nil ⟨⟨g₂,_,G₂.sat,trivial⟩,?_⟩
  have hf':fv=.builtin "sum":=by unfold Rep at r₁;exact r₁
  subst hf'
  have ho':own.Le s am:=⟨λb o e q=>let ⟨o',e'⟩:=G₁.dom e id;ho.1 b o' e' q,λi hi q=>ho.2 i (bu hi G₁.run.gsize) q⟩
  exact aj (Aw hlim hA (G₁.trans G₂) hg ho' hr hz h) i2 λ_ _ x=>x.elim) i2) heq
def jm:AV→AV
 |.tup [.int e,.int b]=>.int (2 ^ e.toNat * b)
 |V=>V
def d9:List UInt8→Nat→List Int
 |[],_=>[]
 |b::r,i=>(2 ^ i * (b.toNat:Int))::d9 r (i+1)
def cQ(c:List UInt8):Int:=(d9 c.reverse 0).sum
omit hX in
theorem vl:∀(r:List UInt8) (i:Nat),(dZ i (ay r)).map jm=(d9 r i).map .int
 |[],_=>rfl
 |b::r,i=>by
  show jm (.tup [.int (i:Int),.int (b.toNat:Int)])::(dZ (i+1) (ay r)).map jm=_
  rw[vl r (i+1)];rfl
omit hX in
theorem xp:∀(r:List UInt8) (i:Nat),(d9 r i).length=r.length
 |[],_=>rfl
 |b::r,i=>by unfold d9;rw[bc,xp r,bc]
omit hX in
theorem yi:∀{r:List UInt8} {i:Nat} {n:Int},n∈d9 r i→∃j b,n=2 ^ j * (b.toNat:Int)∧b∈r∧i≤j∧j<i+r.length
 |[],_,_,h=>by cases h
 |b::r,i,n,h=>by
  unfold d9 at h
  rcases bv.mp h with rfl|h
  ·exact⟨i,b,rfl,bj,aG _,by simp⟩
  ·obtain⟨j,b',e,hm,h1,h2⟩:=yi h
   exact⟨j,b',e,aR _ hm,by omega,by rw[bc];omega⟩
def vk:AV→List AV
 |.lst l=>[.int ((dZ 0 l.reverse).map λV=>match jm V with|.int n=>n|_=>0).sum]
 |_=>[]
omit hX in
theorem xm(c:List UInt8):vk (.lst (ay c))=[.int (cQ c)]:=by
 have e1:(ay c).reverse=ay c.reverse:=by unfold ay;rw[List.map_reverse]
 show [AV.int ((dZ 0 (ay c).reverse).map λV=>match jm V with|.int n=>n|_=>0).sum]=_
 rw[e1]
 have e2:((dZ 0 (ay c.reverse)).map λV=>match jm V with|.int n=>n|_=>0)=d9 c.reverse 0:=by
  have:=dl (List.map λV=>match V with|AV.int n=>n|_=>0) (vl c.reverse 0)
  rw[cC,cC] at this
  have e3:((λV=>match V with|AV.int n=>n|_=>0) ∘ AV.int)=(id:Int→Int):=rfl
  rw[e3,List.map_id] at this
  exact this
 rw[e2];rfl
omit hX in
theorem vp{b:List UInt8}(hb:∀c∈b,c=0∨c=1){u:UInt8}(h:u∈b):(u.toNat:Int)=0∨(u.toNat:Int)=1:=by
 rcases hb u h with rfl|rfl
 ·exact .inl rfl
 ·exact .inr rfl
omit hX in
theorem nK(h:c∈de b):c.length≤8:=by
 obtain⟨j,_,rfl⟩:=aP.mp h
 exact List.length_take_le _ _
omit hX in
theorem nI(h:c∈de b)(hx:x∈c):x∈b:=by
 obtain⟨j,_,rfl⟩:=aP.mp h
 exact mN (wM hx)
theorem Ds{b:List UInt8}(hz:b.length≤4096)(hb:∀c∈b,c=0∨c=1):kI X 8 (.ref 167) [.bytes b] σ ((de b).map λc=>.int (cQ c)):=by
 obtain⟨pm,F⟩:=hX.f_dfb_
 refine nV F ["input_bin"] (bk ["input_bin"] λvs hv=>?_) (by rfl) λL=>?_
 ·match vs,hv with|[v],_=>rfl
 have e0:((de b).map λc=>AV.int (cQ c))=((de b).map λc=>AV.lst (ay c)).flatMap vk++[]:=by
  rw[ey,uo]
  induction de b with
  |nil=>rfl
  |cons c r ih=>rw[bQ,gp,←ih,xm];rfl
 rw[e0]
 refine bU<|vo λA' hA'=>c7<|au<|eg hX.g_part<|ad<|av<|ad<|ab (.bytes b)<|ak ⟨?_,aw (Di hX hz<|fS ⟨rfl,q6 (λ_=>True) vk _ _ [] (λV hV m l _ A' hA=>?_) trivial λm' _=>cK ⟨rfl,.inl rfl⟩⟩) (hA'.mono (by omega))⟩
 ·obtain⟨_,_,F'⟩:=hX.f_part;exact F'.keep
 obtain⟨c,hc,rfl⟩:=aP.mp hV
 refine aq ⟨rfl,?_⟩
 refine bU<|je λA'' hA''=>Bh (k:=2) (ns:=d9 c.reverse 0) hX.lim (hA''.mono (by omega)) (eg hX.g_sum ⟨rfl,rfl⟩) ?_ ?_ ?_ ⟨rfl,?_,cK ⟨rfl,rfl,trivial⟩⟩
 ·rw[←vl]
  have e1:ay c.reverse=(ay c).reverse:=by unfold ay;rw[List.map_reverse]
  rw[e1]
  refine Bn hX _ (λ_=>True) jm (hA''.mono (by omega)) (At (k:=0) (eg hX.g_enumerate ⟨rfl,rfl⟩) (eg hX.g_reversed ⟨rfl,rfl⟩) (ab (.lst (ay c)) ⟨rfl,rfl⟩) ⟨rfl,rfl⟩) trivial (λcenv N hsc hg hbi hN V hV m _ A₃ hA₃=>?_) rfl hX.t_dfb_ rfl (by rfl) (by decide) (by rfl)
  obtain⟨j,W,rfl,hW,_,hj⟩:=xM hV
  obtain⟨u,hu,rfl⟩:=aP.mp (List.mem_reverse.mp hW)
  have hlen:c.length≤8:=nK hc
  have hj':j≤7:=by simp[ay] at hj;omega
  obtain⟨sc,lo,gl,ce,qu,fu,co,fr,bi⟩:=cenv
  dsimp only at hsc
  subst hsc
  refine bV hA₃.handled (by rfl) (by rfl) (aF (vm (by rfl) ⟨hN,.inl rfl⟩ (aF (vm (by rfl) ⟨hN,.inl rfl⟩ (bW ⟨rfl,trivial,?_⟩)))))
  refine aK<|aK<|av<|ab (.int (j:Int))<|vB hj'<|ab (.int (u.toNat:Int))<|xB ⟨rfl,?_⟩ ?_
  ·show AV.int _=AV.int (2 ^ ((j:Nat):Int).toNat * _)
   rw[eO]
  ·exact .of_right (by rcases vp hb (nI hc hu) with q|q<;>rw[q]<;>decide)
 ·intro n hn
  obtain⟨i,u,rfl,hu,_,hi⟩:=yi hn
  have hlen:=nK hc
  have hp:(2:Int) ^ i≤2 ^ 8:=by
   have:(2:Nat) ^ i≤2 ^ 8:=Nat.pow_le_pow_right (by decide) (by simp at hi;omega)
   exact_mod_cast this
  have hp0:(0:Int)≤2 ^ i:=Int.pow_nonneg (by decide)
  have:(2:Int) ^ 8=256:=by decide
  rcases vp hb (nI hc (List.mem_reverse.mp hu)) with q|q<;>rw[q]<;>omega
 ·rw[xp];have:=nK hc;simp;omega
 ·exact(dF (xm c)).1.symm
omit hX in
theorem yo:∀(r:List UInt8) (i:Nat),(∀c∈r,c=0∨c=1)→0≤(d9 r i).sum∧(d9 r i).sum+2 ^ i≤2 ^ (i+r.length)
 |[],i,_=>by simp[d9]
 |b::r,i,h=>by
  obtain⟨h1,h2⟩:=yo r (i+1) λc hc=>h c (aR _ hc)
  have hp0:(0:Int)≤2 ^ i:=Int.pow_nonneg (by decide)
  have e:(2:Int) ^ (i+1)=2 * 2 ^ i:=by rw[Int.pow_succ];omega
  have e2:i+1+r.length=i+(b::r).length:=by rw[bc];omega
  unfold d9
  rw[List.sum_cons]
  rw[e2,e] at h2
  rcases vp h (u:=b) bj with q|q<;>rw[q]<;>constructor<;>omega
omit hX in
theorem xH(hc:c.length≤8)(h:∀x∈c,x=0∨x=1):0≤cQ c∧cQ c<256:=by
 obtain⟨h1,h2⟩:=yo c.reverse 0 λx hx=>h x (List.mem_reverse.mp hx)
 refine⟨h1,?_⟩
 have:(2:Int) ^ (0+c.reverse.length)≤2 ^ 8:=by
  have:(2:Nat) ^ (0+c.reverse.length)≤2 ^ 8:=Nat.pow_le_pow_right (by decide) (by simp;omega)
  exact_mod_cast this
 have e:(2:Int) ^ 8=256:=by decide
 have e0:(2:Int) ^ 0=1:=by decide
 unfold cQ
 omega
def f7(b:List UInt8):List UInt8:=(de b).map λc=>(cQ c).toNat.toUInt8
omit hX in
theorem ni(b:List UInt8):(de b).length=(b.length+7) / 8:=by unfold de;simp
theorem yS(hz:b.length≤4096)(hb:∀c∈b,c=0∨c=1)(h:Q (.bytes (f7 b)) σ):CallOk X 14 (.ref 160) [.bytes b] σ Q:=by
 obtain⟨code,pm,F⟩:=hX.f_dfb
 refine bG F ["input_bin"] (bk ["input_bin"] λvs hv=>?_) (by rfl) λA L hA=>?_
 ·match vs,hv with|[v],_=>rfl
 refine ag<|aZ<|au<|eg hX.g_bytes<|ad<|AO (k:=8) (l:=((de b).map cQ).map .int) hX.lim hA (eg hX.g_list ⟨rfl,rfl⟩) (vb hA.mo<|eg hX.g_dfb_<|ad<|ab (.bytes b)<|ak ⟨rfl,?_,?_⟩) ?_<|ak ⟨trivial,qj hA.handled ?_ ?_ ?_⟩
 ·obtain⟨_,F'⟩:=hX.f_dfb_;exact F'.keep
 ·rw[cC];exact Ds hX hz hb
 ·simp[ni];omega
 ·intro n hn
  obtain⟨c,hc,rfl⟩:=aP.mp hn
  exact xH (nK hc) λx hx=>hb x (nI hc hx)
 ·simp[ni];omega
 ·rw[cC];exact h
end
theorem zS:typeLookup (.type "int") "__bytes__"=pure none:=by rw[ur,t7];kernel_rfl
section
variable {X:Cx} {A:Around} {E:Value→Shared→Prop} {σ:St} {Q:AV→St→Prop}
theorem Bc{n:Nat}{t:Tok}{s:Shared}{R:Value→Shared→Prop}(hn:n≤4096)(hQ:R (.bytes (Array.replicate n 0) s.toks) {s with toks:=s.toks+1}):
  codeAny (model P0 X.w) A (.call (.builtin "bytes.__new__") ⟨[.type "bytes",.int n t],[]⟩) (wants R E) s:=by
 refine codeAny_of_tree ?_
 show wpAny _ A.in1 (do checkBuiltinCall "bytes.__new__" ⟨[.type "bytes",.int n t],[]⟩;again (.builtin "bytes.__new__" ⟨[.type "bytes",.int n t],[]⟩)) _ _ s
 refine ac (bw (F.bm_newCall _) (ao ⟨fy F.bm_plain _,g9 F.bm_entry ?_⟩))
 rw[gY F.bm_plain _]
 have hT:s.TypeIs (.int n t) "int":=kx _ _ _
 have hix:asIndex (.int n t)=pure (n:Int):=rfl
 have hst:asStr? (.int n t)=pure none:=rfl
 generalize (Value.int n t)=v at hT hix hst
 generalize hm:(n:Int)=m at hix
 unfold Builtin.«bytes.__new__»
 refine ac (bw (a:=true) rfl ?_)
 refine kn rfl ?_
 refine ac (bw F.bm_sub ?_)
 refine kn rfl ?_
 refine ac (bw (F.bm_bind _) ?_)
 refine ac (bw (a:=()) rfl ?_)
 refine ac (bw (a:=()) rfl ?_)
 refine kn rfl ?_
 refine ac (j8 hT zS ?_)
 dsimp only
 rw[hst]
 refine ac (ac (ao (ao ?_)))
 refine kn rfl ?_
 refine ac (j8 hT F.slot_int_index.lookup ?_)
 refine kn rfl ?_
 refine ac (nu (bw hix ?_))
 show wpAny _ A.in1 (if (!Builtin.Bytes.fitsIndex m)=true then _ else _) _ _ _
 refine kn ?_ ?_
 ·subst hm;simp only[Builtin.Bytes.fitsIndex,Bool.not_eq_false',fq,g6];omega
 have hm0:¬m<0:=by omega
 have hm1:¬m>2 ^ 63 - 34:=by
  have:(2:Int) ^ 63=9223372036854775808:=by decide
  rw[this];omega
 have hm2:m.toNat=n:=by omega
 rw[ae hm0,ae hm1,hm2]
 refine kn ?_ ?_
 ·unfold Builtin.Bytes.tooLong;rw[bn];simp;omega
 refine ac (c5 ?_)
 refine ac (wpAny_mkBytes ?_ (by rw[bn];simp;omega))
 show wpAny _ _ (if (Value.type "bytes"==Value.type "bytes")=true then _ else _) _ _ _
 refine bm_if_true (by decide) ?_
 exact ao hQ
theorem Ac{n:Nat}(hn:n≤4096)(h:Q (.bytes (List.replicate n 0)) σ):cn X A E (.typ "bytes") [.int n] σ Q:=λg s fv vs S r rl=>by
 unfold Rep at r;subst r
 unfold RepL at rl;obtain⟨v,us,rfl,r,rl⟩:=rl;unfold RepL at rl;subst rl
 unfold Rep at r;obtain⟨t,rfl⟩:=r
 refine callType_codes (Q₁:=λobj s₁=>s₁.TypeIs obj "bytes"∧Post X am g σ s Q obj s₁) F.bm_called (F.bm_typeCall _) wS
  (Bc hn ⟨PySem.W.typeIs_bytes _ _ _,?_⟩) λobj s₁ h₁=>?_
 ·have e:Array.replicate n (0:UInt8)=(List.replicate n 0).toArray:=by simp
  rw[e];exact Post.tok S .bytes h
 ·exact⟨h₁.1,qe obj _,object_init_meets F.bm_called.init.lookup F.bm_called.made (by decide) P0 X.w A.in1 _ s₁ ⟨h₁.1,rfl,h₁.2⟩⟩
theorem dR{value slice:Expr}{l:List AV}{i:Nat}{V:AV}(hz:l.length≤16777216)(hi:l[i]?=some V)(h:Q V σ):bh X A E (subscriptTail value slice) (.lst l) (.int i) σ Q:=λg s v u S r r'=>by
 unfold Rep at r r';obtain⟨a,vs,rfl,hq,rl⟩:=r;obtain⟨t,rfl⟩:=r'
 obtain⟨x,hx,rx⟩:=rl.get hi
 have hl:=c6 hq S.in_
 have:i<l.length:=(wx.mp hi).1
 exact ji hl.typeIs slot_list_getitem.lookup (wpAny_getItem_list hl (by omega) (by omega) (x:=x) (by simpa using hx) (Post.here S rx h))
def two(n:Nat):List UInt8:=[(n / 2 % 2).toUInt8,(n % 2).toUInt8]
def bq(b:List UInt8):List UInt8:=List.replicate ((4 - b.length % 4) % 4) 0++b
def rowK(b:List UInt8):List UInt8:=(if (bq b).length % 8==4 then [0,0] else [1,0,0,0,0,0])++two (b.length % 4)++bq b
def bR(b:List UInt8):List UInt8:=f7 (rowK b)
variable (hX:Base X)
include hX
theorem z8(h:Q (.blt "list.index") σ):iu X A E "index" (.ref 60) σ Q:=λg s v pl S r=>by
 unfold Rep at r;subst r
 obtain⟨o,t0,t1,t2,t3,hB,hc,hd,n,hda⟩:=hX.o_TWO
 have ho:=S.in_ _ _ (S.le _ _ hB)
 refine getMethod_builtin ⟨o,ho,hc⟩ PySem.F.plainAttrs_list PySem.F.slot_list_index PySem.F.type_list_index (λa e=>by cases e;exact⟨o,ho,hd⟩) ?_
 exact⟨g,_,σ,.refl S,by unfold Rep;rfl,rfl,h⟩
def Gq:List UInt8→Nat
 |[0,0]=>0
 |[0,1]=>1
 |[1,0]=>2
 |_=>3
omit hX in
theorem w5(b c:Array UInt8)(t u:Tok):MeetsSeq.EqGives (.bytes b t) (.bytes c u) (decide (b.toList=c.toList)):=λ_ _ _ _ _ _ h=>eqBool_bytes h
theorem zX(hx:x=0∨x=1)(hy:y=0∨y=1)(h:Q (.int (2 * x.toNat+y.toNat:Nat)) σ):cn X A E (.blt "list.index") [.ref 60,.bytes [x,y]] σ Q:=λg s fv vs S r rl=>by
 unfold Rep at r;subst r
 unfold RepL at rl;obtain⟨v,us,rfl,r,rl⟩:=rl
 unfold RepL at rl;obtain⟨u,ws,rfl,r',rl⟩:=rl;unfold RepL at rl;subst rl
 unfold Rep at r r';subst r;obtain⟨t,rfl⟩:=r'
 obtain⟨o,t0,t1,t2,t3,hB,hc,hd,n,hda⟩:=hX.o_TWO
 have ho:=S.in_ _ _ (S.le _ _ hB)
 obtain⟨cls,dd,data,sl⟩:=o
 simp only at hc hd hda
 subst hc hd hda
 refine call_meets PySem.F.slot_list_index ⟨_,ho,rfl⟩ PySem.F.entry_list_index (PySem.F.args_list_index_2 _ _)
  (PySem.SeqAt.list_indexAt 60 _ n none sl (.bytes [x,y].toArray t) (λv=>match v with|.bytes b _=>decide (b.toList=[x,y])|_=>false) (2 * x.toNat+y.toNat) ?_ ?_ ?_ ?_) ⟨ho,λz hz=>?_,Post.tok S .int h⟩
 ·show _<4
  rcases hx with rfl|rfl<;>rcases hy with rfl|rfl<;>decide
 ·rcases hx with rfl|rfl<;>rcases hy with rfl|rfl<;>decide
 ·rcases hx with rfl|rfl<;>rcases hy with rfl|rfl<;>rfl
 ·rcases hx with rfl|rfl<;>rcases hy with rfl|rfl
  ·intro j hj hlt;exact absurd hlt (Nat.not_lt_zero j)
  ·intro j hj hlt
   have:j=0:=by have:(2 * (0:UInt8).toNat+(1:UInt8).toNat)=1:=rfl;omega
   subst this;rfl
  ·intro j hj hlt
   have:(2 * (1:UInt8).toNat+(0:UInt8).toNat)=2:=rfl
   have:j=0∨j=1:=by omega
   rcases this with rfl|rfl<;>rfl
  ·intro j hj hlt
   have:(2 * (1:UInt8).toNat+(1:UInt8).toNat)=3:=rfl
   have:j=0∨j=1∨j=2:=by omega
   rcases this with rfl|rfl|rfl<;>rfl
 ·rcases(by simpa using hz:z=_∨z=_∨z=_∨z=_) with rfl|rfl|rfl|rfl<;>exact(w5 _ _ _ _).at _ _
omit hX in
theorem zj(n:Nat):((4:Int) - n).fmod 4=((4 - n % 4) % 4:Nat):=by
 rw[mJ _ (by decide)];omega
omit hX in
theorem zg(n k:Nat):((n:Int)).fmod (k:Int)=(n % k:Nat):=by
 rw[mJ _ (by omega)];omega
omit hX in
theorem C8(h:n<4):[AV.bytes [0,0],.bytes [0,1],.bytes [1,0],.bytes [1,1]][n]?=some (.bytes (two n)):=by
 match n,h with
 |0,_=>rfl
 |1,_=>rfl
 |2,_=>rfl
 |3,_=>rfl
omit hX in
theorem rq(n:Nat):∀c∈two n,c=0∨c=1:=by
 have h:∀m,(m % 2).toUInt8=0∨(m % 2).toUInt8=1:=λm=>by
  rcases(by omega:m % 2=0∨m % 2=1) with q|q<;>rw[q]
  ·exact .inl rfl
  ·exact .inr rfl
 intro c hc
 rcases(by simpa [two] using hc:c=_∨c=_) with rfl|rfl
 ·exact h _
 ·exact h _
omit hX in
theorem uV(hb:∀c∈b,c=0∨c=1):∀c∈bq b,c=0∨c=1:=λc hc=>by
 rcases dQ.mp hc with q|q
 ·exact .inl (List.eq_of_mem_replicate q)
 ·exact hb c q
theorem EE{b:List UInt8}{Q:AV→St→Prop}(hz:b.length≤1024)(hb:∀c∈b,c=0∨c=1)(h:Q (.bytes (bR b)) σ):CallOk X 15 (.ref 186) [.bytes b] σ Q:=by
 obtain⟨code,pm,F⟩:=hX.f_efk
 refine bG F ["input_bin"] (bk ["input_bin"] λvs hv=>?_) (by rfl) λA L hA=>?_
 ·match vs,hv with|[v],_=>rfl
 have hp:(bq b).length≤1028:=by unfold bq;simp;omega
 refine ag<|aE<|aK<|au<|eg hX.g_bytes<|ad<|aK<|aK<|av<|au<|eg hX.g_len<|ad<|ab (.bytes b)<|ak ⟨trivial,gw (by omega)<|qQ<|av<|dW (by decide)<|ak ⟨trivial,?_⟩⟩
 rw[zj]
 refine Ac (by omega)<|ab (.bytes b)<|cB (by simp;omega)<|aq ?_
 refine ag<|aE<|aC<|eg hX.g_TWO<|aK<|au<|eg hX.g_len<|ad<|ab (.bytes b)<|ak ⟨trivial,gw (by omega)<|av<|dW (by decide) ?_⟩
 rw[show((b.length:Int)).fmod 4=((b.length % 4:Nat):Int) from zg _ 4]
 refine dR (by decide) (C8 (Nat.mod_lt _ (by decide)))<|aq ?_
 refine ag<|az<|ar<|aK<|au<|eg hX.g_len<|ad<|ab (.bytes (bq b))<|ak ⟨trivial,gw (by omega)<|av<|dW (by decide)<|av ?_⟩
 rw[show(((bq b).length:Int)).fmod 8=(((bq b).length % 8:Nat):Int) from zg _ 8]
 refine aU ⟨_,rfl,?_⟩
 have hcond:((((bq b).length % 8:Nat):Int)==4)=((bq b).length % 8==4):=by
  rw[qk,bd,bd];omega
 rw[hcond]
 have hkeep:aV X σ (.ref 160):=by obtain⟨_,_,F'⟩:=hX.f_dfb;exact F'.keep
 have hrow:∀P:List UInt8,P.length≤6→(∀c∈P,c=0∨c=1)→(∀c∈P++two (b.length % 4)++bq b,c=0∨c=1)∧(P++two (b.length % 4)++bq b).length≤4096:=λP hP hPb=>by
  refine⟨λc hc=>?_,?_⟩
  ·rcases dQ.mp hc with q|q
   ·rcases dQ.mp q with q|q
    ·exact hPb c q
    ·exact rq _ c q
   ·exact uV hb c q
  ·simp[two];omega
 cases hc:((bq b).length % 8==4) with
 |true=>
  obtain⟨h1,h2⟩:=hrow [0,0] (by decide) (by decide)
  refine ag<|aZ<|au<|eg hX.g_dfb<|ad<|aK<|aK<|eg hX.g_P00<|ap (V:=.bytes (two (b.length % 4))) (by rfl)<|cB (by simp[two])<|ab (.bytes (bq b))<|cB (by simp[two];omega)<|ak ⟨hkeep,aw (yS hX h2 h1 ?_) hA⟩
  have:bR b=f7 ([0,0]++two (b.length % 4)++bq b):=by unfold bR rowK;rw[hc];rfl
  rw[←this];exact h
 |false=>
  obtain⟨h1,h2⟩:=hrow [1,0,0,0,0,0] (by decide) (by decide)
  refine ag<|aZ<|au<|eg hX.g_dfb<|ad<|aK<|aK<|eg hX.g_P10<|ap (V:=.bytes (two (b.length % 4))) (by rfl)<|cB (by simp[two])<|ab (.bytes (bq b))<|cB (by simp[two];omega)<|ak ⟨hkeep,aw (yS hX h2 h1 ?_) hA⟩
  have:bR b=f7 ([1,0,0,0,0,0]++two (b.length % 4)++bq b):=by unfold bR rowK;rw[hc];rfl
  rw[←this];exact h
end
theorem B1:∀b0 b1 b2 b3 b4 b5 b6 b7:Bool,nY ((cQ [fh b0,fh b1,fh b2,fh b3,fh b4,fh b5,fh b6,fh b7]).toNat.toUInt8)=[b0,b1,b2,b3,b4,b5,b6,b7]:=by decide+kernel
theorem ip(h:u=0∨u=1):∃b,u=fh b:=by
 rcases h with rfl|rfl
 ·exact⟨false,rfl⟩
 ·exact⟨true,rfl⟩
theorem A3(hl:c.length=8)(h:∀x∈c,x=0∨x=1):(nY ((cQ c).toNat.toUInt8)).map fh=c:=by
 match c,hl with
 |[u0,u1,u2,u3,u4,u5,u6,u7],_=>
  obtain⟨b0,rfl⟩:=ip (h u0 (by simp))
  obtain⟨b1,rfl⟩:=ip (h u1 (by simp))
  obtain⟨b2,rfl⟩:=ip (h u2 (by simp))
  obtain⟨b3,rfl⟩:=ip (h u3 (by simp))
  obtain⟨b4,rfl⟩:=ip (h u4 (by simp))
  obtain⟨b5,rfl⟩:=ip (h u5 (by simp))
  obtain⟨b6,rfl⟩:=ip (h u6 (by simp))
  obtain⟨b7,rfl⟩:=ip (h u7 (by simp))
  rw[B1];rfl
theorem xq:∀(n:Nat) (r:List UInt8),r.length=8 * n→(List.range n).flatMap (λj=>(r.drop (8 * j)).take 8)=r
 |0,r,h=>by
  have:r=[]:=gV (by omega)
  subst this;rfl
 |n+1,r,h=>by
  rw[List.range_succ_eq_map,gp,uo]
  have ih:=xq n (r.drop 8) (by simp;omega)
  have e:(List.range n).flatMap (λj=>(r.drop (8 * (j+1))).take 8)=r.drop 8:=by
   rw[←ih]
   congr 1
   funext j
   rw[hO]
   congr 2
   omega
  show(r.drop (8 * 0)).take 8++(List.range n).flatMap (λj=>(r.drop (8 * (j+1))).take 8)=r
  rw[e];simp
theorem xa{α β:Type}{f g:α→List β}:∀{l:List α},(∀x∈l,f x=g x)→l.flatMap f=l.flatMap g
 |[],_=>rfl
 |x::l,h=>by rw[gp,gp,h x bj,xa λy hy=>h y (aR _ hy)]
theorem BO{r:List UInt8}(hl:r.length % 8=0)(h:∀x∈r,x=0∨x=1):aA (f7 r)=r:=by
 have hc:∀c∈de r,c.length=8:=λc hc=>by
  obtain⟨j,hj,rfl⟩:=aP.mp hc
  have:=qw.mp hj
  simp;omega
 have hm:aA (f7 r)=(de r).flatMap λc=>c:=by
  unfold aA bits f7
  rw[uo,List.map_flatMap]
  refine xa λc hcm=>?_
  exact A3 (hc c hcm) λx hx=>h x (nI hcm hx)
 rw[hm]
 unfold de
 rw[uo]
 have e:(r.length+7) / 8=r.length / 8:=by omega
 rw[e]
 exact xq _ r (by omega)
theorem AR(b:List UInt8):(bq b).length % 4=0:=by unfold bq;simp;omega
theorem xu(b:List UInt8):(rowK b).length % 8=0:=by
 have:=AR b
 unfold rowK
 split
 ·rename_i h;rw[bd] at h;simp[two];omega
 ·rename_i h;rw[bd] at h;simp[two];omega
theorem Cg(hb:∀c∈b,c=0∨c=1):∀c∈rowK b,c=0∨c=1:=λc hc=>by
 unfold rowK at hc
 rcases dQ.mp hc with q|q
 ·rcases dQ.mp q with q|q
  ·split at q
   ·exact(by decide:∀c∈([0,0]:List UInt8),c=0∨c=1) c q
   ·exact(by decide:∀c∈([1,0,0,0,0,0]:List UInt8),c=0∨c=1) c q
  ·exact rq _ c q
 ·exact uV hb c q
theorem C5(hb:∀c∈b,c=0∨c=1):aA (bR b)=rowK b:=BO (xu b) (Cg hb)
def dw(b:List UInt8):List UInt8:=[0,0]++two (b.length % 4)++bq b
section
variable {X:Cx} {σ:St} (hX:Base X)
include hX
theorem DX(hz:b.length≤1024)(hb:∀c∈b,c=0∨c=1)(h:Q (.bytes b) σ):CallOk X 9 (.ref 193) [.bytes (bR b)] σ Q:=by
 obtain⟨code,pm,F⟩:=hX.f_dtk
 refine bG F ["path"] (bk ["path"] λvs hv=>?_) (by rfl) λA L hA=>?_
 ·match vs,hv with|[v],_=>rfl
 have hp:(bq b).length≤1028:=by unfold bq;simp;omega
 have hr:(rowK b).length≤1040:=by unfold rowK;split<;>simp[two]<;>omega
 have hr1:4≤(rowK b).length:=by unfold rowK;split<;>simp[two]<;>omega
 have hez:(bR b).length≤4096:=by unfold bR f7;rw[bB,ni];omega
 have hkeep:aV X σ (.ref 172):=by obtain⟨_,_,F'⟩:=hX.f_etb;exact F'.keep
 refine ag<|aE<|au<|eg hX.g_etb<|ad<|ab (.bytes (bR b))<|ak ⟨hkeep,aw (kL hX hez ?_) hA⟩
 rw[C5 hb]
 refine aq ?_
 have tail:∀m,m "path"=some (.bytes (dw b))→Exs X A ai (ax L (callEnvC (cP (aD 29) "decode_to_bin_keypath" code pm .none) L 193)) (callEnvC (cP (aD 29) "decode_to_bin_keypath" code pm .none) L 193) m ((cj (aD 29)).drop 2) σ λFl _ σ'=>match Fl with|.ret V=>Q V σ'|.next=>Q .none σ'|_=>False:=λm hm=>by
  have ht:(dw b).length≤1040:=by unfold dw;simp[two];omega
  have c1:bX (some (0:Int)) (some (2:Int)) (dw b)=[0,0]:=by
   have:=nL (l:=dw b) 0 2
   rw[show((0:Nat):Int)=0 from rfl,show((2:Nat):Int)=2 from rfl] at this
   rw[this];rfl
  have c2:bX (some (2:Int)) (some (4:Int)) (dw b)=two (b.length % 4):=by
   have:=nL (l:=dw b) 2 4
   rw[show((4:Nat):Int)=4 from rfl,show((2:Nat):Int)=2 from rfl] at this
   rw[this];rfl
  refine ag<|B9<|ar<|aC<|ap (V:=.bytes (dw b)) hm<|bP (lower:=some _) (upper:=some _)<|av ⟨_,rfl,av ⟨_,rfl,cr (by omega)<|eg hX.g_P00<|bJ ⟨_,rfl,?_,?_⟩⟩⟩
  ·rw[c1];rfl
  refine ag<|aE<|cy (eg hX.g_TWOr<|z8 hX<|ad<|aC<|ap (V:=.bytes (dw b)) hm<|bP (lower:=some _) (upper:=some _)<|av ⟨_,rfl,av ⟨_,rfl,cr (by omega) ?_⟩⟩) (by rfl)
  rw[c2]
  have hb2:=rq (b.length % 4)
  refine ak ⟨trivial,zX hX (hb2 _ (by simp[two])) (hb2 _ (by simp[two]))<|aq ?_⟩
  have hm2:∀V,(m.upd "padded_len" V) "path"=some (.bytes (dw b)):=λV=>by rw[←hm];rfl
  have e:(2 * (b.length % 4 / 2 % 2).toUInt8.toNat+(b.length % 4 % 2).toUInt8.toNat)=b.length % 4:=by
   rcases(by omega:b.length % 4=0∨b.length % 4=1∨b.length % 4=2∨b.length % 4=3) with q|q|q|q<;>rw[q]<;>rfl
  rw[e]
  refine ag<|aZ<|aC<|ap (V:=.bytes (dw b)) (hm2 _)<|bP (lower:=some _) (upper:=none)<|aK<|av<|aK<|aK<|av<|ab (.int (b.length % 4:Nat))<|qQ<|av<|dW (by decide)<|fN ⟨_,rfl,cr (by omega) ?_⟩
  have ef:((4:Int) - ((b.length % 4:Nat):Int)).fmod 4=((4 - b.length % 4) % 4:Nat):=by rw[zj,Nat.mod_mod]
  rw[ef,show(4:Int)+(((4 - b.length % 4) % 4:Nat):Int)=((4+(4 - b.length % 4) % 4:Nat):Int) by omega,dp]
  have ed:(dw b).drop (4+(4 - b.length % 4) % 4)=b:=by
   rw[←hO]
   show(bq b).drop _=b
   unfold bq
   rw[mY (by simp)]
  rw[ed];exact h
 cases hc:((bq b).length % 8==4) with
 |true=>
  have er:rowK b=dw b:=by unfold rowK dw;rw[hc];rfl
  refine ag<|az<|ar<|aC<|ab (.bytes (rowK b))<|av<|gy (by omega) (by decide) (by omega)<|av<|aU ⟨_,rfl,?_⟩
  have e0:((((rowK b).getD (0:Int).toNat 0).toNat:Int)==1)=false:=by rw[er];rfl
  rw[e0]
  refine aB (tail _ ?_)
  rw[←er];rfl
 |false=>
  have er:rowK b=[1,0,0,0]++dw b:=by unfold rowK dw;rw[hc];rfl
  refine ag<|az<|ar<|aC<|ab (.bytes (rowK b))<|av<|gy (by omega) (by decide) (by omega)<|av<|aU ⟨_,rfl,?_⟩
  have e0:((((rowK b).getD (0:Int).toNat 0).toNat:Int)==1)=true:=by rw[er];rfl
  rw[e0]
  refine ag<|aE<|aC<|ab (.bytes (rowK b))<|bP (lower:=some _) (upper:=none)<|av ⟨_,rfl,cr (by omega)<|aq<|aB (tail _ ?_)⟩
  have:=dp (l:=rowK b) 4
  rw[show((4:Nat):Int)=4 from rfl] at this
  show some (AV.bytes _)=_
  rw[this,er];rfl
end
section
variable {X:Cx} {A:Around} {E:Value→Shared→Prop} {σ:St} {Q:AV→St→Prop}
def wm(k:Int):Value→Bool|.int i _=>i==k|_=>false
theorem yf{g:View}{k:Int}:∀{ns:List Int} {vs:List Value},RepL g (ns.map .int) vs→(vs.any (wm k))=ns.contains k
 |[],_,h=>by unfold RepL at h;subst h;rfl
 |n::ns,_,h=>by
  unfold RepL at h;obtain⟨v,r,rfl,hv,hr⟩:=h
  unfold Rep at hv;obtain⟨t,rfl⟩:=hv
  rw[List.any_cons,yf hr,List.contains_cons]
  congr 1
  show(n==k)=(k==n)
  rw[qk,bd,bd];exact eq_comm
theorem ym{g:View}:∀{ns:List Int} {vs:List Value} {v:Value},RepL g (ns.map .int) vs→v∈vs→∃n t,v=.int n t
 |[],_,v,h,hm=>by unfold RepL at h;subst h;cases hm
 |n::ns,_,v,h,hm=>by
  unfold RepL at h;obtain⟨u,r,rfl,hv,hr⟩:=h
  unfold Rep at hv;obtain⟨t,rfl⟩:=hv
  rcases bv.mp hm with rfl|hm
  ·exact⟨n,t,rfl⟩
  ·exact ym hr hm
theorem uN{k:Int}{ns:List Int}(h:Q (.bool (ns.contains k)) σ):bh X A E (compareOp .In) (.int k) (.tup (ns.map .int)) σ Q:=λg s v u S r r'=>by
 unfold Rep at r r';obtain⟨t,rfl⟩:=r;obtain⟨a,vs,rfl,hq,rl⟩:=r'
 have hl:=ii hq S.in_
 refine PySem.SeqAt.in_tupleAt (wm k) hl (λy hy=>?_) ?_
 ·obtain⟨n,t',rfl⟩:=ym rl (by simpa using hy)
  exact(MeetsSeq.EqGives.int n k t' t).at _ _
 ·have e:vs.toArray.any (wm k)=ns.contains k:=by rw[←yf rl];simp
  rw[e];exact Post.here S .bool h
def aM(b h:List UInt8):List UInt8:=[0]++bR b++h
def aO(l r:List UInt8):List UInt8:=[1]++l++r
def bZ(v:List UInt8):List UInt8:=[2]++v
theorem rC(b:List UInt8):(bR b).length≤b.length / 8+2∧1≤(bR b).length:=by
 have h0:(bq b).length=(4 - b.length % 4) % 4+b.length:=by unfold bq;simp
 have h1:(bR b).length=((rowK b).length+7) / 8:=by unfold bR f7;rw[bB,ni]
 have h2:=xu b
 rw[h1]
 unfold rowK at h2 ⊢
 split at h2<;>rename_i hc
 ·rw[bd] at hc;rw[ah (by rw[bd];exact hc)];simp[two] at h2 ⊢;omega
 ·rw[ae hc];rw[bd] at hc;simp[two] at h2 ⊢;omega
variable (hX:Base X)
include hX
theorem vS{b:List UInt8}{n:Nat}(hz:b.length≤4096)(hb:b.length=n)(h:Q .none σ):CallOk X 1 (.ref 207) [.bytes b,.int n] σ Q:=by
 obtain⟨code,pm,F⟩:=hX.f_vl
 refine bG F ["value","length"] (bk ["value","length"] λvs hv=>?_) (by rfl) λA L hA=>?_
 ·match vs,hv with|[v,w],_=>rfl
 refine ag<|az<|ar<|au<|eg hX.g_len<|ad<|ab (.bytes b)<|ak ⟨trivial,gw (by omega)<|ab (.int n)<|qS ⟨_,rfl,?_⟩⟩
 rw[hb,bne_self_eq_false]
 exact aB (aB h)
theorem kF:aV X σ (.ref 200):=by obtain⟨_,_,F'⟩:=hX.f_vib;exact F'.keep
theorem vw:aV X σ (.ref 207):=by obtain⟨_,_,F'⟩:=hX.f_vl;exact F'.keep
theorem ET{v:List UInt8}(hz:v.length≤4096)(hv:v≠[])(h:Q (.bytes (bZ v)) σ):CallOk X 2 (.ref 249) [.bytes v] σ Q:=by
 obtain⟨code,pm,F⟩:=hX.f_elf
 refine bG F ["value"] (bk ["value"] λvs hv=>?_) (by rfl) λA L hA=>?_
 ·match vs,hv with|[v],_=>rfl
 refine ag<|cV<|au<|eg hX.g_vib<|ad<|ab (.bytes v)<|ak ⟨kF hX,aw (eE hX ?_) hA⟩
 refine ag<|az<|cW<|ar<|ab (.bytes v)<|dJ<|nC ⟨_,rfl,?_⟩
 refine cW<|ar<|ab (.bytes v)<|da<|bJ ⟨_,rfl,?_⟩
 have e:(v==[])=false:=by rw[ba];exact hv
 rw[e]
 refine ie<|aB<|ag<|aZ<|aK<|eg hX.g_LEAFP<|ab (.bytes v)<|cB (by simp;omega) h
theorem vH{l r:List UInt8}(hl:l.length=32)(hr:r.length=32)(h:Q (.bytes (aO l r)) σ):CallOk X 2 (.ref 242) [.bytes l,.bytes r] σ Q:=by
 obtain⟨code,pm,F⟩:=hX.f_ebr
 refine bG F ["left_child_node_hash","right_child_node_hash"] (bk ["left_child_node_hash","right_child_node_hash"] λvs hv=>?_) (by rfl) λA L hA=>?_
 ·match vs,hv with|[v,w],_=>rfl
 refine ag<|cV<|au<|eg hX.g_vib<|ad<|ab (.bytes l)<|ak ⟨kF hX,aw (eE hX ?_) hA⟩
 refine ag<|cV<|au<|eg hX.g_vl<|ad<|ab (.bytes l)<|ad<|av<|ak ⟨vw hX,aw (vS hX (n:=32) (by omega) hl ?_) hA⟩
 refine ag<|cV<|au<|eg hX.g_vib<|ad<|ab (.bytes r)<|ak ⟨kF hX,aw (eE hX ?_) hA⟩
 refine ag<|cV<|au<|eg hX.g_vl<|ad<|ab (.bytes r)<|ad<|av<|ak ⟨vw hX,aw (vS hX (n:=32) (by omega) hr ?_) hA⟩
 exact ag<|aZ<|aK<|aK<|eg hX.g_BRP<|ab (.bytes l)<|cB (by simp;omega)<|ab (.bytes r)<|cB (by simp;omega) h
theorem gC{b c:List UInt8}(hz:b.length≤1024)(hb:∀c∈b,c=0∨c=1)(hne:b≠[])(hc:c.length=32)(h:Q (.bytes (aM b c)) σ):CallOk X 16 (.ref 235) [.bytes b,.bytes c] σ Q:=by
 obtain⟨code,pm,F⟩:=hX.f_ekv
 refine bG F ["keypath","child_node_hash"] (bk ["keypath","child_node_hash"] λvs hv=>?_) (by rfl) λA L hA=>?_
 ·match vs,hv with|[v,w],_=>rfl
 have hA1:Room A 1:=hA.mo
 refine ag<|az<|cW<|ar<|ab (.bytes b)<|dJ<|nC ⟨_,rfl,?_⟩
 refine cW<|ar<|ab (.bytes b)<|da<|bJ ⟨_,rfl,?_⟩
 have e:(b==[])=false:=by rw[ba];exact hne
 rw[e]
 refine ie<|aB<|ag<|cV<|au<|eg hX.g_vib<|ad<|ab (.bytes b)<|ak ⟨kF hX,aw (eE hX ?_) hA1⟩
 refine ag<|cV<|au<|eg hX.g_vib<|ad<|ab (.bytes c)<|ak ⟨kF hX,aw (eE hX ?_) hA1⟩
 refine ag<|cV<|au<|eg hX.g_vl<|ad<|ab (.bytes c)<|ad<|av<|ak ⟨vw hX,aw (vS hX (n:=32) (by omega) hc ?_) hA1⟩
 have hk:aV X σ (.ref 186):=by obtain⟨_,_,F'⟩:=hX.f_efk;exact F'.keep
 have hl:=(rC b).1
 exact ag<|aZ<|aK<|aK<|eg hX.g_KVP<|au<|eg hX.g_efk<|ad<|ab (.bytes b)<|ak ⟨hk,aw (EE hX hz hb<|cB (by simp;omega)<|ab (.bytes c)<|cB (by simp;omega) h) hA⟩
theorem Eh{x:UInt8}{r:List UInt8}(hz:r.length≤4096)(hx:x=0∨x=1∨x=2)(h:Q .none σ):CallOk X 2 (.ref 214) [.bytes (x::r)] σ Q:=by
 obtain⟨code,pm,F⟩:=hX.f_vbn
 refine bG F ["node"] (bk ["node"] λvs hv=>?_) (by rfl) λA L hA=>?_
 ·match vs,hv with|[v],_=>rfl
 refine ag<|az<|cW<|ar<|ab (.bytes (x::r))<|eg hX.g_BLANK<|bJ ⟨_,rfl,?_⟩
 split
 ·exact ag<|xG h
 ·refine cW<|ar<|aC<|ab (.bytes (x::r))<|av<|gy (by simp;omega) (by decide) (by simp)<|eg hX.g_TYPES<|uN (ns:=[0,1,2]) ⟨_,rfl,?_⟩
  have e:([0,1,2]:List Int).contains (((x::r).getD (0:Int).toNat 0).toNat:Int)=true:=by
   show([0,1,2]:List Int).contains (x.toNat:Int)=true
   rcases hx with rfl|rfl|rfl<;>decide
  rw[e]
  exact ag<|xG h
theorem km{v:List UInt8}(hz:v.length≤4096)(hv:v≠[])(h:Q (.tup [.int 2,.none,.bytes v]) σ):CallOk X 16 (.ref 228) [.bytes (bZ v)] σ Q:=by
 obtain⟨code,pm,F⟩:=hX.f_parse
 refine bG F ["node"] (bk ["node"] λvs hv=>?_) (by rfl) λA L hA=>?_
 ·match vs,hv with|[v],_=>rfl
 have hl:(bZ v).length=v.length+1:=by unfold bZ;simp
 have hv1:1≤v.length:=by cases v with|nil=>exact absurd rfl hv|cons _ _=>simp
 refine ag<|az<|cW<|ar<|ab (.bytes (bZ v))<|dJ<|nC ⟨_,rfl,?_⟩
 refine cW<|ar<|ab (.bytes (bZ v))<|da<|bJ ⟨_,rfl,ie ?_⟩
 refine ag<|az<|ar<|aC<|ab (.bytes (bZ v))<|av<|gy (by omega) (by decide) (by omega)<|eg hX.g_BR<|aU ⟨_,rfl,?_⟩
 refine ag<|az<|ar<|aC<|ab (.bytes (bZ v))<|av<|gy (by omega) (by decide) (by omega)<|eg hX.g_KV<|aU ⟨_,rfl,?_⟩
 refine ag<|az<|ar<|aC<|ab (.bytes (bZ v))<|av<|gy (by omega) (by decide) (by omega)<|eg hX.g_LEAF<|aU ⟨_,rfl,?_⟩
 refine ag<|az<|ar<|au<|eg hX.g_len<|ad<|ab (.bytes (bZ v))<|ak ⟨trivial,gw (by omega)<|av<|aU ⟨_,rfl,?_⟩⟩
 have e:(((bZ v).length:Int)==1)=false:=by rw[ba];omega
 rw[e]
 refine aB<|ag<|aZ<|fB<|ad<|eg hX.g_LEAF<|ad<|dJ<|ad<|aC<|ab (.bytes (bZ v))<|bP (lower:=some _) (upper:=none)<|av ⟨_,rfl,cr (by omega)<|ak ⟨by rw[bn];exact cU rfl,?_⟩⟩
 have:=dp (l:=bZ v) 1
 rw[show((1:Nat):Int)=1 from rfl] at this
 rw[this];exact h
theorem i7{l r:List UInt8}(hl:l.length=32)(hr:r.length=32)(h:Q (.tup [.int 1,.bytes l,.bytes r]) σ):CallOk X 16 (.ref 228) [.bytes (aO l r)] σ Q:=by
 obtain⟨code,pm,F⟩:=hX.f_parse
 refine bG F ["node"] (bk ["node"] λvs hv=>?_) (by rfl) λA L hA=>?_
 ·match vs,hv with|[v],_=>rfl
 have hn:(aO l r).length=65:=by unfold aO;simp;omega
 refine ag<|az<|cW<|ar<|ab (.bytes (aO l r))<|dJ<|nC ⟨_,rfl,?_⟩
 refine cW<|ar<|ab (.bytes (aO l r))<|da<|bJ ⟨_,rfl,ie ?_⟩
 refine ag<|az<|ar<|aC<|ab (.bytes (aO l r))<|av<|gy (by omega) (by decide) (by omega)<|eg hX.g_BR<|aU ⟨_,rfl,?_⟩
 refine ag<|az<|ar<|au<|eg hX.g_len<|ad<|ab (.bytes (aO l r))<|ak ⟨trivial,gw (by omega)<|av<|qS ⟨_,rfl,?_⟩⟩
 rw[hn]
 refine aB<|ag<|aZ<|fB<|ad<|eg hX.g_BR<|ad<|aC<|ab (.bytes (aO l r))<|bP (lower:=some _) (upper:=some _)<|av ⟨_,rfl,av ⟨_,rfl,cr (by omega)<|ad<|aC<|ab (.bytes (aO l r))<|bP (lower:=some _) (upper:=none)<|av ⟨_,rfl,cr (by omega)<|ak ⟨by rw[bn];exact cU rfl,?_⟩⟩⟩⟩
 have c1:=nL (l:=aO l r) 1 33
 have c2:=dp (l:=aO l r) 33
 rw[show((1:Nat):Int)=1 from rfl,show((33:Nat):Int)=33 from rfl] at c1
 rw[show((33:Nat):Int)=33 from rfl] at c2
 rw[c1,c2]
 have e1:((aO l r).drop 1).take (33 - 1)=l:=by
  show(l++r).take 32=l
  rw[uu hl]
 have e2:(aO l r).drop 33=r:=by
  show(l++r).drop 32=r
  rw[mY hl]
 rw[e1,e2];exact h
theorem i6{b c:List UInt8}(hz:b.length≤1024)(hb:∀c∈b,c=0∨c=1)(hc:c.length=32)(h:Q (.tup [.int 0,.bytes b,.bytes c]) σ):CallOk X 16 (.ref 228) [.bytes (aM b c)] σ Q:=by
 obtain⟨code,pm,F⟩:=hX.f_parse
 refine bG F ["node"] (bk ["node"] λvs hv=>?_) (by rfl) λA L hA=>?_
 ·match vs,hv with|[v],_=>rfl
 have hk:=rC b
 have hn:(aM b c).length=(bR b).length+33:=by unfold aM;simp;omega
 have hkk:aV X σ (.ref 193):=by obtain⟨_,_,F'⟩:=hX.f_dtk;exact F'.keep
 refine ag<|az<|cW<|ar<|ab (.bytes (aM b c))<|dJ<|nC ⟨_,rfl,?_⟩
 refine cW<|ar<|ab (.bytes (aM b c))<|da<|bJ ⟨_,rfl,ie ?_⟩
 refine ag<|az<|ar<|aC<|ab (.bytes (aM b c))<|av<|gy (by omega) (by decide) (by omega)<|eg hX.g_BR<|aU ⟨_,rfl,?_⟩
 refine ag<|az<|ar<|aC<|ab (.bytes (aM b c))<|av<|gy (by omega) (by decide) (by omega)<|eg hX.g_KV<|aU ⟨_,rfl,?_⟩
 refine ag<|az<|ar<|au<|eg hX.g_len<|ad<|ab (.bytes (aM b c))<|ak ⟨trivial,gw (by omega)<|av<|xV ⟨_,rfl,?_⟩⟩
 have e:decide (((aM b c).length:Int)≤33)=false:=by rw[wA];omega
 rw[e]
 refine aB<|ag<|aZ<|fB<|ad<|eg hX.g_KV<|ad<|au<|eg hX.g_dtk<|ad<|aC<|ab (.bytes (aM b c))<|bP (lower:=some _) (upper:=some _)<|av ⟨_,rfl,vW<|av<|uP ⟨_,rfl,cr (by omega)<|ak ⟨hkk,?_⟩⟩⟩
 have c1:=AN (l:=aM b c) 1 32 (by decide)
 have c2:=BA (l:=aM b c) 32 (by decide)
 rw[show((1:Nat):Int)=1 from rfl,show((32:Nat):Int)=32 from rfl] at c1
 rw[show((32:Nat):Int)=32 from rfl] at c2
 rw[c1]
 have e1:((aM b c).drop 1).take ((aM b c).length - 32 - 1)=bR b:=by
  rw[hn]
  show(bR b++c).take _=bR b
  rw[uu (by omega)]
 rw[e1]
 refine aw (DX hX hz hb<|ad<|aC<|ab (.bytes (aM b c))<|bP (lower:=some _) (upper:=none)<|vW<|av<|uP ⟨_,rfl,cr (by omega)<|ak ⟨by rw[bn];exact cU rfl,?_⟩⟩) hA.mo
 rw[c2]
 have e2:(aM b c).drop ((aM b c).length - 32)=c:=by
  rw[hn]
  show([0]++bR b++c).drop _=c
  rw[mY (by simp)]
 rw[e2];exact h
end
abbrev BD:=List (List UInt8×List UInt8)
def BD.put:BD→List UInt8→List UInt8→BD
 |[],k,v=>[(k,v)]
 |(k',v')::l,k,v=>if k'=k then (k',v)::l else (k',v')::BD.put l k v
theorem KVs.value:∀{l:BD} {kvs:List (List UInt8×Value)},KVs l kvs→(∀b,l.lookup k=some b→∃t,valueAt kvs k=some (.bytes b.toArray t))∧(l.lookup k=none→valueAt kvs k=none)
 |[],_,h=>by
  unfold KVs at h;subst h
  exact⟨λb e=>(by cases e),λ_=>rfl⟩
 |(k',v)::l,_,h=>by
  unfold KVs at h;obtain⟨t,r,rfl,h⟩:=h
  obtain⟨h1,h2⟩:=KVs.value (k:=k) h
  by_cases e:k'=k
  ·subst e
   refine⟨λb e=>⟨t,?_⟩,λe=>?_⟩
   ·rw[List.lookup_cons_self] at e;cases e
    simp[valueAt]
   ·rw[List.lookup_cons_self] at e;cases e
  ·have ek:(k==k')=false:=by rw[ba];exact λq=>e q.symm
   have hv:valueAt ((k',Value.bytes v.toArray t)::r) k=valueAt r k:=by simp[valueAt,e]
   rw[hv]
   refine⟨λb q=>h1 b ?_,λq=>h2 ?_⟩
   ·rw[a8,ek] at q;exact q
   ·rw[a8,ek] at q;exact q
theorem KVs.keys:∀{l:BD} {kvs:List (List UInt8×Value)},KVs l kvs→kvs.map (·.1)=l.map (·.1)
 |[],_,h=>by unfold KVs at h;subst h;rfl
 |(k',v)::l,_,h=>by
  unfold KVs at h;obtain⟨t,r,rfl,h⟩:=h
  rw[bQ,bQ,KVs.keys h]
theorem KVs.len(h:KVs l kvs):kvs.length=l.length:=by
 have:=dl List.length h.keys;simpa using this
theorem zM{k:List UInt8}{u v:Value}{r:List (List UInt8×Value)}(h:k ∉ r.map (·.1)):stored ((k,u)::r) k v=(k,v)::r:=by
 unfold stored
 rw[ah (by simp),bQ,ah rfl,map_store_of_not_mem r k v h]
theorem zJ{k k':List UInt8}{u v:Value}{r:List (List UInt8×Value)}(h:k'≠k):stored ((k',u)::r) k v=(k',u)::stored r k v:=by
 unfold stored
 have e:List.any ((k',u)::r) (λkv=>decide (kv.1=k))=r.any λkv=>decide (kv.1=k):=by simp[h]
 rw[e]
 split
 ·rw[bQ,ae h]
 ·rfl
theorem KVs.put{k b:List UInt8}{t:Tok}:∀{l:BD} {kvs:List (List UInt8×Value)},KVs l kvs→(l.map (·.1)).Nodup→KVs (l.put k b) (stored kvs k (.bytes b.toArray t))
 |[],_,h,_=>by
  unfold KVs at h;subst h
  show KVs [(k,b)] [(k,.bytes b.toArray t)]
  unfold KVs;exact⟨t,[],rfl,by unfold KVs;rfl⟩
 |(k',v)::l,_,h,hn=>by
  unfold KVs at h;obtain⟨t',r,rfl,h⟩:=h
  unfold BD.put
  rw[bQ,iT] at hn
  split
  ·rename_i e
   subst e
   rw[zM (by rw[h.keys];exact hn.1)]
   unfold KVs;exact⟨t,r,rfl,h⟩
  ·rename_i e
   rw[zJ e]
   unfold KVs;exact⟨t',_,rfl,KVs.put h hn.2⟩
theorem Go.setTrk(S:Sat X g σ s)(hσ:σ a=some t)(k:Heap.SameBut a s.heap s'.heap)(h:TrkAt X.w g s'.heap a t')(hos:s'.os=s.os:=by rfl)(hg:s'.gens=s.gens:=by rfl):Go X am g σ s g (σ.set a t') s':=by
 have hga:=(S.trk a t hσ).1
 have ne:∀b o,g b=some o→b≠a:=λb o e q=>by rw[q,hga] at e;cases e
 have np:∀p∈X.tabs,p.2≠a:=λp hp q=>by have:=(S.tab p hp).2.1;rw[q,hσ] at this;cases this
 refine⟨⟨S.le,λb o e=>(k.2 b (ne b o e)).trans (S.in_ b o e),λb u e=>?_,λp hp=>?_⟩,.refl g,λ_ _ _ _=>rfl,λb o e _=>?_,hos,λb o e _=>?_,λb o e hb _ _=>?_,λp hp o vs e hd'=>⟨#[],?_⟩,by rw[hg];exact aG _,λi x e _=>by rw[hg];exact e,λi x e=>by rw[hg] at e;exact .inl e⟩
 ·unfold St.set at e
  split at e
  ·rename_i q;cases e;rw[q];exact⟨hga,h⟩
  ·rename_i q;exact⟨(S.trk b u e).1,(S.trk b u e).2.sameBut k q⟩
 ·obtain⟨e1,e2,e3,ps,e4⟩:=S.tab p hp
  refine⟨e1,by unfold St.set;rw[ae (np p hp)];exact e2,e3,ps,wU e4 k ?_ (np p hp)⟩
  cases q:g p.1 with
  |none=>exact absurd q e3
  |some o=>exact ne _ o q
 ·unfold St.set
  split
  ·rename_i q;rw[q,hσ];exact⟨λq=>(by cases q),λq=>(by cases q)⟩
  ·exact eD
 ·by_cases q:b=a
  ·subst q;exact h.at
  ·exact⟨o,(k.2 b q).trans e⟩
 ·have q:b≠a:=λq=>by rw[q,hσ] at hb;cases hb
  exact .inl ((k.2 b q).trans e)
 ·rw[k.2 _ (np p hp),e];congr 1;obtain⟨c,d,dt,sl⟩:=o;subst hd';simp
section
variable {X:Cx} {A:Around} {E:Value→Shared→Prop} {σ:St} {Q:AV→St→Prop} {a:Addr} {l:BD} {k:List UInt8}
theorem dX(S:Sat X g σ s)(h:σ a=some (.dict l)):∃kvs,s.heap.DictOf (bytesKind P0 X.w) a kvs∧KVs l kvs:=(S.trk a _ h).2
theorem i8(hσ:σ a=some (.dict l))(ha:a≠1)(h:Q (.bool (l.lookup k).isSome) σ):bh X A E (compareOp .In) (.bytes k) (.ref a) σ Q:=λg s v u S r r'=>by
 unfold Rep at r r';obtain⟨t,rfl⟩:=r;subst r'
 obtain⟨kvs,hd,hk⟩:=dX S hσ
 refine wpAny_in_of (knd:=bytesKind P0 X.w) (k:=k) (i0 P0 X.w k t) (by simpa [sysModules] using ha) hd.mapOf (Post.tok S .bool ?_)
 have e:(valueAt kvs k).isSome=(l.lookup k).isSome:=by
  obtain⟨h1,h2⟩:=hk.value (k:=k)
  cases q:l.lookup k with
  |none=>rw[h2 q];rfl
  |some b=>obtain⟨t,e⟩:=h1 b q;rw[e];rfl
 rw[e];exact h
theorem cg(hσ:σ a=some (.dict l))(hl:l.lookup k=some b)(h:Q (.bytes b) σ):bh X A E (subscriptTail value slice) (.ref a) (.bytes k) σ Q:=λg s v u S r r'=>by
 unfold Rep at r r';obtain⟨t,rfl⟩:=r';subst r
 obtain⟨kvs,hd,hk⟩:=dX S hσ
 obtain⟨t',e⟩:=(hk.value (k:=k)).1 b hl
 exact ji hd.typeIs slot_dict_getitem.lookup (wpAny_getItem_of (knd:=bytesKind P0 X.w) (k:=k) (i0 P0 X.w k t) hd.mapOf e (Post.tok S .bytes h))
theorem KVs.nodup{g:View}{s:Shared}{kvs:List (List UInt8×Value)}{l:BD}(hd:s.heap.DictOf (bytesKind P0 X.w) a kvs)(hk:KVs l kvs):(l.map (·.1)).Nodup:=by
 rw[←hk.keys];exact hd.choose_spec.choose_spec.choose_spec.2.2.2.2.2
theorem ko{P:Pv}{env:Env}{m:Mp}{o i:Expr}{pos:Pos}{b:List UInt8}{Q:Mp→St→Prop}(h:Ev X A E env m o σ λV σ₁=>V=.ref a∧Ev X A E env m i σ₁ λW σ₂=>W=.bytes k∧∃l,σ₂ a=some (.dict l)∧l.length≤65536∧Q m (σ₂.set a (.dict (BD.put l k b)))):
  As X A E P env m (.Subscript o i pos) (.bytes b) σ Q:=λg s v S F r=>by
 rw[assign_Subscript]
 refine ac (bT (aj (h g s S F) (λov s₁ ⟨g₁,V,σ₁,G₁,r₁,e₁,h₁⟩=>?_) i2))
 subst e₁
 refine ac (bT (aj (h₁ g₁ s₁ G₁.sat (F.go G₁)) (λiv s₂ ⟨g₂,W,σ₂,G₂,r₂,e₂,l,hσ,hz,hq⟩=>?_) i2))
 subst e₂
 unfold Rep at r r₁ r₂;obtain⟨t,rfl⟩:=r;obtain⟨t',rfl⟩:=r₂;subst r₁
 obtain⟨kvs,hd,hk⟩:=dX G₂.sat hσ
 refine ac (bL (ac (bT (wpAny_setItem_pairs (knd:=bytesKind P0 X.w) (k:=k) (i0 P0 X.w k t') hd (λh' hd' hs=>wpAny_release ?_) (by rw[hk.len,bn];omega)))))
 have hn:(l.map (·.1)).Nodup:=KVs.nodup (g:=g₂) hd hk
 have G₃:=Go.setTrk (s':={s₂ with heap:=h',toks:=s₂.toks+1}) G₂.sat hσ hs (t':=.dict (BD.put l k b)) ⟨_,hd',hk.put hn⟩
 have G:=(G₁.trans G₂).trans G₃
 exact⟨g₂,m,_,G.any,F.go G,hq⟩
theorem nR(hX:Base X)(h:∀a,σ a=none→a≠1→Q (.ref a) (σ.set a (.dict []))):Ev X A E env m (.Dict [] [] pos) σ Q:=λg s S F=>by
 refine wpAny_Dict_empty ?_
 have hf:=bC (a:=s.heap.objs.size) S (aG _)
 have kp:∀b o,s.heap.get? b=some o→(s.heap.push {cls:=.type "dict",data:=.dict #[]}).get? b=some o:=λb o e=>aJ _ e
 have S':=S.keeps (s':={s with heap:=s.heap.push {cls:=.type "dict",data:=.dict #[]}}) kp
 have G:Go X am g σ s g (σ.set s.heap.objs.size (.dict [])) {s with heap:=s.heap.push {cls:=.type "dict",data:=.dict #[]}}:=by
  refine⟨⟨S'.le,S'.in_,λb u e=>?_,λp hp=>?_⟩,.refl g,λ_ _ _ _=>rfl,λb o e _=>?_,.keeps kp rfl rfl⟩
  ·unfold St.set at e
   split at e
   ·rename_i q;cases e;rw[q];exact⟨hf.1,[],Heap.DictOf.new _,by unfold KVs;rfl⟩
   ·exact S'.trk b u e
  ·obtain⟨e1,e2,e3,ps,e4⟩:=S'.tab p hp
   exact⟨e1,by unfold St.set;rw[ae (hf.2.2 p hp)];exact e2,e3,ps,e4⟩
  ·unfold St.set
   rw[ae (fz (aY e))]
 refine Post.to G ⟨.ref _,by unfold Rep;rfl,h _ hf.2.1 λq=>?_⟩
 obtain⟨_,hn,_⟩:=hX.lim _ (S.in_.le S.le)
 have:=hn.lt
 rw[q] at this
 exact absurd this (by decide)
variable (hσ:σ a=some (.dict l)) (ha:a≠1)
include hσ ha
theorem uH(hz:l.length≤65536)(h:Q (.int l.length) σ):cn X A E (.blt "len") [.ref a] σ Q:=λg s fv vs S r rl=>by
 unfold Rep at r;subst r
 unfold RepL at rl;obtain⟨v,us,rfl,r,rl⟩:=rl;unfold RepL at rl;subst rl
 unfold Rep at r;subst r
 obtain⟨kvs,hd,hk⟩:=dX S hσ
 have e:=hk.len
 exact call_len_dict (by simpa [sysModules] using ha) hd (by rw[e];omega) (by rw[e];exact Post.tok S .int h)
theorem uC(h:Q (.blt "dict.get") σ):iu X A E "get" (.ref a) σ Q:=λg s v pl S r=>by
 unfold Rep at r;subst r
 obtain⟨kvs,hd,hk⟩:=dX S hσ
 obtain⟨o,es,ep,ho,hex,_⟩:=id hd
 refine getMethod_builtin hd.typeIs PySem.F.plainAttrs_dict PySem.F.slot_dict_get PySem.F.type_dict_get (λb e=>by cases e;exact⟨o,ho,hex.2.1⟩) ?_
 exact⟨g,_,σ,.refl S,by unfold Rep;rfl,rfl,h⟩
theorem Al(h:Q (.blt "dict.pop") σ):iu X A E "pop" (.ref a) σ Q:=λg s v pl S r=>by
 unfold Rep at r;subst r
 obtain⟨kvs,hd,hk⟩:=dX S hσ
 obtain⟨o,es,ep,ho,hex,_⟩:=id hd
 refine getMethod_builtin hd.typeIs PySem.F.plainAttrs_dict PySem.F.slot_dict_pop PySem.F.type_dict_pop (λb e=>by cases e;exact⟨o,ho,hex.2.1⟩) ?_
 exact⟨g,_,σ,.refl S,by unfold Rep;rfl,rfl,h⟩
theorem uy(h:Q (match l.lookup k with|some b=>.bytes b|none=>D) σ):cn X A E (.blt "dict.get") [.ref a,.bytes k,D] σ Q:=λg s fv vs S r rl=>by
 unfold Rep at r;subst r
 unfold RepL at rl;obtain⟨v,us,rfl,r,rl⟩:=rl
 unfold RepL at rl;obtain⟨u,ws,rfl,r',rl⟩:=rl
 unfold RepL at rl;obtain⟨w,zs,rfl,r'',rl⟩:=rl;unfold RepL at rl;subst rl
 unfold Rep at r r';subst r;obtain⟨t,rfl⟩:=r'
 obtain⟨kvs,hd,hk⟩:=dX S hσ
 refine call_meetsIn PySem.F.slot_dict_get hd.typeIs PySem.F.entry_dict_get (PySem.F.args_dict_get_3 _ _ _) (meets_dict_get_default (bytesKind P0 X.w) a (i0 P0 X.w k t) (by simpa [sysModules] using ha) w) ⟨_,hd.mapOf,?_⟩
 obtain⟨h1,h2⟩:=hk.value (k:=k)
 cases q:l.lookup k with
 |none=>
  rw[q] at h
  rw[h2 q]
  exact Post.tok S r'' h
 |some b=>
  rw[q] at h
  obtain⟨t',e⟩:=h1 b q
  rw[e]
  exact Post.tok S .bytes h
end
abbrev By:=List UInt8
inductive T
 |leaf (v:By)
 |kv (b:By) (t:T)
 |br (l r:T)
def jq:T→Bool
 |.kv _ _=>true
 |_=>false
def aQ(b:By):Prop:=∀c∈b,c=0∨c=1
def WF:Nat→T→Prop
 |n,.leaf v=>n=0∧v≠[]
 |n,.kv b t=>b≠[]∧aQ b∧jq t=false∧∃k,n=b.length+k∧WF k t
 |n,.br l r=>∃k,n=k+1∧WF k l∧WF k r
def look:T→By→Option By
 |.leaf v,[]=>some v
 |.leaf _,_=>none
 |.kv b t,p=>if p.take b.length=b then look t (p.drop b.length) else none
 |.br _ _,[]=>none
 |.br l r,c::p=>if c=0 then look l p else look r p
theorem oy:∀{n:Nat} {t:T},WF n t→∃p v,p.length=n∧aQ p∧look t p=some v
 |n,.leaf v,h=>⟨[],v,h.1.symm,λ_ q=>(by cases q),rfl⟩
 |n,.kv b t,h=>by
  obtain⟨hb,hbits,hk,k,e,h⟩:=h
  obtain⟨p,v,hp,hpb,hl⟩:=oy h
  refine⟨b++p,v,by rw[bg,hp,e],λc hc=>?_,?_⟩
  ·rcases dQ.mp hc with q|q
   ·exact hbits c q
   ·exact hpb c q
  ·show(if (b++p).take b.length=b then look t ((b++p).drop b.length) else none)=some v
   rw[iX,ah rfl,qx];exact hl
 |n,.br l r,h=>by
  obtain⟨k,e,h1,h2⟩:=h
  obtain⟨p,v,hp,hpb,hl⟩:=oy h1
  refine⟨0::p,v,by rw[bc,hp,e],λc hc=>?_,?_⟩
  ·rcases bv.mp hc with rfl|q
   ·exact .inl rfl
   ·exact hpb c q
  ·show(if (0:UInt8)=0 then look l p else look r p)=some v
   rw[ah rfl];exact hl
def Eqv(n:Nat)(t t':T):Prop:=∀p,p.length=n→aQ p→look t p=look t' p
theorem Eqv.symm(h:Eqv n t t'):Eqv n t' t:=λp hp hb=>(h p hp hb).symm
theorem vU(h:WF n (.br l r))(h':WF n (.kv b t))(e:Eqv n (.br l r) (.kv b t)):False:=by
 obtain⟨k,ek,h1,h2⟩:=h
 obtain⟨hb,hbits,hk,k',ek',h3⟩:=h'
 obtain⟨p,v,hp,hpb,hl⟩:=oy h1
 obtain⟨p',v',hp',hpb',hl'⟩:=oy h2
 cases b with
 |nil=>exact hb rfl
 |cons c b=>
  have e0:=e (0::p) (by rw[bc,hp,ek]) λx hx=>by
   rcases bv.mp hx with rfl|q
   ·exact .inl rfl
   ·exact hpb x q
  have e1:=e (1::p') (by rw[bc,hp',ek]) λx hx=>by
   rcases bv.mp hx with rfl|q
   ·exact .inr rfl
   ·exact hpb' x q
  have l0:look (.br l r) (0::p)=some v:=by show(if (0:UInt8)=0 then look l p else look r p)=some v;rw[ah rfl];exact hl
  have l1:look (.br l r) (1::p')=some v':=by show(if (1:UInt8)=0 then look l p' else look r p')=some v';rw[ae (by decide)];exact hl'
  rw[l0] at e0
  rw[l1] at e1
  have k0:((0:UInt8)::p).take (c::b).length=c::b:=by
   by_cases q:((0:UInt8)::p).take (c::b).length=c::b
   ·exact q
   ·have:look (.kv (c::b) t) (0::p)=none:=by unfold look;rw[ae q]
    rw[this] at e0;cases e0
  have k1:((1:UInt8)::p').take (c::b).length=c::b:=by
   by_cases q:((1:UInt8)::p').take (c::b).length=c::b
   ·exact q
   ·have:look (.kv (c::b) t) (1::p')=none:=by unfold look;rw[ae q]
    rw[this] at e1;cases e1
  rw[bc,gj] at k0 k1
  have a:=(dF k0).1
  have b:=(dF k1).1
  rw[←a] at b;exact absurd b (by decide)
theorem fT(ha:aQ a)(hb:aQ b):aQ (a++b):=λc hc=>by
 rcases dQ.mp hc with q|q
 ·exact ha c q
 ·exact hb c q
theorem il(hc:c=0∨c=1)(hb:aQ b):aQ (c::b):=λx hx=>by
 rcases bv.mp hx with rfl|q
 ·exact hc
 ·exact hb x q
theorem nA:look (.kv b t) (b++p)=look t p:=by
 show(if (b++p).take b.length=b then look t ((b++p).drop b.length) else none)=_
 rw[iX,ah rfl,qx]
theorem AD(h:look (.kv b t) p=some v):p.take b.length=b∧look t (p.drop b.length)=some v:=by
 have e:look (.kv b t) p=if p.take b.length=b then look t (p.drop b.length) else none:=rfl
 rw[e] at h
 split at h
 ·exact⟨by assumption,h⟩
 ·cases h
theorem yu(h:WF n (.kv b t))(h':WF n (.kv b' t'))(e:Eqv n (.kv b t) (.kv b' t'))(hl:b.length≤b'.length):b=b':=by
 obtain⟨hb,hbits,hk,k,ek,hw⟩:=h
 obtain⟨hb',hbits',hk',k',ek',hw'⟩:=h'
 obtain⟨p,v,hp,hpb,hlk⟩:=oy hw'
 have e0:=e (b'++p) (by rw[bg,hp,ek']) (fT hbits' hpb)
 rw[nA,hlk] at e0
 obtain⟨h1,_⟩:=AD e0
 rw[List.take_append_of_le_length hl] at h1
 have hb'e:b'=b++b'.drop b.length:=by
  have:=(dC b.length b').symm
  rw[h1] at this;exact this
 cases hc:b'.drop b.length with
 |nil=>rw[hc,ey] at hb'e;exact hb'e.symm
 |cons x c=>
  exfalso
  rw[hc] at hb'e
  have hkk:k=(x::c).length+k':=by
   have:b'.length=b.length+(x::c).length:=by rw[←bg,←hb'e]
   omega
  have hcb:aQ (x::c):=λy hy=>hbits' y (by rw[hb'e];exact gX _ hy)
  have hw2:WF k (.kv (x::c) t'):=⟨by simp,hcb,hk',k',hkk,hw'⟩
  have e2:Eqv k t (.kv (x::c) t'):=λq hq hqb=>by
   have:=e (b++q) (by rw[bg,hq,ek]) (fT hbits hqb)
   rw[nA] at this
   rw[this,hb'e]
   show(if (b++q).take (b++x::c).length=b++x::c then look t' ((b++q).drop (b++x::c).length) else none)=(if q.take (x::c).length=x::c then look t' (q.drop (x::c).length) else none)
   rw[bg,List.take_length_add_append,List.drop_length_add_append]
   simp only[ww]
  cases t with
  |leaf w=>have:=hw.1;rw[bc] at hkk;omega
  |kv _ _=>cases hk
  |br l r=>exact vU hw hw2 e2
theorem vN:∀{t t':T} {n:Nat},WF n t→WF n t'→Eqv n t t'→t=t'
 |.leaf v,.leaf v',n,h,h',e=>by
  have:=e [] h.1.symm (λ_ q=>by cases q)
  cases this;rfl
 |.leaf v,.kv b t,n,h,h',e=>by
  obtain⟨hb,_,_,k,ek,_⟩:=h'
  cases b with
  |nil=>exact absurd rfl hb
  |cons _ _=>have:=h.1;rw[bc] at ek;omega
 |.leaf v,.br l r,n,h,h',e=>by obtain⟨k,ek,_⟩:=h';have:=h.1;omega
 |.kv b t,.leaf v,n,h',h,e=>by
  obtain⟨hb,_,_,k,ek,_⟩:=h'
  cases b with
  |nil=>exact absurd rfl hb
  |cons _ _=>have:=h.1;rw[bc] at ek;omega
 |.br l r,.leaf v,n,h',h,e=>by obtain⟨k,ek,_⟩:=h';have:=h.1;omega
 |.kv b t,.br l r,n,h,h',e=>(vU h' h e.symm).elim
 |.br l r,.kv b t,n,h,h',e=>(vU h h' e).elim
 |.br l r,.br l' r',n,h,h',e=>by
  obtain⟨k,ek,h1,h2⟩:=h
  obtain⟨k',ek',h3,h4⟩:=h'
  have:k'=k:=by omega
  subst this
  have e1:l=l':=vN h1 h3 λp hp hb=>by
   have:=e (0::p) (by rw[bc,hp,ek]) (il (.inl rfl) hb)
   exact this
  have e2:r=r':=vN h2 h4 λp hp hb=>by
   have:=e (1::p) (by rw[bc,hp,ek]) (il (.inr rfl) hb)
   exact this
  rw[e1,e2]
 |.kv b t,.kv b' t',n,h,h',e=>by
  have hbb:b=b':=by
   rcases iZ b.length b'.length with q|q
   ·exact yu h h' e q
   ·exact(yu h' h e.symm q).symm
  subst hbb
  obtain⟨hb,hbits,hk,k,ek,hw⟩:=h
  obtain⟨_,_,_,k',ek',hw'⟩:=h'
  have:k'=k:=by omega
  subst this
  have:=vN hw hw' λp hp hpb=>by
   have:=e (b++p) (by rw[bg,hp,ek]) (fT hbits hpb)
   rw[nA,nA] at this;exact this
  rw[this]
def aN:By→By→Nat
 |x::a,y::b=>if x=y then aN a b+1 else 0
 |_,_=>0
def fZ(b:By):T→T
 |.kv b' t=>.kv (b++b') t
 |t=>.kv b t
def eL(p v:By)(c:Nat):T:=if p.length=c+1 then .leaf v else .kv (p.drop (c+1)) (.leaf v)
def dO(b:By)(t:T)(c:Nat):T:=if b.length=c+1 then t else .kv (b.drop (c+1)) t
def eK(b:By)(t:T)(p v:By)(c:Nat):T:=if (p.drop c).take 1=[1] then .br (dO b t c) (eL p v c) else .br (eL p v c) (dO b t c)
def fX(b:By)(t:T)(p v:By)(c:Nat):T:=if c=0 then eK b t p v c else .kv (b.take c) (eK b t p v c)
def upd:T→By→By→Option T
 |.leaf _,_,v=>if v=[] then none else some (.leaf v)
 |.kv b t,p,v=>if p.take b.length=b then (upd t (p.drop b.length) v).map (fZ b) else if v=[] then some (.kv b t) else some (fX b t p v (aN b p))
 |.br l r,p,v=>if p.take 1=[0] then (match upd l (p.drop 1) v with|some l'=>some (.br l' r)|none=>some (fZ [1] r)) else (match upd r (p.drop 1) v with|some r'=>some (.br l r')|none=>some (fZ [0] l))
theorem vv(hb:b≠[])(hbits:aQ b)(h:WF n t):WF (b.length+n) (fZ b t):=by
 cases t with
 |leaf v=>exact⟨hb,hbits,rfl,n,rfl,h⟩
 |kv b' t=>
  obtain⟨h1,h2,h3,k,e,h4⟩:=h
  exact⟨by simp[hb],fT hbits h2,h3,k,by rw[bg,e];omega,h4⟩
 |br l r=>exact⟨hb,hbits,rfl,n,rfl,h⟩
theorem qZ(p:By):look (fZ b t) p=look (.kv b t) p:=by
 cases t with
 |leaf v=>rfl
 |br l r=>rfl
 |kv b' t=>
  show(if p.take (b++b').length=b++b' then look t (p.drop (b++b').length) else none)=(if p.take b.length=b then (if (p.drop b.length).take b'.length=b' then look t ((p.drop b.length).drop b'.length) else none) else none)
  by_cases h:p.take b.length=b
  ·rw[ah h]
   have e:p=b++p.drop b.length:=by have:=(dC b.length p).symm;rw[h] at this;exact this
   generalize p.drop b.length=q at e ⊢
   subst e
   rw[bg,List.take_length_add_append,List.drop_length_add_append]
   simp only[ww]
  ·rw[ae h,ae]
   intro q
   apply h
   have:=dl (List.take b.length) q
   rw[hU,bg,eu (gt _ _),iX] at this
   exact this
theorem rP:∀(a b:By),aN a b≤a.length∧aN a b≤b.length∧a.take (aN a b)=b.take (aN a b)
 |[],b=>by simp[aN]
 |x::a,[]=>by simp[aN]
 |x::a,y::b=>by
  obtain⟨h1,h2,h3⟩:=rP a b
  unfold aN
  split
  ·rename_i e;subst e
   refine⟨by simp;exact h1,by simp;exact h2,by rw[gj,gj,h3]⟩
  ·simp
theorem vn:∀{a b:By},aN a b<a.length→aN a b<b.length→a[aN a b]?≠b[aN a b]?
 |[],b,h,_=>by cases h
 |x::a,[],_,h=>by cases h
 |x::a,y::b,h1,h2=>by
  unfold aN at h1 h2 ⊢
  split
  ·rename_i e
   rw[ah e] at h1 h2
   rw[List.getElem?_cons_succ,List.getElem?_cons_succ]
   exact vn (by simpa using h1) (by simpa using h2)
  ·rename_i e
   simpa using e
theorem yr(h:aN a b=a.length):b.take a.length=a:=by
 have:=(rP a b).2.2
 rw[h,List.take_length] at this
 exact this.symm
def FK(n:Nat)(t:T)(p v:By):Option T→Prop
 |none=>v=[]∧∀p',p'.length=n→aQ p'→p'≠p→look t p'=none
 |some t'=>WF n t'∧∀p',p'.length=n→aQ p'→look t' p'=if p'=p then (if v=[] then none else some v) else look t p'
theorem eX(b:By)(t:T)(p:By):look (.kv b t) p=if p.take b.length=b then look t (p.drop b.length) else none:=rfl
theorem dI(l r:T)(c:UInt8)(p:By):look (.br l r) (c::p)=if c=0 then look l p else look r p:=rfl
theorem vg(x d:UInt8)(t:T)(q:By):look (.kv [x] t) (d::q)=if d=x then look t q else none:=by
 rw[eX]
 show(if [d]=[x] then look t q else none)=_
 simp only[gv,and_true]
theorem yy(t:T)(q:By):look (.kv [] t) q=look t q:=by rw[eX];exact ah rfl
theorem xr(a b:By)(t:T)(p:By):look (.kv (a++b) t) p=look (.kv a (.kv b t)) p:=qZ (b:=a) (t:=.kv b t) p
theorem DO(hb:aQ b2)(hk:jq t=false)(hw:WF k t):WF (b2.length+k) (dO (a++x::b2) t a.length)∧∀q,look (dO (a++x::b2) t a.length) q=look (.kv b2 t) q:=by
 have hd:(a++x::b2).drop (a.length+1)=b2:=by rw[←hO,qx];rfl
 unfold dO
 rw[hd]
 split
 ·rename_i h
  have:b2=[]:=gV (by rw[bg,bc] at h;omega)
  subst this
  exact⟨by simpa using hw,λq=>(yy t q).symm⟩
 ·rename_i h
  refine⟨⟨λe=>h (by subst e;simp),hb,hk,k,rfl,hw⟩,λq=>rfl⟩
theorem Da(hb:aQ p2)(hv:v≠[]):WF p2.length (eL (a++y::p2) v a.length)∧∀q,q.length=p2.length→look (eL (a++y::p2) v a.length) q=if q=p2 then some v else none:=by
 have hd:(a++y::p2).drop (a.length+1)=p2:=by rw[←hO,qx];rfl
 unfold eL
 rw[hd]
 split
 ·rename_i h
  have:p2=[]:=gV (by rw[bg,bc] at h;omega)
  subst this
  refine⟨⟨rfl,hv⟩,λq hq=>?_⟩
  have:q=[]:=gV hq
  subst this;rw[ah rfl];rfl
 ·rename_i h
  refine⟨⟨λe=>h (by subst e;simp),hb,rfl,0,rfl,rfl,hv⟩,λq hq=>?_⟩
  rw[eX,←hq,List.take_length,List.drop_length]
  by_cases e:q=p2
  ·rw[ah e,ah e];rfl
  ·rw[ae e,ae e]
theorem BW(h:WF n (.kv b t))(hp:p.length=n)(hpb:aQ p)(hm:p.take b.length≠b)(hv:v≠[]):
  WF n (fX b t p v (aN b p))∧∀p',p'.length=n→aQ p'→look (fX b t p v (aN b p)) p'=if p'=p then some v else look (.kv b t) p':=by
 obtain⟨hb,hbits,hk,k,ek,hw⟩:=h
 obtain⟨c1,c2,c3⟩:=rP b p
 have hc:aN b p<b.length:=by
  rcases nw (aN b p) b.length with q|q
  ·exact q
  ·exact absurd (yr (Nat.le_antisymm c1 q)) hm
 have hc':aN b p<p.length:=by omega
 have hpart:=vn hc hc'
 generalize hcc:aN b p=c at *
 have eb:b=b.take c++b[c]::b.drop (c+1):=by rw[←wy hc,dC]
 have ep:p=p.take c++p[c]::p.drop (c+1):=by rw[←wy hc',dC]
 rw[c8 hc,c8 hc'] at hpart
 have hxy:b[c]≠p[c]:=λe=>hpart (by rw[e])
 have hx:=hbits _ (List.getElem_mem hc)
 have hy:=hpb _ (List.getElem_mem hc')
 have hal:(b.take c).length=c:=by rw[eq];omega
 have hba:aQ (b.take c):=λz hz=>hbits z (wM hz)
 have hb2:aQ (b.drop (c+1)):=λz hz=>hbits z (mN hz)
 have hp2:aQ (p.drop (c+1)):=λz hz=>hpb z (mN hz)
 rw[←c3] at ep
 generalize b[c]=x at *
 generalize p[c]=y at *
 generalize b.take c=a at *
 generalize b.drop (c+1)=b2 at *
 generalize p.drop (c+1)=p2 at *
 clear hpart c3 hc hc' c1 c2 hcc
 subst eb ep hal
 have hlen:p2.length=b2.length+k:=by simp only[bg,bc] at ek hp;omega
 obtain⟨o1,o2⟩:=DO (a:=a) (x:=x) hb2 hk hw
 obtain⟨v1,v2⟩:=Da (a:=a) (y:=y) hp2 hv
 rw[←hlen] at o1
 have n10:¬(1:UInt8)=0:=by decide
 have hsub:WF (p2.length+1) (eK (a++x::b2) t (a++y::p2) v a.length)∧jq (eK (a++x::b2) t (a++y::p2) v a.length)=false∧
   ∀d q,(d=0∨d=1)→q.length=p2.length→look (eK (a++x::b2) t (a++y::p2) v a.length) (d::q)=if d=y then (if q=p2 then some v else none) else look (.kv b2 t) q:=by
  unfold eK
  rw[qx,show(y::p2).take 1=[y] from rfl]
  rcases hy with rfl|rfl
  ·rw[ae (λz=>n10 (dF z).1.symm)]
   refine⟨⟨_,rfl,v1,o1⟩,rfl,λd q hd hq=>?_⟩
   rw[dI,v2 q hq,o2]
  ·rw[ah rfl]
   refine⟨⟨_,rfl,o1,v1⟩,rfl,λd q hd hq=>?_⟩
   rw[dI,v2 q hq,o2]
   rcases hd with rfl|rfl
   ·rw[ah rfl,ae (λz=>n10 z.symm)]
   ·rw[ae n10,ah rfl]
 obtain⟨s1,s2,s3⟩:=hsub
 have hsp:∀q,look (fX (a++x::b2) t (a++y::p2) v a.length) q=look (.kv a (eK (a++x::b2) t (a++y::p2) v a.length)) q:=λq=>by
  unfold fX
  split
  ·rename_i h
   have:a=[]:=gV h
   subst this
   exact(yy _ q).symm
  ·rw[iX]
 refine⟨?_,λp' hp' hb'=>?_⟩
 ·have hn:n=a.length+(p2.length+1):=by simp only[bg,bc] at hp;omega
  unfold fX
  split
  ·rename_i h
   have:a=[]:=gV h
   subst this
   rw[hn];simpa using s1
  ·rename_i h
   rw[iX]
   exact⟨λe=>h (by rw[e];rfl),hba,s2,_,hn,s1⟩
 ·rw[hsp,eX,xr,eX (b:=a)]
  by_cases ht:p'.take a.length=a
  ·rw[ah ht,ah ht]
   have e:p'=a++p'.drop a.length:=by have:=(dC a.length p').symm;rw[ht] at this;exact this
   generalize p'.drop a.length=r at e ⊢
   subst e
   cases r with
   |nil=>simp only[bg,bc,gu] at hp hp';omega
   |cons d q=>
    have hq:q.length=p2.length:=by simp only[bg,bc] at hp hp';omega
    have hd:=hb' d (gX _ bj)
    rw[s3 d q hd hq]
    have e1:look (.kv (x::b2) t) (d::q)=if d=x then look (.kv b2 t) q else none:=by
     rw[show x::b2=[x]++b2 from rfl,xr,vg]
    rw[e1]
    simp only[ww,gv]
    by_cases hdy:d=y
    ·subst hdy
     have hxd:¬d=x:=λz=>hxy z.symm
     simp only[true_and,if_true,hxd,dr]
    ·rw[ae hdy,ae (λz=>hdy z.1),ah]
     rcases hx with rfl|rfl<;>rcases hy with rfl|rfl<;>rcases hd with rfl|rfl<;>first|rfl|exact absurd rfl hdy|exact absurd rfl hxy
  ·rw[ae ht,ae ht,ae]
   intro e;subst e
   rw[iX] at ht;exact ht rfl
theorem fC:∀{t:T} {n:Nat} {p v:By},WF n t→p.length=n→aQ p→FK n t p v (upd t p v)
 |.leaf w,n,p,v,h,hp,hpb=>by
  obtain⟨rfl,hw⟩:=h
  have:p=[]:=gV hp
  subst this
  unfold upd
  by_cases hv:v=[]
  ·rw[ah hv]
   exact⟨hv,λp' hp' _ hne=>absurd (gV hp') hne⟩
  ·rw[ae hv]
   refine⟨⟨rfl,hv⟩,λp' hp' _=>?_⟩
   have:p'=[]:=gV hp'
   subst this
   rw[ah rfl,ae hv];rfl
 |.kv b t,n,p,v,h,hp,hpb=>by
  unfold upd
  by_cases hm:p.take b.length=b
  ·rw[ah hm]
   obtain⟨hb,hbits,hk,k,ek,hw⟩:=h
   have e:p=b++p.drop b.length:=by have:=(dC b.length p).symm;rw[hm] at this;exact this
   generalize hq:p.drop b.length=q at e ⊢
   have hql:q.length=k:=by have:=dl List.length e;rw[bg] at this;omega
   have hqb:aQ q:=λc hc=>hpb c (by rw[e];exact gX _ hc)
   have ih:=fC (v:=v) hw hql hqb
   have part:∀p':By,p'.length=n→p'≠p→p'.take b.length=b→p'.drop b.length≠q:=λp' _ hne ht hd=>hne (by
    rw[e,←hd];have:=(dC b.length p').symm;rw[ht] at this;exact this)
   cases hu:upd t q v with
   |none=>
    rw[hu] at ih
    refine⟨ih.1,λp' hp' hb' hne=>?_⟩
    rw[eX]
    split
    ·rename_i ht
     exact ih.2 _ (by rw[bA];omega) (λc hc=>hb' c (mN hc)) (part p' hp' hne ht)
    ·rfl
   |some t'=>
    rw[hu] at ih
    refine⟨by rw[ek];exact vv hb hbits ih.1,λp' hp' hb'=>?_⟩
    rw[qZ,eX]
    by_cases hpp:p'=p
    ·rw[ah hpp,hpp,ah hm,hq,ih.2 q hql hqb,ah rfl]
    ·rw[ae hpp,eX]
     split
     ·rename_i ht
      rw[ih.2 _ (by rw[bA];omega) (λc hc=>hb' c (mN hc)),ae (part p' hp' hpp ht)]
     ·rfl
  ·rw[ae hm]
   by_cases hv:v=[]
   ·rw[ah hv]
    refine⟨h,λp' hp' hb'=>?_⟩
    by_cases e:p'=p
    ·rw[ah e,ah hv,e,eX,ae hm]
    ·rw[ae e]
   ·rw[ae hv]
    obtain⟨h1,h2⟩:=BW h hp hpb hm hv
    refine⟨h1,λp' hp' hb'=>?_⟩
    rw[h2 p' hp' hb',ae hv]
 |.br l r,n,p,v,h,hp,hpb=>by
  obtain⟨k,ek,h1,h2⟩:=h
  cases p with
  |nil=>rw[gu] at hp;omega
  |cons c q=>
   have hq:q.length=k:=by rw[bc] at hp;omega
   have hqb:aQ q:=λx hx=>hpb x (aR _ hx)
   have hc:=hpb c bj
   unfold upd
   rw[show(c::q).drop 1=q from rfl,show(c::q).take 1=[c] from rfl]
   have hcons:∀{d:UInt8} {q':By},(d::q').length=n→aQ (d::q')→(d=0∨d=1)∧q'.length=k∧aQ q':=λ{d q'} hl hb=>⟨hb d bj,by rw[bc] at hl;omega,λx hx=>hb x (aR _ hx)⟩
   have n10:¬(1:UInt8)=0:=by decide
   rcases hc with rfl|rfl
   ·rw[ah rfl]
    have ih:=fC (v:=v) h1 hq hqb
    cases hu:upd l q v with
    |some l'=>
     rw[hu] at ih
     refine⟨⟨k,ek,ih.1,h2⟩,λp' hp' hb'=>?_⟩
     cases p' with
     |nil=>rw[gu] at hp';omega
     |cons d q'=>
      obtain⟨hd,hl',hbq⟩:=hcons hp' hb'
      rw[dI,dI]
      rcases hd with rfl|rfl
      ·rw[ah rfl,ah rfl,ih.2 q' hl' hbq]
       simp only[gv,true_and]
      ·rw[ae n10,ae n10,ae]
       intro q;exact n10 (dF q).1
    |none=>
     rw[hu] at ih
     refine⟨by rw[ek,Nat.add_comm];exact vv (b:=[1]) (by simp) (λc hc=>.inr (by simpa using hc)) h2,λp' hp' hb'=>?_⟩
     cases p' with
     |nil=>rw[gu] at hp';omega
     |cons d q'=>
      obtain⟨hd,hl',hbq⟩:=hcons hp' hb'
      rw[qZ,vg,dI]
      rcases hd with rfl|rfl
      ·rw[ae (λz=>n10 z.symm),ah rfl]
       by_cases e:q'=q
       ·rw[ah (by rw[e]),ah ih.1]
       ·rw[ae (by intro z;exact e (dF z).2)]
        exact(ih.2 q' hl' hbq e).symm
      ·rw[ah rfl,ae n10,ae (by intro z;exact n10 (dF z).1)]
   ·rw[ae (by intro z;exact n10 (dF z).1)]
    have ih:=fC (v:=v) h2 hq hqb
    cases hu:upd r q v with
    |some r'=>
     rw[hu] at ih
     refine⟨⟨k,ek,h1,ih.1⟩,λp' hp' hb'=>?_⟩
     cases p' with
     |nil=>rw[gu] at hp';omega
     |cons d q'=>
      obtain⟨hd,hl',hbq⟩:=hcons hp' hb'
      rw[dI,dI]
      rcases hd with rfl|rfl
      ·rw[ah rfl,ah rfl,ae]
       intro q;exact n10 (dF q).1.symm
      ·rw[ae n10,ae n10,ih.2 q' hl' hbq]
       simp only[gv,true_and]
    |none=>
     rw[hu] at ih
     refine⟨by rw[ek,Nat.add_comm];exact vv (b:=[0]) (by simp) (λc hc=>.inl (by simpa using hc)) h1,λp' hp' hb'=>?_⟩
     cases p' with
     |nil=>rw[gu] at hp';omega
     |cons d q'=>
      obtain⟨hd,hl',hbq⟩:=hcons hp' hb'
      rw[qZ,vg,dI]
      rcases hd with rfl|rfl
      ·rw[ah rfl,ah rfl,ae (by intro z;exact n10 (dF z).1.symm)]
      ·rw[ae n10,ae n10]
       by_cases e:q'=q
       ·rw[ah (by rw[e]),ah ih.1]
       ·rw[ae (by intro z;exact e (dF z).2)]
        exact(ih.2 q' hl' hbq e).symm
def Named(N:BD):T→By→Prop
 |.leaf v,h=>N.lookup (bZ v)=some h
 |.kv b t,h=>∃h',Named N t h'∧N.lookup (aM b h')=some h
 |.br l r,h=>∃hl hr,Named N l hl∧Named N r hr∧N.lookup (aO hl hr)=some h
def BD.Sub(N N':BD):Prop:=∀k v,N.lookup k=some v→N'.lookup k=some v
theorem BD.Sub.refl(N:BD):BD.Sub N N:=λ_ _ h=>h
theorem BD.Sub.trans(x:BD.Sub N N')(y:BD.Sub N' N''):BD.Sub N N'':=λk v h=>y k v (x k v h)
theorem Named.mono(s:BD.Sub N N'):∀{t:T} {h:By},Named N t h→Named N' t h
 |.leaf v,h,x=>s _ _ x
 |.kv b t,h,x=>by obtain⟨h',x1,x2⟩:=x;exact⟨h',x1.mono s,s _ _ x2⟩
 |.br l r,h,x=>by obtain⟨hl,hr,x1,x2,x3⟩:=x;exact⟨hl,hr,x1.mono s,x2.mono s,s _ _ x3⟩
theorem Named.fn:∀{t:T} {h h':By},Named N t h→Named N t h'→h=h'
 |.leaf v,h,h',x,y=>by have:=x.symm.trans y;cases this;rfl
 |.kv b t,h,h',x,y=>by
  obtain⟨a,x1,x2⟩:=x
  obtain⟨a',y1,y2⟩:=y
  have:=x1.fn y1;subst this
  have:=x2.symm.trans y2;cases this;rfl
 |.br l r,h,h',x,y=>by
  obtain⟨a,c,x1,x2,x3⟩:=x
  obtain⟨a',c',y1,y2,y3⟩:=y
  have:=x1.fn y1;subst this
  have:=x2.fn y2;subst this
  have:=x3.symm.trans y3;cases this;rfl
structure NmOk(N:BD):Prop where
 len:∀k h,N.lookup k=some h→h.length=32
 blank:∀k h,N.lookup k=some h→h≠blank
 inj:∀k k' h,N.lookup k=some h→N.lookup k'=some h→k=k'
def gh(N D:BD):Prop:=∀h x,D.lookup h=some x→N.lookup x=some h
def K(N D:BD):T→By→By→Prop
 |.leaf v,h,_=>N.lookup (bZ v)=some h∧D.lookup h=some (bZ v)
 |.kv b t,h,p=>∃h',Named N t h'∧N.lookup (aM b h')=some h∧D.lookup h=some (aM b h')∧(p.take b.length=b→K N D t h' (p.drop b.length))
 |.br l r,h,p=>∃hl hr,Named N l hl∧Named N r hr∧N.lookup (aO hl hr)=some h∧D.lookup h=some (aO hl hr)∧(if p.take 1=[0] then K N D l hl (p.drop 1) else K N D r hr (p.drop 1))
theorem K.named:∀{t:T} {h p:By},K N D t h p→Named N t h
 |.leaf v,h,p,x=>x.1
 |.kv b t,h,p,x=>by obtain⟨h',x1,x2,_⟩:=x;exact⟨h',x1,x2⟩
 |.br l r,h,p,x=>by obtain⟨hl,hr,x1,x2,x3,_⟩:=x;exact⟨hl,hr,x1,x2,x3⟩
theorem K.mono(s:BD.Sub N N')(d:BD.Sub D D'):∀{t:T} {h p:By},K N D t h p→K N' D' t h p
 |.leaf v,h,p,x=>⟨s _ _ x.1,d _ _ x.2⟩
 |.kv b t,h,p,x=>by obtain⟨h',x1,x2,x3,x4⟩:=x;exact⟨h',x1.mono s,s _ _ x2,d _ _ x3,λq=>(x4 q).mono s d⟩
 |.br l r,h,p,x=>by
  obtain⟨hl,hr,x1,x2,x3,x4,x5⟩:=x
  refine⟨hl,hr,x1.mono s,x2.mono s,s _ _ x3,d _ _ x4,?_⟩
  split
  ·rename_i q;rw[ah q] at x5;exact x5.mono s d
  ·rename_i q;rw[ae q] at x5;exact x5.mono s d
def Full(N D:BD):T→By→List By→Prop
 |.leaf v,h,L=>N.lookup (bZ v)=some h∧D.lookup h=some (bZ v)∧L=[bZ v]
 |.kv b t,h,L=>∃h' L',Full N D t h' L'∧N.lookup (aM b h')=some h∧D.lookup h=some (aM b h')∧L=aM b h'::L'
 |.br l r,h,L=>∃hl hr Ll Lr,Full N D l hl Ll∧Full N D r hr Lr∧N.lookup (aO hl hr)=some h∧D.lookup h=some (aO hl hr)∧L=aO hl hr::(Ll++Lr)
theorem Full.named:∀{t:T} {h:By} {L:List By},Full N D t h L→Named N t h
 |.leaf v,h,L,x=>x.1
 |.kv b t,h,L,x=>by obtain⟨h',L',x1,x2,_⟩:=x;exact⟨h',x1.named,x2⟩
 |.br l r,h,L,x=>by obtain⟨hl,hr,Ll,Lr,x1,x2,x3,_⟩:=x;exact⟨hl,hr,x1.named,x2.named,x3⟩
theorem Named.len(hN:NmOk N):∀{t:T} {h:By},Named N t h→h.length=32
 |.leaf v,h,x=>hN.len _ _ x
 |.kv b t,h,x=>by obtain⟨h',_,x2⟩:=x;exact hN.len _ _ x2
 |.br l r,h,x=>by obtain⟨hl,hr,_,_,x3⟩:=x;exact hN.len _ _ x3
def ck:T→Prop
 |.leaf v=>v.length≤16
 |.kv _ t=>ck t
 |.br l r=>ck l∧ck r
section
variable {X:Cx} {σ:St} (hX:Base X)
include hX
theorem kr:aV X σ (.ref 228):=by obtain⟨_,_,F'⟩:=hX.f_parse;exact F'.keep
theorem rt:aV X σ (.ref 256):=by obtain⟨_,_,F'⟩:=hX.f_gtn;exact F'.keep
theorem rI{a:Addr}{h:By}{L:List By}{k:Nat}{Q:AV→St→Prop}(hz:L.length≤65536)(hg:kI X k (.ref 263) [.ref a,.bytes h] σ (L.map .bytes))(hq:Q (.tup (L.map .bytes)) σ):CallOk X (k+7) (.ref 256) [.ref a,.bytes h] σ Q:=by
 obtain⟨code,pm,F⟩:=hX.f_gtn
 refine bG F ["db","node_hash"] (bk ["db","node_hash"] λvs hv=>?_) (by rfl) λA L hA=>?_
 ·match vs,hv with|[v,w],_=>rfl
 have hkk:aV X σ (.ref 263):=by obtain⟨_,_,F'⟩:=hX.f_gtn_;exact F'.keep
 exact ag<|aZ<|AF hX.lim hA (eg hX.g_tuple ⟨rfl,rfl⟩) (vb hA.mo<|eg hX.g_gtn_<|ad<|ab (.ref a)<|ad<|ab (.bytes h)<|ak ⟨rfl,hkk,hg⟩) (by simpa using hz) hq
theorem rA(hσ:σ a=some (.dict D))(ha:a≠1)(hN:NmOk N):∀{t:T} {n:Nat} {h:By} {L:List By},WF n t→n≤64→ck t→Full N D t h L→L.length≤65536→kI X (20+10 * n) (.ref 263) [.ref a,.bytes h] σ (L.map .bytes)
 |.leaf v,n,h,L,hw,hn,hs,hf,hz=>by
  obtain⟨f1,f2,rfl⟩:=hf
  obtain⟨pm,c,F⟩:=hX.f_gtn_
  refine nV F ["db","node_hash"] (bk ["db","node_hash"] λvs hv=>?_) (by rfl) λL=>?_
  ·match vs,hv with|[v,w],_=>rfl
  refine bU<|fW λA' hA'=>ar<|ab (.bytes h)<|ab (.ref a)<|i8 hσ ha ⟨_,rfl,?_⟩
  rw[f2]
  refine⟨rfl,bU<|jg λA'' hA''=>aE<|aC<|ab (.ref a)<|ab (.bytes h)<|cg hσ f2<|aq ⟨rfl,cK ?_⟩⟩
  refine bU<|jg λA'' hA''=>aE<|au<|eg hX.g_parse<|ad<|ab (.bytes (bZ v))<|ak ⟨kr hX,aw (km hX (by have:v.length≤16:=hs;omega) hw.2 ?_) (hA''.mono (by omega))⟩
  refine bV hA''.handled (by rfl) (by rfl)<|aF<|aq<|aF<|aq<|aF<|aq<|bW ⟨rfl,?_⟩
  refine bU<|fW λA'' hA''=>ar<|ab (.int 2)<|eg hX.g_KV<|aU ⟨_,rfl,rfl,?_⟩
  refine bU<|fW λA'' hA''=>ar<|ab (.int 2)<|eg hX.g_BR<|aU ⟨_,rfl,rfl,?_⟩
  refine bU<|fW λA'' hA''=>ar<|ab (.int 2)<|eg hX.g_LEAF<|aU ⟨_,rfl,rfl,?_⟩
  exact bU<|je λA'' hA''=>ab (.bytes (bZ v)) ⟨rfl,rfl,cK<|cK<|cK<|cK ⟨rfl,.inl rfl⟩⟩
 |.kv b t,n,h,L,hw,hn,hs,hf,hz=>by
  obtain⟨h',L',f0,f1,f2,rfl⟩:=hf
  obtain⟨hb,hbits,hk,n',en,hw'⟩:=hw
  have hb1:1≤b.length:=by cases b with|nil=>exact absurd rfl hb|cons _ _=>simp
  have ih:=rA hσ ha hN hw' (by omega) hs f0 (by simp at hz;omega)
  obtain⟨pm,c,F⟩:=hX.f_gtn_
  refine nV F ["db","node_hash"] (bk ["db","node_hash"] λvs hv=>?_) (by rfl) λL=>?_
  ·match vs,hv with|[v,w],_=>rfl
  refine bU<|fW λA' hA'=>ar<|ab (.bytes h)<|ab (.ref a)<|i8 hσ ha ⟨_,rfl,?_⟩
  rw[f2]
  refine⟨rfl,bU<|jg λA'' hA''=>aE<|aC<|ab (.ref a)<|ab (.bytes h)<|cg hσ f2<|aq ⟨rfl,cK ?_⟩⟩
  refine bU<|jg λA'' hA''=>aE<|au<|eg hX.g_parse<|ad<|ab (.bytes (aM b h'))<|ak ⟨kr hX,aw (i6 hX (by omega) hbits (f0.named.len hN) ?_) (hA''.mono (by omega))⟩
  refine bV hA''.handled (by rfl) (by rfl)<|aF<|aq<|aF<|aq<|aF<|aq<|bW ⟨rfl,?_⟩
  refine bU<|fW λA'' hA''=>ar<|ab (.int 0)<|eg hX.g_KV<|aU ⟨_,rfl,rfl,?_⟩
  rw[bQ,←ey (L'.map AV.bytes)]
  refine bU<|je λA'' hA''=>ab (.bytes (aM b h')) ⟨rfl,rfl,?_⟩
  exact bU<|qy λA'' hA''=>au<|eg hX.g_gtn<|ad<|ab (.ref a)<|ad<|ab (.bytes h')<|ak ⟨rt hX,aw (rI hX (k:=20+10 * n') (by simp at hz;omega) ih ⟨rfl,rfl,cK<|cK ⟨rfl,.inl rfl⟩⟩) (hA''.mono (by omega))⟩
 |.br l r,n,h,L,hw,hn,hs,hf,hz=>by
  obtain⟨hl,hr,Ll,Lr,f0,f0',f1,f2,rfl⟩:=hf
  obtain⟨n',en,hw1,hw2⟩:=hw
  have ih1:=rA hσ ha hN hw1 (by omega) hs.1 f0 (by simp at hz;omega)
  have ih2:=rA hσ ha hN hw2 (by omega) hs.2 f0' (by simp at hz;omega)
  obtain⟨pm,c,F⟩:=hX.f_gtn_
  refine nV F ["db","node_hash"] (bk ["db","node_hash"] λvs hv=>?_) (by rfl) λL=>?_
  ·match vs,hv with|[v,w],_=>rfl
  refine bU<|fW λA' hA'=>ar<|ab (.bytes h)<|ab (.ref a)<|i8 hσ ha ⟨_,rfl,?_⟩
  rw[f2]
  refine⟨rfl,bU<|jg λA'' hA''=>aE<|aC<|ab (.ref a)<|ab (.bytes h)<|cg hσ f2<|aq ⟨rfl,cK ?_⟩⟩
  refine bU<|jg λA'' hA''=>aE<|au<|eg hX.g_parse<|ad<|ab (.bytes (aO hl hr))<|ak ⟨kr hX,aw (i7 hX (f0.named.len hN) (f0'.named.len hN) ?_) (hA''.mono (by omega))⟩
  refine bV hA''.handled (by rfl) (by rfl)<|aF<|aq<|aF<|aq<|aF<|aq<|bW ⟨rfl,?_⟩
  refine bU<|fW λA'' hA''=>ar<|ab (.int 1)<|eg hX.g_KV<|aU ⟨_,rfl,rfl,?_⟩
  refine bU<|fW λA'' hA''=>ar<|ab (.int 1)<|eg hX.g_BR<|aU ⟨_,rfl,rfl,?_⟩
  rw[bQ,iV,←ey (Lr.map AV.bytes)]
  refine bU<|je λA'' hA''=>ab (.bytes (aO hl hr)) ⟨rfl,rfl,?_⟩
  refine bU<|qy λA'' hA''=>au<|eg hX.g_gtn<|ad<|ab (.ref a)<|ad<|ab (.bytes hl)<|ak ⟨rt hX,aw (rI hX (k:=20+10 * n') (by simp at hz;omega) ih1 ⟨rfl,rfl,?_⟩) (hA''.mono (by omega))⟩
  exact bU<|qy λA'' hA''=>au<|eg hX.g_gtn<|ad<|ab (.ref a)<|ad<|ab (.bytes hr)<|ak ⟨rt hX,aw (rI hX (k:=20+10 * n') (by simp at hz;omega) ih2 ⟨rfl,rfl,cK<|cK<|cK ⟨rfl,.inl rfl⟩⟩) (hA''.mono (by omega))⟩
end
open AutoSeq1 (wpAny_loadPart')
section
variable {prog:Program} {w:World} {A:Around} {E:Value→Shared→Prop} {s:Shared} {b:Array UInt8} {t:Tok}
theorem j7(hit:KBw.IsBytesIter s.heap it b t i)(hx:b[i]?=some c)
  (hQ:∀h',KBw.IsBytesIter h' it b t (i+1)→Heap.SameBut it s.heap h'→Q (.int (c.toNat:Int) s.toks) {s with heap:=h',toks:=s.toks+1}):wpAny (model prog w) A (Builtin.SmallTypes.nextOf (.ref it)) Q E s:=by
 obtain⟨o,ho,hc,hd⟩:=id hit
 unfold Builtin.SmallTypes.nextOf
 refine ac (fK (name:=PySem.Str.ofString "__next__") (uv hit) uD
  (dE uD (uv hit) KBw.entry_next ?_ (KBw.args_next _)))
 show wpAny _ _ (field (.ref it) 0>>= _) _ _ s
 refine ac (bM ho hd (x:=.bytes b t) rfl ?_)
 show wpAny _ _ (if (Value.bytes b t==Value.none)=true then _ else _) _ _ s
 rw[ae (show ¬((Value.bytes b t==Value.none)=true) from aT)]
 show wpAny _ _ (field (.ref it) 1>>= _) _ _ s
 refine ac (bM ho hd (x:=.int i 0) rfl ?_)
 refine ac (bw (a:=b) rfl ?_)
 simp only[eO,hx]
 refine ac (qt ho hd (by simp) (ac (wpAny_mkInt (ao ⟨_,rfl,ao (hQ _ ?_ (dD ..))⟩))))
 exact⟨_,fk _ ho (t6 (mP hd _)),(Obj.cls_mapFields ..).trans hc,by
  rw[mP hd];simp[rawInt]⟩
theorem qq(hh:A.handled=none)(hit:KBw.IsBytesIter s.heap it b t i)(hx:b[i]?=none)
  (hE:∀h' e,Heap.ExtBut it s.heap h'→(∃o,h'.get? e=some o∧o.cls=.type "StopIteration")→E (.ref e) {s with heap:=h'}):wpAny (model prog w) A (Builtin.SmallTypes.nextOf (.ref it)) Q E s:=by
 obtain⟨o,ho,hc,hd⟩:=id hit
 unfold Builtin.SmallTypes.nextOf
 refine ac (fK (name:=PySem.Str.ofString "__next__") (uv hit) uD
  (dE uD (uv hit) KBw.entry_next ?_ (KBw.args_next _)))
 show wpAny _ _ (field (.ref it) 0>>= _) _ _ s
 refine ac (bM ho hd (x:=.bytes b t) rfl ?_)
 show wpAny _ _ (if (Value.bytes b t==Value.none)=true then _ else _) _ _ s
 rw[ae (show ¬((Value.bytes b t==Value.none)=true) from aT)]
 show wpAny _ _ (field (.ref it) 1>>= _) _ _ s
 refine ac (bM ho hd (x:=.int i 0) rfl ?_)
 refine ac (bw (a:=b) rfl ?_)
 simp only[eO,hx]
 refine ac (c5 (ac (qt ho hd (by simp) ?_)))
 show wpAny _ _ (newExc (.type "StopIteration") []>>= _) _ _ _
 refine ac ?_
 simp only[newExc,newTuple]
 refine ac (di ?_ (by size_fits))
 refine ac (m:=firstArgMember _ _) (bw (a:=Value.none) (by first|rfl|(simp only[firstArgMember];rfl)) ?_)
 refine di ?_ (by size_fits)
 simp only[raiseNew]
 refine ac (qz ?_)
 first|rw[show A.in1.handled=none from hh]|rw[hh]
 refine ac (ao (qH ?_))
 exact hE _ _ (((dD ..).extBut.push _).push _) ⟨_,aX _ rfl,rfl⟩
end
structure ZD(z TI TO i1 i2:Addr):Prop where
 TIz:TI≠z
 TOz:TO≠z
 i1z:i1≠z
 i2z:i2≠z
 TITO:TI≠TO
 TIi1:TI≠i1
 TIi2:TI≠i2
 TOi1:TO≠i1
 TOi2:TO≠i2
 i12:i1≠i2
abbrev cq(f0 f1:Value)(TI TO:Addr):Obj:={cls:=.type "zip",dict:=none,data:=.fields #[f0,f1,.bool false,.ref TI,.ref TO],slots:=#[]}
structure ZSt(h:Heap)(z TI TO i1 i2:Addr)(b1:Array UInt8)(t1:Tok)(b2:Array UInt8)(t2:Tok)(k:Nat):Prop where
 z:∃f0 f1,h.get? z=some (cq f0 f1 TI TO)∧(f0=.none∨∃T:Addr,f0=rawInt T∧∃o,h.get? T=some o)
 ti:IsPair h TI (.ref i1) (.ref i2)
 to:∃a b,IsPair h TO a b
 h1:KBw.IsBytesIter h i1 b1 t1 k
 h2:KBw.IsBytesIter h i2 b2 t2 k
theorem cu(x:KBw.IsBytesIter h a b t i)(k:∀o,h.get? a=some o→h'.get? a=some o):KBw.IsBytesIter h' a b t i:=let ⟨o,e,r⟩:=x;⟨o,k o e,r⟩
section
variable {prog:Program} {w:World} {A:Around} {E:Value→Shared→Prop} {s:Shared} {b1 b2:Array UInt8} {t1 t2:Tok} {z TI TO i1 i2:Addr} {k:Nat}
theorem AW(h:Q (s.heap.get? a) s):wpAny (model prog w) A (loadIfAlive a) Q E s:=λ_ _ _=>h
theorem rn(hz:s.heap.get? z=some (cq f0 f1 TI TO))(hf:f0=.none∨∃T:Addr,f0=rawInt T∧∃o,s.heap.get? T=some o)
  (h0:f0=.none→Q true s)(h1:∀T:Addr,f0=rawInt T→∀h' f1',h'.get? z=some (cq f0 f1' TI TO)→Heap.SameBut z s.heap h'→Q false {s with heap:=h'}):wpAny (model prog w) A (Builtin.SmallTypes.ownedTupleIsFree (.ref z)) Q E s:=by
 unfold Builtin.SmallTypes.ownedTupleIsFree
 refine ac (bM hz rfl (x:=f0) rfl ?_)
 rcases hf with rfl|⟨T,rfl,o,ho⟩
 ·exact ao (h0 rfl)
 ·show wpAny _ _ (loadIfAlive (T:Int).toNat>>= _) _ _ _
  refine ac (AW ?_)
  rw[show((T:Nat):Int).toNat=T from eO T,ho]
  show wpAny _ _ (field (.ref z) 1>>= _) _ _ _
  refine ac (bM hz rfl (x:=f1) rfl ?_)
  split
  ·refine ac (fm hz (by simp) λh' hz' hs'=>ao ?_)
   exact h1 T rfl h' (.bool true) hz' hs'
  ·exact ao (h1 T rfl s.heap f1 hz ⟨rfl,λ_ _=>rfl⟩)
end
def fP(s:Shared):Code→Bool
 |.builtin "proto.yield_from" ⟨.ref a::_,_⟩=>match s.heap.get? a with
  |some o=>o.genNumber?.isSome
  |none=>false
 |_=>false
def eH(s:Shared)(t:Thread):Bool:=(t.atCollectorCode&& !t.atExit)||(match t.cur with
 |.yield _ g _ _=>(match splitAtGen t.stack with|some (fs,_,_)=>fs.any Frame.guarded|none=>false)||(g&& !fP s t.code)
 |_=>false)
def mD(s:Shared):End→Prop
 |.ret _=>True
 |.susp _ g _ _ c _ fs=>fs.any Frame.guarded=false∧(g=true→fP s c=true)
theorem vF(h:e.quiet=true):mD s e:=by
 cases e with
 |ret r=>trivial
 |susp v g l k c p fs=>
  simp only[End.quiet,uh,mO] at h
  exact⟨h.2,λq=>by rw[h.1] at q;cases q⟩
def dm(M:Model)(s:Shared)(t:Thread):Step:=if eH s t then .halt (.stuck "loud") s else stepK M.den M.prog M.w s t
theorem qE(h:eH s t=false):dm M s t=stepK M.den M.prog M.w s t:=by simp[dm,h]
theorem yp(hl:t.loud=false):eH s t=false:=by
 obtain⟨cur,code,pos,stack⟩:=t
 simp only[Thread.loud,mO] at hl
 obtain⟨h1,h2⟩:=hl
 unfold eH
 rw[h1,nq]
 cases cur<;>try rfl
 rename_i v g l k
 simp only[Thread.yieldsInsideHandler,mO] at h2
 obtain⟨h3,h4⟩:=h2
 subst h3
 show((match splitAtGen stack with|some (fs,_,_)=>fs.any Frame.guarded|none=>false)||(false&&_))=false
 rw[qs,Bool.or_false]
 exact h4
theorem stepJ_of(h:M.step s t=.go s' t'):dm M s t=.go s' t':=by
 cases hl:t.loud with
 |true=>rw[Model.step_loud M hl] at h;cases h
 |false=>
  rw[Model.step_quiet M hl] at h
  rw[qE (yp hl)];exact h
inductive ReachJ(M:Model)(base:List Frame):Shared→Sem Fin→Code→Pos→List Frame→Shared→End→Prop
 |exit {s t c p pre e}:Exits e t c p pre→ReachJ M base s t c p pre s e
 |step {s t c p pre s₁ t₁ c₁ p₁ pre₁ s' e}:dm M s ⟨t,c,p,pre++base⟩=.go s₁ ⟨t₁,c₁,p₁,pre₁++base⟩→ReachJ M base s₁ t₁ c₁ p₁ pre₁ s' e→ReachJ M base s t c p pre s' e
variable {M:Model}
theorem ReachJ.of{base s t c p pre s' e}(h:Reach M base s t c p pre s' e):ReachJ M base s t c p pre s' e:=by
 induction h with
 |exit hx=>exact .exit hx
 |step hs _ ih=>exact .step (stepJ_of hs) ih
theorem ReachJ.under{s t c p pre s₁ e₁ s' e}(h:ReachJ M (B++base) s t c p pre s₁ e₁)
  (hk:∀t' c' p' pre',Exits e₁ t' c' p' pre'→ReachJ M base s₁ t' c' p' (pre'++B) s' e):ReachJ M base s t c p (pre++B) s' e:=by
 induction h with
 |exit hx=>exact hk _ _ _ _ hx
 |step hs _ ih=>exact .step (by simpa only[gZ] using hs) (ih hk)
theorem stepJ_exit_gen{e₁ t' c' p' pre'}(s₁:Shared)(g k l c p)(st:List Frame)(hx:Exits e₁ t' c' p' pre')(hok:mD s₁ e₁):
  dm M s₁ ⟨t',c',p',pre'++.gen g k l c p::st⟩=.go (s₁.setGen g e₁.genState) ⟨k e₁.result,c,p,st⟩:=by
 cases e₁ with
 |ret r=>obtain⟨rfl,rfl⟩:=hx;exact stepJ_of (step_leaf_gen ..)
 |susp v g₀ l₀ k₀ c₀ p₀ fs=>
  obtain⟨rfl,rfl,rfl,rfl,hfs⟩:=hx
  have h:splitAtGen (pre'++.gen g k l c p::st)=some (pre',(g,k,c,p),st):=by rw[splitAtGen_append_none _ hfs,splitAtGen_gen];simp
  have hq:eH s₁ ⟨.yield v g₀ l₀ k₀,c',p',pre'++.gen g k l c p::st⟩=false:=by
   have hc:Thread.atCollectorCode ⟨.yield v g₀ l₀ k₀,c',p',pre'++.gen g k l c p::st⟩=false:=rfl
   unfold eH
   rw[hc,qs,nq]
   simp only[h]
   rw[hok.1,nq]
   cases g₀ with
   |false=>rfl
   |true=>rw[hok.2 rfl];rfl
  rw[qE hq];simp only[PySem.stepK,PySem.step,h];rfl
def RunsJ(M:Model)(Γ:Ctx)(p:Pos)(t:Sem Fin)(fs:List Frame)(s:Shared)(e:End)(s':Shared):Prop:=
 ∀base,Γ.Fits base→ReachJ M base s t Γ.code p fs s' e
theorem RunsJ.of{Γ p t fs s e s'}(h:Runs M Γ p t fs s e s'):RunsJ M Γ p t fs s e s':=λb hf=>.of (runs_reach h b hf)
theorem RunsJ.leaf{p s}(r:Result):RunsJ M Γ p (leafOf r) [] s (.ret r) s:=λ_ _=>.exit ⟨rfl,rfl⟩
theorem RunsJ.go{fs s s₁ e s'}(hs:∀st,dm M s ⟨t,Γ.code,p,st⟩=.go s₁ ⟨t₁,c₁,p₁,st⟩)(h:RunsJ M (Γ.goto c₁) p₁ t₁ fs s₁ e s'):RunsJ M Γ p t fs s e s':=λb hf=>
 .step (pre₁:=fs) (hs _) (h b (hf.goto _))
theorem RunsJ.call{c h g l k p fs s r s₁ e s'}(h₁:RunsJ M ((Γ.over fs).enter c h p) p (M.den c) [] s (.ret r) s₁)(h₂:RunsJ M Γ p (k r) fs s₁ e s'):RunsJ M Γ p (.call c h g l k) fs s e s':=λb hf=>by
 refine .step (pre₁:=.ret k h g l Γ.code p []::fs) (stepJ_of (step_call ..)) ?_
 refine ReachJ.under (B:=.ret k h g l Γ.code p []::fs) (pre:=[]) (h₁ _ ((hf.over fs).enter c k h g l p [])) ?_
 rintro _ _ _ _ ⟨rfl,rfl⟩
 exact .step (pre₁:=fs) (stepJ_of (step_leaf_ret ..)) (h₂ b hf)
theorem RunsJ.push{c h g l k p fs s e s'}(h₁:RunsJ M (Γ.goto c) p (M.den c) (.ret k h g l Γ.code p []::fs) s e s'):RunsJ M Γ p (.call c h g l k) fs s e s':=λb hf=>
 .step (pre₁:=.ret k h g l Γ.code p []::fs) (stepJ_of (step_call ..)) (h₁ b (hf.goto _))
theorem RunsJ.pop{p k h g l c₁ p₁ kp fs s e s'}(r:Result)(hr:RunsJ M (Γ.goto c₁) p₁ (k r) fs s e s'):RunsJ M Γ p (leafOf r) (.ret k h g l c₁ p₁ kp::fs) s e s':=λb hf=>
 .step (pre₁:=fs) (stepJ_of (step_leaf_ret ..)) (hr b (hf.goto _))
def WakesJ(M:Model)(Γ:Ctx)(p:Pos)(g:Nat)(r:Resume)(s:Shared)(res:GenResult)(s':Shared):Prop:=
 match s.gens[g]? with
 |none=>False
 |some (.fresh c)=>
  match r with
  |.send .none=>∃e₁ s₁,RunsJ M (Γ.wake c p) p (M.den c) [] (s.setGen g .running) e₁ s₁∧mD s₁ e₁∧res=e₁.result∧s'=s₁.setGen g e₁.genState
  |.send _=>res=.justStarted∧s'=s
  |.throw x=>res=.raised x∧s'=s.setGen g .finished
 |some (.suspended k₀ _ c₀ p₀ fs _)=>
  ∃e₁ s₁,RunsJ M (Γ.wake c₀ p) p₀ (k₀ r) fs (s.setGen g .running) e₁ s₁∧mD s₁ e₁∧res=e₁.result∧s'=s₁.setGen g e₁.genState
 |some .running=>res=.running∧s'=s
 |some .finished=>res=.finished∧s'=s
theorem WakesJ.of{Γ p g r s res s'}(h:Wakes M Γ p g r s res s'):WakesJ M Γ p g r s res s':=by
 unfold Wakes at h
 unfold WakesJ
 cases hg:s.gens[g]? with
 |none=>simp only[hg] at h
 |some gs=>
  simp only[hg] at h ⊢
  cases gs with
  |fresh c=>
   cases r with
   |send v=>
    by_cases hv:v=.none
    ·subst hv;obtain⟨e₁,s₁,a,q,b⟩:=h;exact⟨e₁,s₁,.of a,vF q,b⟩
    ·cases v<;>first|exact absurd rfl hv|exact h
   |throw x=>exact h
  |suspended k₀ l₀ c₀ p₀ fs cl=>obtain⟨e₁,s₁,a,q,b⟩:=h;exact⟨e₁,s₁,.of a,vF q,b⟩
  |running=>exact h
  |finished=>exact h
theorem RunsJ.resume{g r l k p fs s res s₁ e s'}(h:WakesJ M (Γ.over fs) p g r s res s₁)(h₂:RunsJ M Γ p (k res) fs s₁ e s'):RunsJ M Γ p (.resume g r l k) fs s e s':=by
 unfold WakesJ at h
 split at h
 ·exact h.elim
 ·rename_i c hg
  split at h
  ·obtain⟨e₁,s₂,a,hok,rfl,rfl⟩:=h
   intro b hf
   refine .step (pre₁:=.gen g k l Γ.code p::fs) (stepJ_of (step_resume_fresh _ _ _ _ _ _ _ hg)) ?_
   refine ReachJ.under (B:=.gen g k l Γ.code p::fs) (pre:=[]) (a _ ((hf.over fs).wake c g k l p)) ?_
   intro _ _ _ _ hx
   exact .step (pre₁:=fs) (by simpa only[gZ,mT,cH] using stepJ_exit_gen _ _ _ _ _ _ _ hx hok) (h₂ b hf)
  ·rename_i v hv
   obtain⟨rfl,rfl⟩:=h
   exact λb hf=>.step (pre₁:=fs) (stepJ_of (step_resume_justStarted _ _ _ _ _ _ _ hg (λq=>hv (by rw[q])))) (h₂ b hf)
  ·obtain⟨rfl,rfl⟩:=h
   exact λb hf=>.step (pre₁:=fs) (stepJ_of (step_resume_throwFresh _ _ _ _ _ _ _ _ hg)) (h₂ b hf)
 ·rename_i k₀ l₀ c₀ p₀ fs₀ cl hg
  obtain⟨e₁,s₂,a,hok,rfl,rfl⟩:=h
  intro b hf
  refine .step (pre₁:=fs₀++.gen g k l Γ.code p::fs)
   (by simpa only[gZ,mT,cH] using stepJ_of (step_resume_suspended _ _ _ _ _ _ _ _ hg)) ?_
  refine ReachJ.under (B:=.gen g k l Γ.code p::fs) (a _ ((hf.over fs).wake c₀ g k l p)) ?_
  intro _ _ _ _ hx
  exact .step (pre₁:=fs) (by simpa only[gZ,mT,cH] using stepJ_exit_gen _ _ _ _ _ _ _ hx hok) (h₂ b hf)
 ·rename_i hg
  obtain⟨rfl,rfl⟩:=h
  exact λb hf=>.step (pre₁:=fs) (stepJ_of (step_resume_running _ _ _ _ _ _ _ _ hg)) (h₂ b hf)
 ·rename_i hg
  obtain⟨rfl,rfl⟩:=h
  exact λb hf=>.step (pre₁:=fs) (stepJ_of (step_resume_finished _ _ _ _ _ _ _ _ hg)) (h₂ b hf)
def bf{α:Type}(M:Model)(Γ:Ctx):Sem α→(α→Pos→Shared→Prop)→(Value→Pos→Shared→Prop)→Pos→Shared→Prop
 |.pure a,Q,_,p,s=>Q a p s
 |.raise e,_,E,p,s=>E e p s
 |.unsupported _,_,_,_,_=>False
 |.finish _,_,_,_,_=>False
 |.rule _ k,Q,E,p,s=>bf M Γ (k ()) Q E p s
 |.at p' k,Q,E,_,s=>bf M Γ (k ()) Q E p' s
 |.load a _ k,Q,E,p,s=>∃o,s.heap.get? a=some o∧bf M Γ (k o) Q E p s
 |.update a _ f k,Q,E,p,s=>(s.heap.get? a).isSome∧bf M Γ (k ()) Q E p {s with heap:=s.heap.update a f}
 |.loadIfAlive a k,Q,E,p,s=>bf M Γ (k (s.heap.get? a)) Q E p s
 |.point _ k,Q,E,p,s=>bf M Γ (k ()) Q E p s
 |.register _ _,_,_,_,_=>False
 |.alloc o k,Q,E,p,s=>bf M Γ (k s.heap.objs.size) Q E p {s with heap:=s.heap.push o}
 |.fresh k,Q,E,p,s=>bf M Γ (k s.toks) Q E p {s with toks:=s.toks+1}
 |.ask k,Q,E,p,s=>bf M Γ (k ⟨M.prog,M.w.params⟩) Q E p s
 |.choose src n k,Q,E,p,s=>n≠0∧bf M Γ (k (M.w.draws src (s.drawn.get src) % n)) Q E p {s with drawn:=s.drawn.bump src}
 |.os q _ k,Q,E,p,s=>bf M Γ (k (Os.step s.os q).2) Q E p {s with os:=(Os.step s.os q).1}
 |.call c h _ _ k,Q,E,p,s=>∃r s',RunsJ M (Γ.enter c h p) p (M.den c) [] s (.ret r) s'∧bf M Γ (k r) Q E p s'
 |.handled own k,Q,E,p,s=>bf M Γ (k (if own then Γ.own else Γ.handled)) Q E p s
 |.genState g k,Q,E,p,s=>∃st,s.gens[g]?=some st∧bf M Γ (k st.seen) Q E p s
 |.newGen c k,Q,E,p,s=>bf M Γ (k s.gens.size) Q E p {s with gens:=s.gens.push (.fresh c)}
 |.resume g r _ k,Q,E,p,s=>∃res s',WakesJ M Γ p g r s res s'∧bf M Γ (k res) Q E p s'
 |.yield ..,_,_,_,_=>False
 |.stack k,Q,E,p,s=>bf M Γ (k ((Γ.code,p)::Γ.below)) Q E p s
 |.fork ..,_,_,_,_=>False
 |.thread k,Q,E,p,s=>bf M Γ (k 0) Q E p s
 |.await ..,_,_,_,_=>False
section
variable {α β:Type} {Γ:Ctx}
theorem Et(m:Sem α){Q E}:∀{p s},Sem.wp M Γ m Q E p s→bf M Γ m Q E p s:=by
 induction m with
 |call c h g l k ih=>intro p s ⟨r,s',a,b⟩;exact⟨r,s',.of a,ih r b⟩
 |resume g r l k ih=>intro p s ⟨res,s',a,b⟩;exact⟨res,s',.of a,ih res b⟩
 |load a part k ih=>intro p s ⟨o,a,b⟩;exact⟨o,a,ih o b⟩
 |update a part f k ih=>intro p s ⟨a,b⟩;exact⟨a,ih () b⟩
 |choose src n k ih=>intro p s ⟨a,b⟩;exact⟨a,ih _ b⟩
 |genState g k ih=>intro p s ⟨st,a,b⟩;exact⟨st,a,ih _ b⟩
 |pure=>intro p s h;exact h
 |raise=>intro p s h;exact h
 |unsupported=>intro p s h;exact h
 |finish=>intro p s h;exact h
 |register=>intro p s h;exact h
 |yield=>intro p s h;exact h
 |fork=>intro p s h;exact h
 |await=>intro p s h;exact h
 |_=>rename_i ih;intro p s h;exact ih _ h
theorem va(m:Sem α)(hQ:∀a p s,Q a p s→Q' a p s)(hE:∀e p s,E e p s→E' e p s):∀{p s},bf M Γ m Q E p s→bf M Γ m Q' E' p s:=by
 induction m with
 |call c h g l k ih=>intro p s ⟨r,s',a,b⟩;exact⟨r,s',a,ih r b⟩
 |resume g r l k ih=>intro p s ⟨res,s',a,b⟩;exact⟨res,s',a,ih res b⟩
 |load a part k ih=>intro p s ⟨o,a,b⟩;exact⟨o,a,ih o b⟩
 |update a part f k ih=>intro p s ⟨a,b⟩;exact⟨a,ih () b⟩
 |choose src n k ih=>intro p s ⟨a,b⟩;exact⟨a,ih _ b⟩
 |genState g k ih=>intro p s ⟨st,a,b⟩;exact⟨st,a,ih _ b⟩
 |pure=>intro p s h;exact hQ _ _ _ h
 |raise=>intro p s h;exact hE _ _ _ h
 |unsupported=>intro p s h;exact h
 |finish=>intro p s h;exact h
 |register=>intro p s h;exact h
 |yield=>intro p s h;exact h
 |fork=>intro p s h;exact h
 |await=>intro p s h;exact h
 |_=>rename_i ih;intro p s h;exact ih _ h
theorem ve(m:Sem α)(f:α→Sem β)(Q E p s):bf M Γ (m.bind f) Q E p s=bf M Γ m (λa p' s'=>bf M Γ (f a) Q E p' s') E p s:=by
 induction m generalizing p s<;>simp only[Sem.bind,bf, *]
theorem BL(m:Sem α)(f:α→Sem β)(Q E p s):bf M Γ (m>>= f) Q E p s=bf M Γ m (λa p' s'=>bf M Γ (f a) Q E p' s') E p s:=ve m f Q E p s
theorem AB(m:Sem α)(h:Value→Sem α)(Q E p s):bf M Γ (m.tryCatch h) Q E p s=bf M Γ m Q (λe p' s'=>bf M Γ (h e) Q E p' s') p s:=by
 induction m generalizing p s<;>simp only[Sem.tryCatch,bf, *]
theorem AL(m:Sem α)(h:Value→Sem Unit)(Q E p s):bf M Γ (m.onRaise h) Q E p s=bf M Γ m Q (λe p' s'=>bf M Γ (h e) (λ_ p'' s''=>E e p'' s'') E p' s') p s:=by
 induction m generalizing p s<;>simp only[Sem.onRaise,bf,ve, *]
theorem AS(m:Sem α)(Q:Except Value α→Pos→Shared→Prop)(E p s):bf M Γ m.attempt Q E p s=bf M Γ m (λa=>Q (.ok a)) (λe=>Q (.error e)) p s:=by
 simp only[Sem.attempt,AB,ve,bf]
theorem yt(vs:List Value)(m:Sem α)(Q E p s):bf M Γ (m.keep vs) Q E p s=bf M Γ m Q E p s:=by
 induction m generalizing p s<;>simp only[Sem.keep,bf, *]
theorem AP(vs:List Value)(m:Sem α)(Q E p s):bf M Γ (holding vs m) Q E p s=bf M Γ m Q E p s:=by
 rw[holding_eq_keep,yt]
theorem uO{fs:List Frame}{Φ:End→Shared→Prop}(K:α→Sem Fin)(H:Value→Sem Fin)(gd lv)(m:Sem α):
  ∀{Q:α→Pos→Shared→Prop} {E:Value→Pos→Shared→Prop} {p:Pos} {s:Shared},bf M (Γ.over fs) m Q E p s→
   (∀a p' s',Q a p' s'→∃e s'',RunsJ M Γ p' (K a) fs s' e s''∧Φ e s'')→
   (∀x p' s',E x p' s'→∃e s'',RunsJ M Γ p' (H x) fs s' e s''∧Φ e s'')→
   ∃e s'',RunsJ M Γ p (m.wrap K H gd lv) fs s e s''∧Φ e s'':=by
 induction m with
 |pure a=>intro Q E p s h hQ _;exact hQ a p s h
 |raise x=>intro Q E p s h _ hE;exact hE x p s h
 |unsupported what=>intro Q E p s h;exact h.elim
 |finish x=>intro Q E p s h;exact h.elim
 |register a k=>intro Q E p s h;exact h.elim
 |yield v g l k=>intro Q E p s h;exact h.elim
 |fork c k=>intro Q E p s h;exact h.elim
 |await a f d l k=>intro Q E p s h;exact h.elim
 |rule tag k ih=>intro Q E p s h hQ hE;obtain⟨e,s'',hr,hΦ⟩:=ih () h hQ hE;exact⟨e,s'',hr.go (λst=>stepJ_of (step_rule ..)),hΦ⟩
 |«at» p' k ih=>intro Q E p s h hQ hE;obtain⟨e,s'',hr,hΦ⟩:=ih () h hQ hE;exact⟨e,s'',hr.go (λst=>stepJ_of (step_at ..)),hΦ⟩
 |load a part k ih=>
  intro Q E p s h hQ hE;obtain⟨o,ho,h⟩:=h
  obtain⟨e,s'',hr,hΦ⟩:=ih o h hQ hE;exact⟨e,s'',hr.go (λst=>stepJ_of (step_load _ _ _ _ _ _ _ ho)),hΦ⟩
 |update a part f k ih=>
  intro Q E p s h hQ hE;obtain⟨ha,h⟩:=h
  obtain⟨e,s'',hr,hΦ⟩:=ih () h hQ hE;exact⟨e,s'',hr.go (λst=>stepJ_of (step_update _ _ _ _ _ _ _ _ ha)),hΦ⟩
 |alloc o k ih=>intro Q E p s h hQ hE;obtain⟨e,s'',hr,hΦ⟩:=ih _ h hQ hE;exact⟨e,s'',hr.go (λst=>stepJ_of (step_alloc ..)),hΦ⟩
 |loadIfAlive a k ih=>intro Q E p s h hQ hE;obtain⟨e,s'',hr,hΦ⟩:=ih _ h hQ hE;exact⟨e,s'',hr.go (λst=>stepJ_of (step_loadIfAlive ..)),hΦ⟩
 |point l k ih=>intro Q E p s h hQ hE;obtain⟨e,s'',hr,hΦ⟩:=ih () h hQ hE;exact⟨e,s'',hr.go (λst=>stepJ_of (step_point ..)),hΦ⟩
 |fresh k ih=>intro Q E p s h hQ hE;obtain⟨e,s'',hr,hΦ⟩:=ih _ h hQ hE;exact⟨e,s'',hr.go (λst=>stepJ_of (step_fresh ..)),hΦ⟩
 |ask k ih=>intro Q E p s h hQ hE;obtain⟨e,s'',hr,hΦ⟩:=ih _ h hQ hE;exact⟨e,s'',hr.go (λst=>stepJ_of (step_ask ..)),hΦ⟩
 |choose src n k ih=>
  intro Q E p s h hQ hE;obtain⟨hn,h⟩:=h
  obtain⟨e,s'',hr,hΦ⟩:=ih _ h hQ hE;exact⟨e,s'',hr.go (λst=>stepJ_of (step_choose _ _ _ _ _ _ _ hn)),hΦ⟩
 |os q l k ih=>intro Q E p s h hQ hE;obtain⟨e,s'',hr,hΦ⟩:=ih _ h hQ hE;exact⟨e,s'',hr.go (λst=>stepJ_of (step_os ..)),hΦ⟩
 |call c h g l k ih=>
  intro Q E p s hw hQ hE;obtain⟨r,s₁,hret,hw⟩:=hw
  obtain⟨e,s'',hr,hΦ⟩:=ih r hw hQ hE;exact⟨e,s'',.call hret hr,hΦ⟩
 |handled own k ih=>
  intro Q E p s h hQ hE;obtain⟨e,s'',hr,hΦ⟩:=ih _ h hQ hE
  refine⟨e,s'',λb hf=>.step (pre₁:=fs) ?_ (hr b hf),hΦ⟩
  have hf':=hf.over fs
  have e:(if own=true then (Γ.over fs).own else (Γ.over fs).handled)=topHandled (if own then ownFrames (fs++b) else fs++b):=by
   cases own
   ·exact hf'.handled
   ·exact hf'.own
  rw[e]
  exact stepJ_of (step_handled ..)
 |newGen c k ih=>intro Q E p s h hQ hE;obtain⟨e,s'',hr,hΦ⟩:=ih _ h hQ hE;exact⟨e,s'',hr.go (λst=>stepJ_of (step_newGen ..)),hΦ⟩
 |genState g k ih=>
  intro Q E p s h hQ hE;obtain⟨st,hg,h⟩:=h
  obtain⟨e,s'',hr,hΦ⟩:=ih _ h hQ hE;exact⟨e,s'',hr.go (λst=>stepJ_of (step_genState _ _ _ _ _ _ hg)),hΦ⟩
 |resume g r l k ih=>
  intro Q E p s h hQ hE;obtain⟨res,s₁,hwk,h⟩:=h
  obtain⟨e,s'',hr,hΦ⟩:=ih res h hQ hE
  exact⟨e,s'',.resume hwk hr,hΦ⟩
 |stack k ih=>
  intro Q E p s h hQ hE;obtain⟨e,s'',hr,hΦ⟩:=ih _ h hQ hE
  refine⟨e,s'',λb hf=>.step (pre₁:=fs) ?_ (hr b hf),hΦ⟩
  have hf':=hf.over fs
  rw[hf'.below];exact stepJ_of (step_stack ..)
 |thread k ih=>intro Q E p s h hQ hE;obtain⟨e,s'',hr,hΦ⟩:=ih _ h hQ hE;exact⟨e,s'',hr.go (λst=>stepJ_of (step_thread ..)),hΦ⟩
end
def aI{α:Type}(M:Model)(A:Around)(t:Sem α)(Q:α→Shared→Prop)(E:Value→Shared→Prop)(s:Shared):Prop:=
 ∀Γ p,Γ.In A→bf M Γ t (λa _ s'=>Q a s') (λe _ s'=>E e s') p s
def cM(M:Model)(A:Around)(c:Code)(R:Result→Shared→Prop)(s:Shared):Prop:=
 ∀Γ p,Γ.code=c→Γ.Below A→∃r s',RunsJ M Γ p (M.den c) [] s (.ret r) s'∧R r s'
section
variable {α β:Type} {A:Around} {E:Value→Shared→Prop} {s:Shared}
theorem df(h:wpAny M A t Q E s):aI M A t Q E s:=λΓ p hΓ=>Et t (h Γ p hΓ)
theorem Gi(h:codeAny M A c R s):cM M A c R s:=λΓ p hc hΓ=>by
 obtain⟨r,s',a,b⟩:=h Γ p hc hΓ
 exact⟨r,s',hc▸.of a,b⟩
theorem dG(h:aI M A t Q E s)(hQ:∀a s,Q a s→Q' a s)(hE:∀e s,E e s→E' e s):aI M A t Q' E' s:=
 λΓ p hΓ=>va t (λa _ s=>hQ a s) (λe _ s=>hE e s) (h Γ p hΓ)
theorem nD(h:cM M A c R s)(hR:∀r s,R r s→R' r s):cM M A c R' s:=λΓ p hc hΓ=>by
 obtain⟨r,s',a,b⟩:=h Γ p hc hΓ
 exact⟨r,s',a,hR _ _ b⟩
theorem ch(h:Q a s):aI M A (pure a) Q E s:=λ_ _ _=>h
theorem c9(h:aI M A m (λa s'=>aI M A (f a) Q E s') E s):aI M A (m>>= f) Q E s:=λΓ p hΓ=>by
 rw[BL]
 exact va m (λa p' s' h'=>h' Γ p' hΓ) (λ_ _ _ h'=>h') (h Γ p hΓ)
theorem bl(h:wpAny M A m (λa s'=>aI M A (f a) Q E s') E s):aI M A (m>>= f) Q E s:=c9 (df h)
theorem qC{m:Sem α}{Q:Except Value α→Shared→Prop}(h:aI M A m (λa=>Q (.ok a)) (λe=>Q (.error e)) s):aI M A m.attempt Q E s:=λΓ p hΓ=>by rw[AS];exact h Γ p hΓ
theorem qD(h:aI M A m Q E s):aI M A (holding vs m) Q E s:=λΓ p hΓ=>by rw[AP];exact h Γ p hΓ
theorem xj(h:aI M A m Q ai s):aI M A (m.onRaise k) Q E s:=λΓ p hΓ=>by
 rw[AL]
 exact va m (λ_ _ _ h'=>h') (λe p' s' h'=>h'.elim) (h Γ p hΓ)
theorem xh(hc:cM M A c (λr s'=>∃v,r=.ok (.ret v)∧Q v s') s):aI M A (runValue c) Q E s:=λΓ p hΓ=>by
 obtain⟨r,s',hr,v,rfl,hq⟩:=hc _ p rfl (hΓ.enter c none p (by intro x;cases x))
 exact⟨_,s',hr,hq⟩
theorem rz(hc:cM M A (.call f ⟨pos,kw⟩) (λr s'=>∃v,r=.ok (.ret v)∧Q v s') s):aI M A (call f pos kw) Q E s:=xh hc
theorem gz{c:Code}{R:Result→Shared→Prop}(h:aI M (A.under c) (M.den c) (λfin s'=>match fin with|.done f=>R (.ok f) s'|.again c'=>c'.quiet=true∧cM M A c' R s') (λe s'=>R (.error e) s') s):cM M A c R s:=λΓ p hc hΓ=>by
 have hw:(M.den c).wrap .pure .raise id id=M.den c:=by
  generalize M.den c=t
  induction t<;>simp only[Sem.wrap,id, *]
 subst hc
 have e0:Γ.over []=Γ:=rfl
 obtain⟨e,s',hr,r,rfl,hR⟩:=uO (Γ:=Γ) (fs:=[]) (Φ:=λe s'=>∃r,e=.ret r∧R r s') .pure .raise id id (M.den Γ.code) (e0▸h Γ p hΓ.in) (λfin p' s' h'=>by
   cases fin with
   |done f=>exact⟨_,s',.leaf (.ok f),_,rfl,h'⟩
   |again c'=>
    obtain⟨hq,hc⟩:=h'
    obtain⟨r,s'',hr,hR⟩:=hc (Γ.goto c') p' rfl (hΓ.goto c')
    exact⟨_,s'',RunsJ.go (c₁:=c') (λst=>stepJ_of (step_again _ _ _ _ _ _ hq)) hr,r,rfl,hR⟩) (λx p' s' h'=>⟨_,s',.leaf (.error x),_,rfl,h'⟩)
 rw[hw] at hr
 exact⟨r,s',hr,hR⟩
end
def SegG(M:Model)(A:Around)(c:Code)(t:Sem Fin)(fs:List Frame)(s:Shared)(P:End→Shared→Prop):Prop:=
 ∀Γ p,Γ.code=c→Γ.Woken A→∃e s',RunsJ M Γ p t fs s e s'∧mD s' e∧P e s'
section
variable {A:Around} {c:Code} {fs:List Frame} {P:End→Shared→Prop} {s:Shared} {t:Sem Fin}
theorem SegG.of(h:SegX M A c t fs s P):SegG M A c t fs s P:=λΓ p hc hΓ=>by
 obtain⟨e,s',hr,hq,hp⟩:=h Γ p hc hΓ
 exact⟨e,s',.of hr,vF hq,hp⟩
theorem SegG.mono(x:SegG M A c t fs s P)(h:∀e s',P e s'→P' e s'):SegG M A c t fs s P':=λΓ p hc hΓ=>by
 obtain⟨e,s',hr,hq,hp⟩:=x Γ p hc hΓ
 exact⟨e,s',hr,hq,h e s' hp⟩
theorem xz{α:Type}{m:Sem α}{K:α→Sem Fin}{H:Value→Sem Fin}{gd:Bool→Bool}{lv:List Value→List Value}
  (h:aI M (A.over c fs) m (λa s'=>SegG M A c (K a) fs s' P) ai s):SegG M A c (m.wrap K H gd lv) fs s P:=by
 rintro Γ p rfl hΓ
 exact uO (Φ:=λe s'=>mD s' e∧P e s') K H gd lv m (h (Γ.over fs) p (hΓ.over fs)) (λa p' s' h'=>h' Γ p' rfl hΓ) (λx p' s' h'=>h'.elim)
theorem fA{α:Type}{m:Sem α}{K:α→Sem Fin}(h:aI M (A.over c fs) m (λa s'=>SegG M A c (K a) fs s' P) ai s):SegG M A c (m>>= K) fs s P:=by
 rw[el];exact xz h
theorem B2(x:∀p,SegG M A c' (M.den c') (.ret k hd g l c p []::fs) s P):SegG M A c (.call c' hd g l k) fs s P:=by
 rintro Γ p rfl hΓ
 obtain⟨e,s',hr,hq⟩:=x p (Γ.goto c') p rfl (hΓ.goto c')
 exact⟨e,s',.push hr,hq⟩
theorem xI(hq:c'.quiet=true)(x:SegG M A c' (M.den c') fs s P):SegG M A c (.pure (.again c')) fs s P:=by
 rintro Γ p rfl hΓ
 obtain⟨e,s',hr,hq'⟩:=x (Γ.goto c') p rfl (hΓ.goto c')
 exact⟨e,s',hr.go (λst=>stepJ_of (step_again _ _ _ _ _ _ hq)),hq'⟩
theorem yn{kp}(x:SegG M A c₁ (k r) fs s P):SegG M A c (leafOf r) (.ret k hd g l c₁ p₁ kp::fs) s P:=by
 rintro Γ p rfl hΓ
 obtain⟨e,s',hr,hq⟩:=x (Γ.goto c₁) p₁ rfl (hΓ.goto c₁)
 exact⟨e,s',.pop r hr,hq⟩
theorem CG(x:P (.ret r) s):SegG M A c (leafOf r) [] s P:=by
 rintro Γ p rfl _
 exact⟨.ret r,s,.leaf r,trivial,x⟩
theorem xL(hfs:splitAtGen fs=none)(hfg:fs.any Frame.guarded=false)(hg:gf=true→fP s c=true)(x:∀p,P (.susp v gf l k c p fs) s):SegG M A c (.yield v gf l k) fs s P:=by
 rintro Γ p rfl _
 exact⟨.susp v gf l k Γ.code p fs,s,λb _=>.exit ⟨rfl,rfl,rfl,rfl,hfs⟩,⟨hfg,hg⟩,x p⟩
end
def Cx.wb(X:Cx)(b:Nat→Prop):Cx:={X with u:=λi=>X.u i∨b i}
section
variable {X:Cx} {P:Pv} {g g':View} {σ σ':St} {s s':Shared} {b b':Nat→Prop}
theorem Sat.wb(S:Sat X g σ s):Sat (X.wb b) g σ s:=⟨S.le,S.in_,S.trk,S.tab⟩
theorem Sat.unwb(S:Sat (X.wb b) g σ s):Sat X g σ s:=⟨S.le,S.in_,S.trk,S.tab⟩
theorem Frm.wb(F:Frm X env m g σ s):Frm (X.wb b) env m g σ s:=⟨F.kind,F.free,F.ns,F.cells,F.var,F.inj,F.csz,F.own⟩
theorem Frm.unwb(F:Frm (X.wb b) env m g σ s):Frm X env m g σ s:=⟨F.kind,F.free,F.ns,F.cells,F.var,F.inj,F.csz,F.own⟩
theorem Go.wb(G:Go X P g σ s g' σ' s'):Go (X.wb b) P g σ s g' σ' s':=
 ⟨G.sat.wb,G.le,G.new,G.st,G.run.os,G.run.dom,G.run.keep,G.run.tab,G.run.gsize,G.run.gold,λi x e=>(G.run.gbare i x e).imp id λh=>h.imp id .inl⟩
theorem Go.rewb(G:Go (X.wb b) P g σ s g' σ' s')(h:∀i x,b i→s'.gens[i]?=some x→x.bare=true∨b' i):Go (X.wb b') P g σ s g' σ' s':=
 ⟨G.sat.unwb.wb,G.le,G.new,G.st,G.run.os,G.run.dom,G.run.keep,G.run.tab,G.run.gsize,G.run.gold,λi x e=>(G.run.gbare i x e).imp id λq=>by
  rcases q with q|q|q
  ·exact .inl q
  ·exact .inr (.inl q)
  ·exact(h i x q e).imp id .inr⟩
theorem Go.unwb(G:Go (X.wb b) P g σ s g' σ' s')(h:∀i x,b i→s'.gens[i]?=some x→x.bare=true):Go X P g σ s g' σ' s':=
 ⟨G.sat.unwb,G.le,G.new,G.st,G.run.os,G.run.dom,G.run.keep,G.run.tab,G.run.gsize,G.run.gold,λi x e=>(G.run.gbare i x e).imp id λq=>by
  rcases q with q|q|q
  ·exact .inl q
  ·exact .inr q
  ·exact .inl (h i x q e)⟩
theorem Go.setGenU(S:Sat X g σ s)(hP:P.n i)(hx:X.u i):Go X P g σ s g σ (s.setGen i x):=by
 refine⟨S.heap rfl,.refl g,λ_ _ _ _=>rfl,λ_ _ _ _=>eD,rfl,λa o e _=>⟨o,e⟩,λa o e _ _ _=>.inl e,λp _ o vs e hd=>⟨#[],by rw[qG,e];congr 1;obtain⟨c,d,dt,sl⟩:=o;subst hd;simp⟩,by rw[dV];exact aG _,λj y e hp=>?_,λj y e=>?_⟩
 ·rw[cZ,ae];exact e
  rintro⟨rfl,_⟩;exact hp hP
 ·rw[cZ] at e
  split at e
  ·rename_i q;cases e;exact .inr (.inr (q.1▸hx))
  ·exact .inl e
theorem Go.underGenU(G:Go X P g σ (s.setGen i x) g' σ' s')(hi:i<s.gens.size)(hP:¬P.n i):Go X P g σ (s.setGen i y) g' σ' (s'.setGen i y):=by
 have hs:i<s'.gens.size:=bu (by rw[dV];exact hi) G.run.gsize
 refine⟨G.sat.heap rfl,G.le,G.new,G.st,G.run.os,G.run.dom,G.run.keep,G.run.tab,?_,λj z e hp=>?_,λj z e=>?_⟩
 ·rw[dV,dV];have:=G.run.gsize;rwa [dV] at this
 ·rw[cZ] at e ⊢
  by_cases hj:j=i
  ·subst hj;rw[ah ⟨rfl,hi⟩] at e;rw[ah ⟨rfl,hs⟩];exact e
  ·rw[ae (λq=>hj q.1)] at e ⊢
   exact G.run.gold j z (by rw[cZ,ae (λq=>hj q.1)];exact e) hp
 ·rw[cZ] at e
  by_cases hj:j=i
  ·subst hj;rw[ah ⟨rfl,hs⟩] at e;cases e;left;rw[cZ,ah ⟨rfl,hi⟩]
  ·rw[ae (λq=>hj q.1)] at e
   rcases G.run.gbare j z e with h|h
   ·left;rw[cZ,ae (λq=>hj q.1)] at h ⊢;exact h
   ·exact .inr h
end
def PstG(X:Cx)(k:Nat)(σ:St):List AV→Pv→(Nat→Prop)→View→Shared→End→Shared→Prop
 |[],own,b,g₀,s₀,e,s'=>(∃f,e=.ret (.ok f)∧(f=.next∨f=.ret .none))∧∃g',Go X own g₀ σ s₀ g' σ s'∧∀i x,b i→s'.gens[i]?=some x→x.bare=true
 |V::l,own,b,g₀,s₀,e,s'=>∃v gf lv kk c' p fs' g' own' b',e=.susp v gf lv kk c' p fs'∧own'.Le s₀ own∧own'.Ex s'∧(∀i,b' i→own'.n i)∧Go (X.wb b') own g₀ σ s₀ g' σ s'∧(∀i x,b i→s'.gens[i]?=some x→x.bare=true∨b' i)∧Rep g' V v∧
   ∀P g'' s'',Go X P g' σ s' g'' σ s''→own'.Apart P→∀A,Room A (k+1)→SegG (model P0 X.w) A c' (kk (.send .none)) fs' s'' (PstG X k σ l own' b' g'' s'')
theorem PstG.rebase(hu:∀i,¬X.u i)(G:Go X own g₀ σ s₀ g₁ σ s₁)(hle:own₁.Le s₀ own)(hb:∀i x,b i→s₁.gens[i]?=some x→x.bare=true)
  (h:PstG X k σ l own₁ (λ_=>False) g₁ s₁ e s'):PstG X k σ l own b g₀ s₀ e s':=by
 cases l with
 |nil=>
  obtain⟨h1,g',G',_⟩:=h
  exact⟨h1,g',G.comp G' hle,λi x hi ex=>by
   rcases G'.run.gbare i x ex with q|q|q
   ·exact hb i x hi q
   ·exact q
   ·exact(hu i q).elim⟩
 |cons V l=>
  obtain⟨v,gf,lv,kk,c',p,fs',g',own',b',rfl,h1,h2,h3,G',h4,h5,h6⟩:=h
  refine⟨v,gf,lv,kk,c',p,fs',g',own',b',rfl,h1.back' G.run hle,h2,h3,G.wb.comp G' hle,λi x hi ex=>?_,h5,h6⟩
  rcases G'.run.gbare i x ex with q|q|q|q
  ·exact .inl (hb i x hi q)
  ·exact .inl q
  ·exact(hu i q).elim
  ·exact .inr q
def cL(X:Cx)(k:Nat)(σ:St):Mach X k σ where
 Z A l own₀ g₀ s₀ c t fs s:=SegG (model P0 X.w) A c t fs s (PstG X k σ l own₀ (λ_=>False) g₀ s₀)
 okY c gf s:=gf=true→fP s c=true
 wrap h:=xz (df h)
 call h:=B2 h
 leaf f h:=yn (r:=.ok f) h
 again hq h:=xI hq h
 ok0 _ _:=λh=>by cases h
 yld {A l own₀ g₀ s₀ c fs s V v gf lv own g kk} hfs hfg hg G hle hex r h:=
  xL hfs hfg hg λp=>⟨v,gf,lv,kk,c,p,fs,g,own,λ_=>False,rfl,hle,hex,λ_ h=>h.elim,G.wb,λ_ _ h=>h.elim,r,h⟩
 fin {A own₀ g₀ s₀ c s g f} G hf:=CG (r:=.ok f) ⟨⟨f,rfl,hf⟩,g,G,λ_ _ h=>h.elim⟩
def IsGenS(h:Heap)(a:Addr)(g:Nat):Prop:=∃o nm qn,h.get? a=some o∧o.cls=.type "generator"∧o.data=.fields #[.int g 0,nm,qn]∧(o.slots=#[]∨o.slots=#[some (rawInt 0)])
theorem IsGenS.of{a g}(x:h.IsGen a g):IsGenS h a g:=let ⟨o,nm,qn,h1,h2,h3,h4⟩:=x;⟨o,nm,qn,h1,h2,h3,.inl h4⟩
theorem IsGenS.typeIs{s:Shared}{a g}(x:IsGenS s.heap a g):s.TypeIs (.ref a) "generator":=let ⟨o,_,_,ho,hc,_⟩:=x;⟨o,ho,hc⟩
theorem Bf(hg:IsGenS s.heap a g)(h:Q g s):wpAny M A (Builtin.Generator.genNumber (.ref a)) Q E s:=by
 obtain⟨o,nm,qn,ho,_,hd,hsl⟩:=hg
 unfold Builtin.Generator.genNumber
 refine ac (ja ho ?_)
 rcases hsl with hsl|hsl
 ·rw[hsl,hd]
  show wpAny M A (pure ((g:Int).toNat)) Q E s
  rw[eO];exact ao h
 ·rw[hsl,hd]
  show wpAny M A (pure ((g:Int).toNat)) Q E s
  rw[eO];exact ao h
def ReadyG(X:Cx)(k:Nat)(σ:St)(gi:Nat)(l:List AV)(own:Pv)(b:Nat→Prop)(g:View)(s:Shared):Prop:=
 ∃gs c₀ t₀ fs₀,s.gens[gi]?=some gs∧((gs=.fresh c₀∧t₀=denote table c₀∧fs₀=[])∨(∃k₀ l₀ p₀ cl,gs=.suspended k₀ l₀ c₀ p₀ fs₀ cl∧t₀=k₀ (.send .none)))∧
  ∀P g'' s'',Go X P g σ s g'' σ s''→own.Apart P→¬P.n gi→∀A,Room A (k+1)→SegG (model P0 X.w) A c₀ t₀ fs₀ (s''.setGen gi .running) (PstG X k σ l own b g'' (s''.setGen gi .running))
theorem ReadyG.go(R:ReadyG X k σ gi l ob b g s)(G:Go X P g σ s g' σ s')(ha:ob.Apart P)(hn:¬P.n gi):ReadyG X k σ gi l ob b g' s':=by
 obtain⟨gs,c₀,t₀,fs₀,hgs,hform,hrun⟩:=R
 refine⟨gs,c₀,t₀,fs₀,G.run.gold gi gs hgs hn,hform,λP' g'' s'' G' ha' hn' A hA=>?_⟩
 refine hrun (P.sup P') g'' s'' ((G.weaken Pv.le_left).trans (G'.weaken Pv.le_right)) ⟨λa h1 h2=>?_,λi h1 h2=>?_⟩ (λq=>?_) A hA
 ·rcases h2 with h2|h2;exact ha.1 a h1 h2;exact ha'.1 a h1 h2
 ·rcases h2 with h2|h2;exact ha.2 i h1 h2;exact ha'.2 i h1 h2
 ·rcases q with q|q;exact hn q;exact hn' q
theorem Ai(hc:cM M A c (λr s'=>match r with|.ok (.ret v)=>Q v s'|.ok _=>False|.error e=>E e s') s):aI M A (runValue c) Q E s:=λΓ p hΓ=>by
 obtain⟨r,s',hr,hq⟩:=hc _ p rfl (hΓ.enter c none p (by intro x;cases x))
 refine⟨r,s',hr,?_⟩
 cases r with
 |error e=>exact hq
 |ok f=>cases f<;>first|exact hq|exact hq.elim
theorem kd{prog:Program}{w:World}{A:Around}{s:Shared}{R:Result→Shared→Prop}{id:String}{args:Args}{b:Builtin}(hp:plainId id=true)(hb:entryFor table id=some b)
  (h:aI (model prog w) A.in1 (b args) (λfin s'=>match fin with|.done f=>R (.ok f) s'|.again c'=>c'.quiet=true∧cM (model prog w) A c' R s') (λe s'=>R (.error e) s') s):cM (model prog w) A (.builtin id args) R s:=by
 refine gz ?_
 rw[gY hp]
 show aI _ _ (match entryFor table id with|some b=>b args|none=>unsupported ((withoutEnding? id "#data").getD id)) _ _ s
 rw[hb];exact h
theorem zH{prog:Program}{w:World}{A:Around}{s:Shared}{R:Result→Shared→Prop}{id:String}{args:Args}{b:Builtin}(hp:plainId id=true)(hb:entryFor table id=some b)
  (h:wpAny (model prog w) A.in1 (checkBuiltinCall id args) (λ_ s₁=>aI (model prog w) A.in1 (b args) (λfin s'=>match fin with|.done f=>R (.ok f) s'|.again c'=>c'.quiet=true∧cM (model prog w) A c' R s') (λe s'=>R (.error e) s') s₁) ai s):
  cM (model prog w) A (.call (.builtin id) args) R s:=by
 refine gz ?_
 have hu:A.under (.call (.builtin id) args)=A.in1:=by first|rfl|exact Around.under_plain rfl rfl
 rw[hu]
 show aI _ _ (do checkBuiltinCall id args;again (.builtin id args)) _ _ s
 refine bl (aj h (λ_ s₁ h₁=>ch ⟨fy hp _,kd hp hb h₁⟩) λ_ _ x=>x.elim)
theorem Gj{M:Model}{A:Around}{α:Type}{t:Sem α}{Q:α→Shared→Prop}{E:Value→Shared→Prop}{s:Shared}(h:wpAny M A t Q E s):aI M A t Q E s:=df h
section
variable {X:Cx} {k:Nat} {σ:St}
theorem qA(hlim:s.heap.NoLimit)(hA:Room A (k+2))(hG:IsGenS s.heap a gi)(hn:¬ob.n gi)(hgi:gi<s.gens.size)(S:Sat X g σ s)
  (R:ReadyG X k σ gi l ob b g s)
  (hY:∀V l',l=V::l'→∀v g' ob' b' s',ob'.Le s ob→ob'.Ex s'→(∀i,b' i→ob'.n i)→Go (X.wb λi=>b' i∨i=gi) (ob.gn gi) g σ s g' σ s'→(∀i x,b i→s'.gens[i]?=some x→x.bare=true∨b' i∨i=gi)→Rep g' V v→ReadyG X k σ gi l' ob' b' g' s'→Q (some v) s')
  (hE:l=[]→∀e g' s',vA e s'→Go X (ob.gn gi) g σ s g' σ s'→(∀i x,(b i∨i=gi)→s'.gens[i]?=some x→x.bare=true)→E e s'):aI (model P0 X.w) A (callSpecial? (.ref a) (Str.ofString "__next__")) Q E s:=by
 obtain⟨gs,c₀,t₀,fs₀,hgs,hform,hrun⟩:=R
 have hseg:=hrun am g s (.refl S) Pv.Apart.noP id A.in1 ⟨hA.handled,by have:=hA.depth;show A.depth+_<_;omega,by have:=hA.units;show A.units+1+_<_;omega⟩
 have hgen:∀s',ob.Le s' (ob.gn gi):=λs'=>⟨λ_ _ _ h=>h,λ_ _ h=>.inl h⟩
 have Grun:Go X (ob.gn gi) g σ s g σ (s.setGen gi .running):=Go.setGen S (.inr rfl) rfl
 simp only[callSpecial?]
 refine bl (j8 hG.typeIs kg.lookup ?_)
 simp only[kg.bind]
 refine qD (bl (ao (c9 ?_)))
 refine Ai (zH kg.plain entry_gen_next (kg.check _ _ _ _ _ _ _ _ hG.typeIs (args_gen_next _) ?_))
 show aI _ A.in1 (Builtin.Generator.genWake (.ref a) (.send .none)) _ _ s
 unfold Builtin.Generator.genWake
 refine bl (bT (Bf hG (bl (wpAny_genState hgs ?_))))
 have wake:∀{α:Type} {kk:GenResult→Sem α} {Q':α→Shared→Prop} {E':Value→Shared→Prop} {lv:List Value},
   (∀V l',l=V::l'→∀v g' ob' b' s',ob'.Le s ob→ob'.Ex s'→(∀i,b' i→ob'.n i)→Go (X.wb λi=>b' i∨i=gi) (ob.gn gi) g σ s g' σ s'→(∀i x,b i→s'.gens[i]?=some x→x.bare=true∨b' i∨i=gi)→Rep g' V v→ReadyG X k σ gi l' ob' b' g' s'→aI (model P0 X.w) A.in1 (kk (.yielded v)) Q' E' s')→
   (∀g' s',l=[]→Go X (ob.gn gi) g σ s g' σ s'→(∀i x,(b i∨i=gi)→s'.gens[i]?=some x→x.bare=true)→aI (model P0 X.w) A.in1 (kk (.returned .none)) Q' E' s')→
   aI (model P0 X.w) A.in1 (.resume gi (.send .none) lv kk) Q' E' s:=by
  intro α kk Q' E' lv hy he Γ p hΓ
  have fin:∀e₁ s₁,PstG X k σ l ob b g (s.setGen gi .running) e₁ s₁→bf (model P0 X.w) Γ (kk e₁.result) (λa _ s'=>Q' a s') (λe _ s'=>E' e s') p (s₁.setGen gi e₁.genState):=λe₁ s₁ hp=>by
   cases l with
   |nil=>
    obtain⟨⟨f,rfl,hf⟩,g',G,hbare⟩:=hp
    have G₁:=Grun.trans (G.weaken (hgen _))
    have G₂:Go X (ob.gn gi) g σ s g' σ (s₁.setGen gi .finished):=G₁.trans (Go.setGen G₁.sat (.inr rfl) rfl)
    have hr:(End.ret (.ok f)).result=.returned .none:=by rcases hf with rfl|rfl<;>rfl
    rw[hr]
    refine he g' _ rfl G₂ (λi x hi e=>?_) Γ p hΓ
    rw[cZ] at e
    split at e
    ·cases e;rfl
    ·rename_i hne
     rcases hi with hi|hi
     ·exact hbare i x hi e
     ·have hs:gi<s₁.gens.size:=bu hgi G₁.run.gsize
      exact absurd ⟨hi,hs⟩ hne
   |cons V l'=>
    obtain⟨v,gf,lv',k',c',p',fs',g',ob',b',rfl,hle,hex',hbn,G,hbb,rv,hnext⟩:=hp
    have G₁:=Grun.wb.trans (G.weaken (hgen _))
    have hle':ob'.Le s ob:=⟨λb o e q=>hle.1 b o (by rw[qG];exact e) q,λi hi q=>hle.2 i (by rw[dV];exact hi) q⟩
    have hgi₁:gi<s₁.gens.size:=bu hgi G₁.run.gsize
    have hn':¬ob'.n gi:=λq=>hn (hle'.2 gi hgi q)
    have hrun₁:s₁.gens[gi]?=some .running:=G.run.gold gi _ (by rw[cZ,ah ⟨rfl,hgi⟩]) hn
    have G₂:Go (X.wb λi=>b' i∨i=gi) (ob.gn gi) g σ s g' σ (s₁.setGen gi (.suspended k' lv' c' p' fs' (gf||fs'.any Frame.guarded))):=
     (G₁.rewb (b':=λi=>b' i∨i=gi) λi x h _=>.inr (.inl h)).trans (Go.setGenU G₁.sat.unwb.wb (.inr rfl) (.inr (.inr rfl)))
    refine hy V l' rfl v g' ob' b' (s₁.setGen gi (.suspended k' lv' c' p' fs' (gf||fs'.any Frame.guarded))) hle' ⟨hex'.1,λi q=>by rw[dV];exact hex'.2 i q⟩ hbn G₂ (λi x hi e=>?_) rv ?_ Γ p hΓ
    ·rw[cZ] at e
     split at e
     ·rename_i q;exact .inr (.inr q.1)
     ·exact(hbb i x hi e).imp id .inl
    ·refine⟨_,c',k' (.send .none),fs',by rw[cZ,ah ⟨rfl,hgi₁⟩],.inr ⟨k',lv',p',_,rfl,rfl⟩,λP g'' s'' G' hap hPn A' hA'=>?_⟩
     refine hnext P g'' (s''.setGen gi .running) ?_ hap A' hA'
     have hsame:s₁=s₁.setGen gi .running:=by
      show s₁={s₁ with gens:=s₁.gens.setIfInBounds gi .running}
      have:s₁.gens.setIfInBounds gi .running=s₁.gens:=by
       apply Array.ext_getElem?
       intro j
       rw[wv]
       split
       ·rename_i q;subst q;first|exact hrun₁.symm|(rw[ah hgi₁];exact hrun₁.symm)
       ·rfl
      rw[this]
     rw[hsame]
     exact Go.underGenU G' hgi₁ hPn
  have hW:=(Γ.wake c₀ p)
  rcases hform with ⟨rfl,rfl,rfl⟩|⟨k₀,l₀,p₀,cl,rfl,rfl⟩
  ·obtain⟨e₁,s₁,hr,hok,hp⟩:=hseg (Γ.wake c₀ p) p rfl (hΓ.wake c₀ p)
   exact⟨e₁.result,s₁.setGen gi e₁.genState,by unfold WakesJ;rw[hgs];exact⟨e₁,s₁,hr,hok,rfl,rfl⟩,fin e₁ s₁ hp⟩
  ·obtain⟨e₁,s₁,hr,hok,hp⟩:=hseg (Γ.wake c₀ p) p₀ rfl (hΓ.wake c₀ p)
   exact⟨e₁.result,s₁.setGen gi e₁.genState,by unfold WakesJ;rw[hgs];exact⟨e₁,s₁,hr,hok,rfl,rfl⟩,fin e₁ s₁ hp⟩
 cases gs with
 |running=>rcases hform with ⟨h,_⟩|⟨_,_,_,_,h,_⟩<;>cases h
 |finished=>rcases hform with ⟨h,_⟩|⟨_,_,_,_,h,_⟩<;>cases h
 |_=>
  refine bl (wpAny_roomToWake hlim (by have:=hA.depth;show A.depth<_;omega) ?_)
  show aI _ A.in1 (.resume gi (.send .none) [] _) _ _ s
  refine wake (λV l' hl v g' ob' b' s' h1 h2 h3 h4 h5 h6 h7=>ch (ch (hY V l' hl v g' ob' b' s' h1 h2 h3 h4 h5 h6 h7))) λg' s' hl G hb=>?_
  refine df ?_
  show wpAny _ A.in1 (newExc (.type "StopIteration") []>>= _) _ _ _
  refine ac ?_
  simp only[newExc,newTuple]
  refine ac (di ?_ (by size_fits))
  refine ac (m:=firstArgMember _ _) (bw (a:=Value.none) (by first|rfl|(simp only[firstArgMember];rfl)) ?_)
  refine di ?_ (by size_fits)
  simp only[raiseNew]
  refine ac (ac (qz ?_))
  rw[show A.in1.handled=none from hA.handled]
  refine qH ?_
  exact hE hl _ g' _ ⟨_,_,_,rfl,aX _ rfl,rfl,rfl,rfl⟩ (G.trans (Go.keeps G.sat λb o e=>aJ _ (aJ _ e))) hb
end
theorem AA:typeLookup (.type "generator") "close"=pure (some (.builtin "generator.close")):=by rw[ur,t7];kernel_rfl
theorem xP(ho:s.heap.get? a=some o)(hc:o.cls=.type "generator")
  (hn:(o.slots=#[]∧n=0)∨o.slots=#[some (rawInt n)])
  (hQ:∀h',h'.get? a=some {o with slots:=#[some (rawInt (if more then n+1 else n - 1))]}→Heap.SameBut a s.heap h'→Q () {s with heap:=h'})(hd:o.data=.fields vs):wpAny M A (Builtin.Generator.sleptOver (.ref a) more) Q E s:=by
 unfold Builtin.Generator.sleptOver
 refine ac (ja ho ?_)
 have:(o.cls !=.type "generator")=false:=by rw[hc];rfl
 rw[ae (by rw[this];exact aT)]
 have hs:(match (o.slots[0]?:Option (Option Value)) with
  |some (some (Value.int n _))=>n
  |_=>0)=n:=by
  rcases hn with ⟨h1,h2⟩|h1
  ·rw[h1,h2];rfl
  ·rw[h1];rfl
 show wpAny M A (setSlotAt a 0 (some (rawInt (if more=true then (match (o.slots[0]?:Option (Option Value)) with
  |some (some (Value.int n _))=>n
  |_=>0)+1 else (match (o.slots[0]?:Option (Option Value)) with
  |some (some (Value.int n _))=>n
  |_=>0) - 1)))) Q E s
 rw[hs]
 unfold setSlotAt
 rw[ae (by rw[bn];decide)]
 refine wpAny_updatePart ho (hQ _ ?_ (dD ..))
 rw[fk _ ho]
 ·rcases hn with ⟨h1,h2⟩|h1<;>rw[h1]<;>rfl
 ·exact t6 (vs:=vs) hd
section
variable {X:Cx} {k:Nat} {σ:St}
abbrev YS0(X:Cx)(σ:St)(N:Addr)(env:Env)(m:Mp)(own₀:Pv)(g₀:View)(s₀:Shared)(own:Pv)(g:View)(s:Shared):Prop:=YS X σ N env ⟨λ_=>False,λ_=>False⟩ (λ_ _=>True) m own₀ g₀ s₀ own g s
theorem YS0.rebase(Y:YS0 X σ N env m own₀ g₀ s₀ own g s)(G:Go (X.wb B) P g σ s g' σ s')(hap:own.Apart P):YS0 X σ N env m own g' s' own g' s':=by
 have F':=(Y.frm.wb.goP G (λh=>hap.1 _ Y.foL h) λx c hc h=>hap.1 _ (Y.foC x c hc) h).unwb
 exact⟨.refl G.sat.unwb,Pv.Le.refl _ _,⟨λa h=>let ⟨o,e⟩:=Y.ex.1 a h;G.dom e (hap.1 a h),λi h=>bu (Y.ex.2 i h) G.run.gsize⟩,F',Y.foL,Y.foC,⟨λ_ h=>h.elim,λ_ h=>h.elim⟩,Y.jap,Y.jle,trivial⟩
def GenItG(X:Cx)(k:Nat)(σ:St)(a:Addr)(gi:Nat)(own:Pv)(b:Nat→Prop)(l:List AV)(g:View)(s:Shared):Prop:=
 IsGenS s.heap a gi∧Free X g σ a∧∃ob:Pv,own=ob.gen a gi∧¬ob.a a∧¬ob.n gi∧ob.Ex s∧(∀i,b i→ob.n i)∧gi<s.gens.size∧ReadyG X k σ gi l ob b g s
theorem IsGenS.go{a gi}(hG:IsGenS s.heap a gi)(hf:Free X g σ a)(G:Go (X.wb B) P g σ s g' σ' s')(hp:¬P.a a):IsGenS s'.heap a gi:=by
 obtain⟨o,nm,qn,ho,hc,r⟩:=hG
 rcases G.run.keep a o ho hf.2.1 hf.2.2 hp with q|⟨q,_⟩
 ·exact⟨o,nm,qn,q,hc,r⟩
 ·obtain⟨_,_,q⟩:=q;rw[r.1] at q;cases q
theorem GenItG.go(h:GenItG X k σ a gi own b l g s)(G:Go X P g σ s g' σ s')(hap:own.Apart P):GenItG X k σ a gi own b l g' s':=by
 obtain⟨hG,hf,ob,rfl,hna,hn,hex,hb,hgi,R⟩:=h
 have hpa:¬P.a a:=hap.1 a (.inr rfl)
 have hpn:¬P.n gi:=hap.2 gi (.inr rfl)
 have hob:ob.Apart P:=⟨λb h1=>hap.1 b (.inl h1),λi h1=>hap.2 i (.inl h1)⟩
 obtain⟨oa,_,_,hoa,_⟩:=id hG
 exact⟨hG.go hf (G.wb (b:=λ_=>False)) hpa,hf.go G hoa hpa,ob,rfl,hna,hn,⟨λb q=>let ⟨o,e⟩:=hex.1 b q;G.dom e (hob.1 b q),λi q=>bu (hex.2 i q) G.run.gsize⟩,hb,bu hgi G.run.gsize,R.go G hob hpn⟩
section
variable {N:Addr} {env:Env}
theorem DK(hu:∀i,¬X.u i)(hkin:kin+3≤k)(hlim:∀h:Heap,X.B.In h→h.NoLimit)
  (hc:GC k c fs)(hq:(ci a).quiet=true)
  (hkk:∀A own₀ g₀ s₀ own g s,Room A (k+1)→YS0 X σ N env m own₀ g₀ s₀ own g s→(cL X k σ).Z A l own₀ g₀ s₀ c (kk (.ok (.ret .none))) fs s):
  ∀(R:List AV) A own₀ (b:Nat→Prop) g₀ s₀ own g s ob (bi:Nat→Prop),Room A (k+1)→YS0 X σ N env m own₀ g₀ s₀ own g s→(ob.gen a gi).Le s₀ own₀→(ob.gen a gi).Apart own→IsGenS s.heap a gi→Free X g σ a→¬ob.a a→¬ob.n gi→ob.Ex s→(∀i,bi i→ob.n i)→gi<s.gens.size→
   ReadyG X kin σ gi R ob bi g s→(∀i,b i→bi i∨i=gi)→SegG (model P0 X.w) A (ci a) (denote table (ci a)) (.ret kk none false lv c p []::fs) s (PstG X k σ (R++l) own₀ b g₀ s₀):=by
 have room:∀{A:Around},Room A (k+1)→Room (A.over (ci a) (.ret kk none false lv c p []::fs)) (kin+2):=λ{A} hA=>by
  have h:=nN A c (ci a) fs kk false lv p []
  have hr:=hc.room hA
  have hw:(ci a).weight=0:=plainId_weight (by decide+kernel) _
  have hun:(ci a).cUnits=1:=plainId_units (by decide+kernel) _
  exact⟨h.1.trans hr.handled,by rw[h.2.1,hw];have:=hr.depth;omega,by rw[h.2.2,hun];have:=hr.units;omega⟩
 have split:splitAtGen (Frame.ret kk none false lv c p []::fs)=none:=by
  show(splitAtGen fs).map _=none
  rw[hc.split];rfl
 have gn_le:∀{ob:Pv} {s₁ s₂:Shared} {Q:Pv},(ob.gen a gi).Le s₁ Q→(ob.gn gi).Le s₁ Q:=λh=>⟨λb o e q=>h.1 b o e (.inl q),λi hi q=>h.2 i hi q⟩
 intro R
 induction R with
 |nil=>
  intro A own₀ b g₀ s₀ own g s ob bi hA Y hle hap hG hf hna hn hex hbi hgi R hb
  rw[rO]
  refine fA (qC (qD (bl (c5 (c9 (qA (hlim _ (Y.go.sat.in_.le Y.go.sat.le)) (room hA) hG hn hgi Y.go.sat R (λV l' h=>by cases h) λ_ e g' s' hst G hbare=>?_))))))
  show SegG _ A (ci a) (kM e) _ _ _
  unfold kM
  refine fA (df (aj (yE hst (Q:=λr s''=>r=true∧s''=s') ⟨rfl,rfl⟩) (λr s'' ⟨e1,e2⟩=>?_) i2))
  subst e1 e2
  rw[ah rfl]
  obtain⟨x,obj,ws,rfl,ho,hc',hd',h5⟩:=id hst
  refine fA (df (c5 (fA (df (bM ho hd' h5 ?_)))))
  refine yn (r:=.ok (.ret .none)) ?_
  have hap':own.Apart (ob.gn gi):=⟨λb h1 h2=>hap.1 b (.inl h2) h1,λi h1 h2=>hap.2 i h2 h1⟩
  have Gt:Go X own₀ g₀ σ s₀ g' σ _:=Y.go.comp G (gn_le (s₂:=s₀) hle)
  refine SegG.mono (hkk A own g' _ own g' _ hA (YS0.rebase Y (G.wb (b:=λ_=>False)) hap')) λe' s'' hp=>?_
  exact hp.rebase hu Gt Y.le λi x hi ex=>hbare i x (hb i hi) ex
 |cons V Rl ih=>
  intro A own₀ b g₀ s₀ own g s ob bi hA Y hle hap hG hf hna hn hex hbi hgi Rd hb
  rw[rO]
  refine fA (qC (qD (bl (c5 (c9 (qA (hlim _ (Y.go.sat.in_.le Y.go.sat.le)) (room hA) hG hn hgi Y.go.sat Rd (λV' l' h v g' ob' b' s' hle' hex' hbn G hbb rv R'=>?_) λh=>by cases h))))))
  cases h
  refine ch ?_
  show SegG _ A (ci a) (kR (.ref a) v) _ _ _
  have hpa:¬(ob.gn gi).a a:=hna
  have hG':=hG.go hf G hpa
  obtain⟨oa0,_,_,hoa0,_⟩:=id hG
  have hf':Free X g' σ a:=Free.go (X:=X.wb _) hf G hoa0 hpa
  obtain⟨oa,nm,qn,hoa,hca,hda,hsl⟩:=id hG'
  unfold kR
  refine fA (df (wpAny_typeOf hG'.typeIs ?_))
  refine fA (df (bw AA ?_))
  refine fA (df (ao ?_))
  refine fA (df (xP (n:=0) hoa hca (hsl.imp (λh=>⟨h,rfl⟩) id) (λh₁ hg₁ hs₁=>?_) hda))
  rw[ah rfl] at hg₁
  have hap':own.Apart (ob.gn gi):=⟨λb h1 h2=>hap.1 b (.inl h2) h1,λi h1 h2=>hap.2 i h2 h1⟩
  have Gs:Go (X.wb λi=>b' i∨i=gi) (a9 a) g' σ s' g' σ {s' with heap:=h₁}:=Go.sameBut G.sat hs₁ hf' rfl
  have hSa:(a9 a).Le s₀ own₀:=⟨λc o e h=>by rw[show c=a from h] at e ⊢;exact hle.1 a o e (.inr rfl),λ_ _ h=>h.elim⟩
  have Gt:Go (X.wb λi=>b' i∨i=gi) own₀ g₀ σ s₀ g' σ {s' with heap:=h₁}:=(Y.go.wb.comp G (gn_le (s₂:=s₀) hle)).comp Gs hSa
  have Gst:Go (X.wb λi=>b' i∨i=gi) (ob.gen a gi) g σ s g' σ {s' with heap:=h₁}:=(G.weaken (P':=ob.gen a gi) ⟨λ_ _ _ h=>Or.inl h,λ_ _ h=>h⟩).trans (Gs.weaken (P':=ob.gen a gi) ⟨λc _ _ h=>Or.inr h,λ_ _ h=>h.elim⟩)
  have Y':YS0 X σ N env m own g' {s' with heap:=h₁} own g' {s' with heap:=h₁}:=YS0.rebase Y Gst hap.symm
  have hoL:(ob'.gen a gi).Le s (ob.gen a gi):=⟨λc o e h=>h.imp (hle'.1 c o e) id,λi hi h=>h.imp (hle'.2 i hi) id⟩
  have hap2:(ob'.gen a gi).Apart own:=⟨λc h1 h2=>by
    obtain⟨o,e⟩:=Y.ex.1 c h2
    exact hap.1 c (hoL.1 c o e h1) h2,λi h1 h2=>hap.2 i (hoL.2 i (Y.ex.2 i h2) h1) h2⟩
  have hdel:fP {s' with heap:=h₁} (ci a)=true:=by
   show(match h₁.get? a with
    |some o=>o.genNumber?.isSome
    |none=>false)=true
   rw[hg₁]
   simp only[Obj.genNumber?,hca,hda]
   rfl
  refine xL (v:=v) (gf:=true) (l:=[]) (k:=λwoken=>Builtin.Generator.sleptOver (.ref a) false>>= λ_=>yT (.ref a) woken) split (by show(false||fs.any Frame.guarded)=false;rw[hc.guard];rfl) (λ_=>hdel) λp'=>?_
  rw[mT]
  unfold PstG
  refine⟨v,true,[],_,ci a,p',_,g',own.sup (ob'.gen a gi),λi=>b' i∨i=gi,rfl,⟨λc o e h=>?_,λi hi h=>?_⟩,⟨λc h=>?_,λi h=>?_⟩,λi h=>?_,Gt,λi x hi e=>?_,rv,λP g3 s3 G3 hap3 A' hA'=>?_⟩
  ·rcases h with h|h
   ·exact Y.le.1 c o e h
   ·have hx:=hoL.back' Y.go.run hle
    exact hx.1 c o e h
  ·rcases h with h|h
   ·exact Y.le.2 i hi h
   ·have hx:=hoL.back' Y.go.run hle
    exact hx.2 i hi h
  ·rcases h with h|h|h
   ·exact Y'.ex.1 c h
   ·obtain⟨o,e⟩:=hex'.1 c h
    by_cases hca':c=a
    ·exact⟨_,by rw[hca'];exact hg₁⟩
    ·exact⟨o,hs₁.extBut c o hca' e⟩
   ·exact⟨_,by rw[h];exact hg₁⟩
  ·rcases h with h|h|h
   ·exact Y'.ex.2 i h
   ·exact hex'.2 i h
   ·rw[h];exact bu hgi G.run.gsize
  ·rcases h with h|h
   ·exact .inr (.inl (hbn i h))
   ·exact .inr (.inr h)
  ·rcases hb i hi with q|q
   ·exact hbb i x q e
   ·exact .inr (.inr q)
  ·have hap4:own.Apart P:=⟨λc h=>hap3.1 c (.inl h),λi h=>hap3.2 i (.inl h)⟩
   have hap5:(ob'.gen a gi).Apart P:=⟨λc h=>hap3.1 c (.inr h),λi h=>hap3.2 i (.inr h)⟩
   have hpa3:¬P.a a:=hap5.1 a (.inr rfl)
   have ho3:s3.heap.get? a=some {oa with slots:=#[some (rawInt 1)]}:=by
    rcases G3.run.keep a _ hg₁ hf'.2.1 hf'.2.2 hpa3 with q|⟨q,_⟩
    ·exact q
    ·obtain⟨_,_,q⟩:=q;exact absurd (hda.symm.trans q) (by simp)
   have hf3:Free X g3 σ a:=hf'.go G3 hg₁ hpa3
   refine fA (df (xP (n:=1) ho3 hca (.inr rfl) (λh₄ hg₄ hs₄=>?_) hda))
   rw[ae aT] at hg₄
   show SegG _ A' (ci a) (pure Value.none>>= λv=>again (.builtin "proto.yield_from" ⟨[.ref a,.bool false,v],[]⟩)) _ _ _
   refine fA (df (ao ?_))
   refine xI hq ?_
   have Y3:=YS0.rebase Y' (G3.wb (b:=λ_=>False)) hap4
   have G4:Go X (a9 a) g3 σ s3 g3 σ {s3 with heap:=h₄}:=Go.sameBut G3.sat hs₄ hf3 rfl
   have hown4:own.Apart (a9 a):=⟨λc h1 h2=>hap2.1 c (by rw[show c=a from h2];exact .inr rfl) h1,λ_ _ h=>h.elim⟩
   have Y4:YS0 X σ N env m (own.sup (ob'.gen a gi)) g3 s3 own g3 {s3 with heap:=h₄}:=by
    have:=YS0.rebase Y3 (G4.wb (b:=λ_=>False)) hown4
    exact⟨G4.weaken ⟨λc _ _ h=>.inr (.inr h),λ_ _ h=>h.elim⟩,Pv.le_left,this.ex,this.frm,this.foL,this.foC,this.jex,this.jap,this.jle,trivial⟩
   have hob':¬ob'.a a:=λq=>hna (hle'.1 a _ hoa0 q)
   have hob'n:¬ob'.n gi:=λq=>hn (hle'.2 gi hgi q)
   have hap6:ob'.Apart P:=⟨λc h=>hap5.1 c (.inl h),λi h=>hap5.2 i (.inl h)⟩
   have R1:ReadyG X kin σ gi Rl ob' b' g' {s' with heap:=h₁}:=R'.go (P:=a9 a) (Go.sameBut (s':={s' with heap:=h₁}) G.sat.unwb hs₁ hf' rfl) ⟨λc h1 h2=>hob' (by rw[←show c=a from h2];exact h1),λ_ _ h=>h.elim⟩ id
   have R3:ReadyG X kin σ gi Rl ob' b' g3 s3:=R1.go G3 hap6 (hap5.2 gi (.inr rfl))
   have R4:ReadyG X kin σ gi Rl ob' b' g3 {s3 with heap:=h₄}:=R3.go G4 ⟨λc h1 h2=>hob' (by rw[←show c=a from h2];exact h1),λ_ _ h=>h.elim⟩ id
   have hgi3:gi<s3.gens.size:=bu (bu hgi G.run.gsize) G3.run.gsize
   have hG4:IsGenS h₄ a gi:=⟨_,nm,qn,hg₄,hca,hda,.inr (by rfl)⟩
   have hx4:ob'.Ex {s3 with heap:=h₄}:=by
    refine⟨λc h=>?_,λi h=>bu (hex'.2 i h) G3.run.gsize⟩
    obtain⟨o,e⟩:=hex'.1 c h
    have hca':c≠a:=λq=>hob' (q▸h)
    obtain⟨o',e'⟩:=G3.dom (hs₁.extBut c o hca' e) (hap6.1 c h)
    exact⟨o',hs₄.extBut c o' hca' e'⟩
   have hfin:=ih A' (own.sup (ob'.gen a gi)) (λi=>b' i∨i=gi) g3 s3 own g3 {s3 with heap:=h₄} ob' b' hA' Y4 Pv.le_right hap2 hG4 hf3 hob' hob'n hx4 hbn hgi3 R4 (λi h=>h)
   have hd:∀c,(model P0 X.w).den c=denote table c:=λ_=>rfl
   rw[hd]
   exact hfin
end
end
section
variable {X:Cx} {k:Nat} {σ:St}
def we(X:Cx)(k:Nat)(σ:St)(N:Addr)(env:Env)(t:Sem Flow)(m:Mp)(l:List AV)(Q:AFl→Mp→List AV→Prop):Prop:=
 ∀c fs,GC k c fs→∀A K H gd lv own₀ g₀ s₀ own g s,Room A (k+1)→gd false=false→YS0 X σ N env m own₀ g₀ s₀ own g s→
  (∀A f F m l own₀ g₀ s₀ own g s,Room A (k+1)→YS0 X σ N env m own₀ g₀ s₀ own g s→RepF g F f→Q F m l→(cL X k σ).Z A l own₀ g₀ s₀ c (K f) fs s)→(cL X k σ).Z A l own₀ g₀ s₀ c (t.wrap K H gd lv) fs s
def kX(X:Cx)(k:Nat)(σ:St)(N:Addr)(env:Env)(m:Mp)(st:Stmt)(l:List AV)(Q:AFl→Mp→List AV→Prop):Prop:=we X k σ N env (exec st env) m l Q
def gG(X:Cx)(k:Nat)(σ:St)(N:Addr)(env:Env)(m:Mp)(st:List Stmt)(l:List AV)(Q:AFl→Mp→List AV→Prop):Prop:=we X k σ N env (execs st env) m l Q
variable {N:Addr} {env:Env} {m:Mp} {l:List AV} {Q:AFl→Mp→List AV→Prop}
theorem ExT.to0(h:ExT (cL X k σ) N env t m l Q):we X k σ N env t m l Q:=λc fs hc A K H gd lv own₀ g₀ s₀ own g s hA hgd Y hK=>
 h c fs _ _ hc (λ_ _ _=>trivial) A K H gd lv own₀ g₀ s₀ own g s hA hgd Y hK
theorem kz{st:Stmt}(h:∀A',Room A' k→Ex X A' ai (ax N env) env m st σ λF m' σ'=>σ'=σ∧Q F m' l):kX X k σ N env m st l Q:=(jg (M:=cL X k σ) h).to0
theorem nB(h:∀A',Room A' k→Ev X A' ai env m e σ λW σ'=>σ'=σ∧W=V∧Q .next m l)(hco:env.scope.isCoroutine=false:=by rfl)(hi:interactive env=false:=by rfl):
  kX X k σ N env m (.Expr (.Yield (some e) ypos) pos) (V::l) Q:=(je (M:=cL X k σ) h hco hi).to0
theorem qr(h:∀A',Room A' k→Ev X A' ai env m e σ λW σ'=>σ'=σ∧W=.tup R∧Q .next m l)(hi:interactive env=false:=by rfl):
  kX X k σ N env m (.Expr (.YieldFrom e ypos) pos) (R++l) Q:=(qy (M:=cL X k σ) h hi).to0
theorem bF(h:Q .next m l):gG X k σ N env m [] l Q:=(cK (M:=cL X k σ) h).to0
theorem bK{st:Stmt}{rest:List Stmt}(h:kX X k σ N env m st l λF m₁ l₁=>match F with|.next=>gG X k σ N env m₁ rest l₁ Q|F=>Q F m₁ l₁):gG X k σ N env m (st::rest) l Q:=λc fs hc A K H gd lv own₀ g₀ s₀ own g s hA hgd Y hK=>by
 rw[execs_cons_wrap]
 refine h c fs hc A _ H gd lv own₀ g₀ s₀ own g s hA hgd Y λA' f F m' l' own₀' g₀' s₀' own' g' s' hA' Y' rf q=>?_
 cases F with
 |next=>cases rf;exact q c fs hc A' K H gd lv own₀' g₀' s₀' own' g' s' hA' hgd Y' hK
 |brk=>cases rf;exact hK A' .brk .brk m' l' own₀' g₀' s₀' own' g' s' hA' Y' rfl q
 |cont=>cases rf;exact hK A' .cont .cont m' l' own₀' g₀' s₀' own' g' s' hA' Y' rfl q
 |ret V=>obtain⟨v,rfl,r⟩:=rf;exact hK A' (.ret v) (.ret V) m' l' own₀' g₀' s₀' own' g' s' hA' Y' ⟨v,rfl,r⟩ q
theorem du{pos}(h:∀A',Room A' k→EvB X A' ai env m t σ λr σ'=>σ'=σ∧if r then gG X k σ N env m a l Q else gG X k σ N env m b l Q):kX X k σ N env m (.If t a b pos) l Q:=λc fs hc A K H gd lv own₀ g₀ s₀ own g s hA hgd Y hK=>by
 have hJ:eC X σ ⟨λ_=>False,λ_=>False⟩ (λ_ _=>True):=λ_ _ _=>trivial
 have e:exec (.If t a b pos) env=(do standAt pos;let r ←isTrue t env (eval t env);if r then execs a env else execs b env):=rfl
 rw[e]
 refine Mach.bind (M:=cL X k σ) (bL (Mach.bind (aj (h _ (hc.room hA) g s Y.go.sat Y.frm) (λr s' ⟨g',σ',G,e,q⟩=>?_) i2)))
 subst e
 have Y':=Y.step hJ G.any (Y.frm.go G)
 cases r with
 |true=>exact q c fs hc A K H gd lv own₀ g₀ s₀ own g' s' hA hgd Y' hK
 |false=>exact q c fs hc A K H gd lv own₀ g₀ s₀ own g' s' hA hgd Y' hK
def wa(X:Cx)(A:Around)(E:Value→Shared→Prop)(k:Nat)(env:Env)(m:Mp)(e:Expr)(σ:St)(l:List AV):Prop:=
 ∀g s,Sat X g σ s→Frm X env m g σ s→wpAny (model P0 X.w) A (eval e env) (λv s₁=>∃a gi g₁ own,v=.ref a∧Go X am g σ s g₁ σ s₁∧own.Le s am∧GenItG X k σ a gi own (λ_=>False) l g₁ s₁) E s
theorem xn{A:Around}{E:Value→Shared→Prop}{s:Shared}{a:Addr}{g:Nat}{Q:Value→Shared→Prop}(hT:s.TypeIs (.ref a) "generator")(h:Q (.ref a) s):wpAny (model P0 X.w) A (pyIter (.ref a)) Q E s:=by
 refine wpAny_pyIter_slot hT slot_gen_iter (dE slot_gen_iter hT entry_gen_iter ?_ (args_gen_iter _))
 show wpAny _ _ (ret (.ref a)) _ _ s
 exact ao ⟨_,rfl,"generator",_,hT,kg.lookup,h⟩
theorem uB(hu:∀i,¬X.u i)(hlim:∀h:Heap,X.B.In h→h.NoLimit){kin:Nat}(hkin:kin+3≤k){e:Expr}{ypos pos:Pos}{R:List AV}(h:∀A',Room A' k→wa X A' ai kin env m e σ R)(hq:Q .next m l)(hi:interactive env=false:=by rfl):
  kX X k σ N env m (.Expr (.YieldFrom e ypos) pos) (R++l) Q:=λc fs hc A K H gd lv own₀ g₀ s₀ own g s hA hgd Y hK=>by
 have hJ:eC X σ ⟨λ_=>False,λ_=>False⟩ (λ_ _=>True):=λ_ _ _=>trivial
 rw[exec_Expr env _ pos hi rfl]
 refine Mach.bind (M:=cL X k σ) (bL ?_)
 rw[arm_eval_YieldFrom,el,el,eP,eP]
 refine(cL X k σ).wrap (aj (h _ (hc.room hA) g s Y.go.sat Y.frm) (λv s' ⟨a,gi,g',og,hv,G,ho,hg⟩=>?_) i2)
 subst hv
 have Y':=Y.step hJ G.any (Y.frm.go G)
 refine(cL X k σ).wrap (m:=standAt ypos) (H:=.raise) (gd:=id) (lv:=id) (bL ?_)
 refine Mach.bind (M:=cL X k σ) (t:=typeOf (.ref a)) (wpAny_typeOf hg.1.typeIs ?_)
 dsimp only
 rw[ae (by decide)]
 refine Mach.bind (M:=cL X k σ) (t:=holding [.ref a] (pyIter (.ref a))) (bT (xn (g:=gi) hg.1.typeIs ?_))
 refine(cL X k σ).call λp=>?_
 show(cL X k σ).Z _ _ _ _ _ (ci a) (denote table (ci a)) (.ret _ none (gd false) (lv []) c p []::fs) _
 rw[hgd]
 obtain⟨hG,hf,ob,rfl,hna,hn,hex,hb,hgi,R'⟩:=hg
 have hle:(ob.gen a gi).Le s₀ own₀:=by
  have h1:(ob.gen a gi).Le s own₀:=⟨λb o e h=>(ho.1 b o e h).elim,λi hi h=>(ho.2 i hi h).elim⟩
  exact h1.back' Y.go.run (Pv.Le.refl _ _)
 have hap:(ob.gen a gi).Apart own:=⟨λb h1 h2=>let ⟨o,e⟩:=Y.ex.1 b h2;(ho.1 b o e h1).elim,λi h1 h2=>(ho.2 i (Y.ex.2 i h2) h1).elim⟩
 refine DK hu hkin hlim hc (Code.quiet_builtin _ (by decide+kernel)) (λA' own₀' g₀' s₀' own' g'' s'' hA' Yy=>?_) R A own₀ (λ_=>False) g₀ s₀ own g' s' ob (λ_=>False) hA Y' hle hap hG hf hna hn hex (λ_ h=>h.elim) hgi R' λ_ h=>h.elim
 exact hK A' .next .next m l own₀' g₀' s₀' own' g'' s'' hA' Yy rfl hq
theorem AZ(h:gG X k σ N env m body l λF _ l'=>l'=[]∧(F=.next∨F=.ret .none))
  (hA:Room A (k+1))(Y:YS0 X σ N env m own₀ g₀ s₀ own g s):
  (cL X k σ).Z A l own₀ g₀ s₀ (.func body env) (denote table (.func body env)) [] s:=by
 show(cL X k σ).Z A l own₀ g₀ s₀ (.func body env) (point>>= λ_=>(execs body env).onRaise (leaving env)>>= λf=>match f with|.ret v=>ret v|_=>ret .none) [] s
 refine Mach.bind0 (M:=cL X k σ) (qI ?_)
 rw[el,iQ,eP]
 refine h _ _ yJ A _ _ _ _ own₀ g₀ s₀ own g s hA rfl Y λA' f F m' l' own₀' g₀' s₀' own' g' s' hA' Y' rf ⟨e,q⟩=>?_
 subst e
 rcases q with rfl|rfl
 ·cases rf;exact(cL X k σ).fin Y'.go (.inr rfl)
 ·obtain⟨v,rfl,r⟩:=rf
  unfold Rep at r;subst r
  exact(cL X k σ).fin Y'.go (.inr rfl)
def vh(X:Cx)(k:Nat)(f:AV)(args:List AV)(σ:St)(l:List AV):Prop:=
 ∀A g s fv vs,Room A (k+2)→Sat X g σ s→Rep g f fv→RepL g args vs→codeAny (model P0 X.w) A (.call fv ⟨vs,[]⟩) (λr s'=>∃a gi g' own,r=.ok (.ret (.ref a))∧Go X am g σ s g' σ s'∧own.Le s am∧GenItG X k σ a gi own (λ_=>False) l g' s') s
theorem uU(F:FnAt X a fd body)(xs:List Str)
  (hbind:∀g s vs,Sat X g σ s→RepL g args vs→∃vs',RepL g args' vs'∧BindsTo s fd ⟨vs,[]⟩ (xs.zip vs'))
  (hx:xs.all (λx=>fd.scope.names.lookup x==some .local||fd.scope.names.lookup x==some .cell)=true)
  (h:∀L,gG X k σ L (callEnvC fd L a) (cF xs args' Mp.nil) body l λF _ l'=>l'=[]∧(F=.next∨F=.ret .none))
  (hclo:fd.closure=[]:=by rfl)(hco:fd.scope.isCoroutine=false:=by rfl)(hgen:fd.scope.isGenerator=true:=by rfl)(hk:fd.scope.kind=.function:=by rfl):
  vh X k (.ref a) args σ l:=λA g s fv vs hA S hf r=>by
 unfold Rep at hf
 subst hf
 obtain⟨o,ho,hd⟩:=F.obj S
 obtain⟨vs',r',hb⟩:=hbind g s vs S r
 refine codeAny_call_generator (by have:=hA.depth;omega) ho hd hco hgen F.body (F.cdRec S) (hb _ _ _ _ ?_)
 rw[hclo]
 refine jY hk (λy hy=>?_) λenv he s' x=>?_
 ·have hm:y.1∈xs:=(mV hy).1
  have:=gq.mp hx y.1 hm
  rw[iS,bd,bd] at this
  rcases this with q|q
  ·exact .inl q
  ·exact .inr ⟨q,let ⟨c,hc⟩:=gx fd.scope.names (s.heap.objs.size+1) [] q;by rw[hc];rfl⟩
 ·have he':env=callEnvC fd s.heap.objs.size a:=he
  subst he'
  have Fr:=iY (a:=a) S r' hk hx x
  have G:=jf S x (P:=am)
  refine⟨(F.noLimit S).keeps x.toInCall.keep,s'.heap.objs.size,s'.gens.size,g,(ax s.heap.objs.size (callEnvC fd s.heap.objs.size a)).gen s'.heap.objs.size s'.gens.size,rfl,?_⟩
  generalize hob:({cls:=.type "generator",data:=.fields #[.int s'.gens.size 0,.str fd.name s'.toks,.str fd.qualname (s'.toks+1)]}:Obj)=ob
  have kp:∀b o,s'.heap.get? b=some o→(s'.heap.push ob).get? b=some o:=λb o e=>aJ _ e
  have G₂:∀{P:Pv},Go X P g σ s' g σ {s' with gens:=s'.gens.push (.fresh (.func body (callEnvC fd s.heap.objs.size a))),toks:=s'.toks+1+1,heap:=s'.heap.push ob}:=Go.keepsG G.sat kp rfl rfl rfl
  have hle:(ax s.heap.objs.size (callEnvC fd s.heap.objs.size a)).Le s am:=io (aG _)
  have hsz:∀o,s.heap.get? s'.heap.objs.size=some o→False:=λo e=>by
   obtain⟨o',e'⟩:=G.dom e id;exact bt _ (aY e')
  refine⟨G.trans G₂,⟨λb o e h=>?_,λi hi h=>?_⟩,.of ⟨ob,.str fd.name s'.toks,.str fd.qualname (s'.toks+1),aX _ (by rw[←hob];rfl),by rw[←hob],by rw[←hob],by rw[←hob]⟩,bC G.sat (aG _),_,rfl,λh=>?_,id,⟨λb h=>?_,λ_ h=>h.elim⟩,λ_ h=>h.elim,?_,?_⟩
  ·rcases h with h|rfl
   ·exact hle.1 b o e h
   ·exact hsz o e
  ·rcases h with h|rfl
   ·exact h.elim
   ·exact bt _ (bu hi G.run.gsize)
  ·obtain⟨o',e'⟩:=iq Fr _ h
   exact bt _ (aY e')
  ·obtain⟨o',e'⟩:=iq Fr _ h
   exact⟨o',kp _ _ e'⟩
  ·show s'.gens.size<(s'.gens.push _).size
   rw[j9];exact g7 _
  ·refine⟨.fresh (.func body (callEnvC fd s.heap.objs.size a)),.func body (callEnvC fd s.heap.objs.size a),_,_,by show(s'.gens.push _)[s'.gens.size]?=_;simp,.inl ⟨rfl,rfl,rfl⟩,λP g'' s'' G'' hap hpn A' hA'=>?_⟩
   have hpL:¬P.a (callEnvC fd s.heap.objs.size a).locals:=hap.1 _ ⟨aG _,.inl rfl⟩
   have hpC:∀x c,(callEnvC fd s.heap.objs.size a).cells.lookup x=some c→¬P.a c:=λy c hc=>hap.1 c ⟨eR (x.above y c (mem_of_lookup hc)),.inr ⟨y,hc⟩⟩
   have F₂:=(Fr.go G₂).goP G'' hpL hpC
   have Gr:Go X (ax s.heap.objs.size (callEnvC fd s.heap.objs.size a)) g'' σ (s''.setGen s'.gens.size .running) g'' σ (s''.setGen s'.gens.size .running):=.refl (G''.sat.heap rfl)
   have F₃:Frm X (callEnvC fd s.heap.objs.size a) (cF xs args' Mp.nil) g'' σ (s''.setGen s'.gens.size .running):=F₂.heapEq rfl
   exact AZ (h s.heap.objs.size) hA' ⟨Gr,Pv.Le.refl _ _,⟨λb h=>iq F₃ b h,λ_ h=>h.elim⟩,F₃,⟨aG _,.inl rfl⟩,λy c hc=>⟨eR (x.above y c (mem_of_lookup hc)),.inr ⟨y,hc⟩⟩,⟨λ_ h=>h.elim,λ_ h=>h.elim⟩,⟨λ_ h=>h.elim,λ_ h=>h.elim⟩,⟨λ_ h=>h.elim,λ_ h=>h.elim⟩,trivial⟩
theorem q8(hA:Room A (k+2))(h:Ev X A E env m fe σ λF σ₁=>dz X A E env m args pos σ₁ λas σ₂=>σ₂=σ∧aV X σ F∧vh X k F as σ l)
  (he:eval (.Call fe args [] pos) env=(do callWith pos (←eval fe env) [] (backTo pos (starEach args env)) (backToKw pos (keywordEach [] env))):=by rfl)
  (hst:(starEach args env).all (λx=> !x.1)=true:=by rfl):wa X A E k env m (.Call fe args [] pos) σ l:=λg s S F=>
 Call_ (aj (h g s S F) (λfv s₁ ⟨g₁,f,σ₁,G₁,r₁,h₁⟩=>by
  refine ij (fvs:=[]) r₁ (aj (h₁ g₁ s₁ G₁.sat (F.go G₁)) (λvs s₂ ⟨g₂,as,σ₂,G₂,r₂,e,kv,hg⟩=>?_) i2) hst
  subst e
  refine⟨⟨g₂,_,G₂.sat,kv⟩,ku (cI (hg A g₂ s₂ fv vs hA G₂.sat (r₁.le G₂.le) r₂) λr s₃ ⟨a,gi,g₃,own,hr,G₃,ho,hi⟩=>?_)⟩
  subst hr
  have G:=G₁.trans G₂
  exact⟨a,gi,g₃,own,rfl,G.trans G₃,⟨λb o e q=>let ⟨o',e'⟩:=G.dom e id;ho.1 b o' e' q,λi hi' q=>ho.2 i (bu hi' G.run.gsize) q⟩,hi⟩) i2) he
end
section
variable {prog:Program} {w:World} {A:Around} {s:Shared}
theorem z7{R:Result→Shared→Prop}{id:String}{args:Args}{b:Builtin}(hb:entryFor table id=some b)
  (h:aI (model prog w) (A.under (.builtin id args)) (b args) (λfin s'=>match fin with|.done f=>R (.ok f) s'|.again c'=>c'.quiet=true∧cM (model prog w) A c' R s') (λe s'=>R (.error e) s') s):cM (model prog w) A (.builtin id args) R s:=by
 refine gz ?_
 show aI _ _ (match entryFor table id with|some b=>b args|none=>unsupported ((withoutEnding? id "#data").getD id)) _ _ s
 rw[hb];exact h
theorem Bv{T newId initId:String}{Bi:Builtin}{args:List Value}{Q:Value→Shared→Prop}(ft:TypeCalled T newId initId)(hct:checkTypeCall T ⟨args,[]⟩=pure ())(entryI:entryFor table initId=some Bi)
  (hnew:cM (model prog w) A.in1 (.call (.builtin newId) ⟨.type T::args,[]⟩) (λr s'=>∃obj,r=.ok (.ret obj)∧s'.TypeIs obj T∧argsOk initId ⟨obj::args,[]⟩∧
   wpAny (model prog w) A.in1.in1 (Bi ⟨obj::args,[]⟩) (λfin s'=>match fin with|.done f=>wants (λr s₂=>r=.none∧Q obj s₂) ai (.ok f) s'|.again c'=>c'.quiet=true∧codeAny (model prog w) A.in1 c' (wants (λr s₂=>r=.none∧Q obj s₂) ai) s')
    (λe s'=>wants (λr s₂=>r=.none∧Q obj s₂) ai (.error e) s') s') s):
  aI (model prog w) A (call (.type T) args) Q ai s:=by
 obtain⟨c,tl,hmro⟩:=ft.mro
 have hmade:=ft.made
 have hsub:=ft.sub
 refine rz (gz ?_)
 show aI _ _ (callAny (.type T) _) _ _ _
 refine ch ⟨Code.quiet_builtin _ (by decide+kernel),z7 F.entry_type_call ?_⟩
 rw[Around.under_plain (weight_type_call_type T args []) rfl]
 have h1:=ft.notType
 have h2:=ft.canCreate
 unfold Builtin.«type.__call__»
 dsimp only
 rw[h1,h2,hct,hmro,hmade]
 simp only[eM,dr,pure_bind,List.isEmpty_cons]
 refine c9 (qD (rz (nD hnew λr s₁ ⟨obj,hr,hT,hok,hsi⟩=>?_)))
 refine⟨obj,hr,df ?_⟩
 refine ac (fw hT hsub ?_)
 rw[ae (by decide)]
 refine ac (bT (fK hT ft.init (ku (cI (codeAny_call_builtin ft.init.plain entryI (ft.init.check _ _ _ _ _ _ _ _ hT hok hsi)) λr₂ s₂ hr₂=>?_))))
 cases r₂ with
 |error e=>exact hr₂.elim
 |ok fl₂=>
  cases fl₂ with
  |ret r=>
   obtain⟨rfl,hq⟩:=hr₂
   dsimp only
   rw[ae (by decide)]
   exact ao ⟨_,rfl,hq⟩
  |_=>exact hr₂.elim
end
theorem zW(x:Value):Builtin.«tuple.__new__» ⟨[.type "tuple",x],[]⟩=(do
  let b ←Builtin.Tuple.tupleIsExact x
  if b then do rule "tuple.new.same-object";ret x else do
  let l ←collect x
  let v ←Builtin.Tuple.tupleExact l.toArray
  ret v):=by
 have hsub:=sub_tuple_self
 have hinit:=init_tuple_lookup
 have hmh:=madeHere_tuple
 unfold Builtin.«tuple.__new__»
 dsimp only
 have e1:isType (.type "tuple")=pure true:=rfl
 rw[e1]
 simp only[pure_bind,Bool.not_true,eM,dr,hsub,hinit,hmh]
 rw[ae (by decide+kernel),ah (by rfl)]
 rw[show noKeywords "tuple" ⟨[Value.type "tuple",x],[]⟩=pure () from rfl,show checkCount "tuple" 0 1 [x].length=pure () from rfl]
 simp only[pure_bind]
 rw[ah (by rfl)]
section
variable {X:Cx} {k:Nat} {σ:St}
theorem Ay(hu:∀i,¬X.u i)(hlim:∀h:Heap,X.B.In h→h.NoLimit)(hS:Pb.a S):
  ∀(l:List AV) A own b (B:Nat→Prop) out g s,Room A (k+3)→Go (X.wb B) Pb g₀ σ s₀ g σ s→own.Le s₀ Pb→¬own.a S→GenItG X k σ a gi own b l g s→(∀i,B i→b i∨i=gi)→Dst X S out g σ s→out.length+l.length≤65536→
   cM (model P0 X.w) A (.builtin "list.extend.loop" ⟨[.ref S,.ref a,res],[]⟩) (λr s'=>r=.ok (.ret res)∧∃g',Go X Pb g₀ σ s₀ g' σ s'∧Dst X S (out++l) g' σ s') s:=by
 intro l
 induction l with
 |nil=>
  intro A own b B out g s hA G ho hoS hit hB hd hz
  obtain⟨hG,hf,ob,rfl,hna,hn,hex,hb,hgi,R⟩:=hit
  refine kd iR ub ?_
  show aI _ A.in1 (pyNext (.ref a)>>= _) _ _ s
  unfold pyNext
  refine c9 (c9 (qC (qA (hlim _ (G.sat.in_.le G.sat.le)) hA.in1 hG hn hgi G.sat.unwb R (λV l' h=>by cases h) λ_ e g' s' hst G' hbare=>?_)))
  obtain⟨x,obj,ws,rfl,ho',hc',hd',h5⟩:=id hst
  refine bl (fw (T:="StopIteration") (b:=true) ⟨obj,ho',hc'⟩ uz ?_)
  refine ch (ch ⟨rfl,g',?_,?_⟩)
  ·refine Go.unwb (b:=B) (G.comp G'.wb ⟨λc o e h=>ho.1 c o e (.inl h),λi hi h=>ho.2 i hi h⟩) λi x hi e=>hbare i x (hB i hi) e
  ·rw[ey];exact hd.go G' λh=>hoS (.inl h)
 |cons V l ih=>
  intro A own b B out g s hA G ho hoS hit hB hd hz
  obtain⟨hG,hf,ob,rfl,hna,hn,hex,hb,hgi,R⟩:=hit
  refine kd iR ub ?_
  show aI _ A.in1 (pyNext (.ref a)>>= _) _ _ s
  unfold pyNext
  refine c9 (c9 (qC (qA (hlim _ (G.sat.in_.le G.sat.le)) hA.in1 hG hn hgi G.sat.unwb R (λV' l' h v g' ob' b' s' hle' hex' hbn G' hbb rv R'=>?_) λh=>by cases h)))
  cases h
  refine ch ?_
  show aI _ A.in1 (updateSeq S (·.push v)>>= _) _ _ s'
  obtain⟨oa0,_,_,hoa0,_⟩:=id hG
  have hG':=hG.go hf G' hna
  have hf':Free X g' σ a:=Free.go (X:=X.wb _) hf G' hoa0 hna
  have hob':¬ob'.a a:=λq=>hna (hle'.1 a _ hoa0 q)
  have hob'n:¬ob'.n gi:=λq=>hn (hle'.2 gi hgi q)
  have hoL:(ob'.gen a gi).Le s (ob.gen a gi):=⟨λc o e h=>h.imp (hle'.1 c o e) id,λi hi h=>h.imp (hle'.2 i hi) id⟩
  have hdX:Dst (X.wb λi=>b' i∨i=gi) S out g σ s:=hd
  obtain⟨hfS,ys,⟨oS,hoS₂,hcS,n,hdS⟩,ry⟩:=hdX.go G' λh=>hoS (.inl h)
  have hlen:ys.length=out.length:=ry.length
  refine bl (iU hoS₂ hdS (ch ⟨fy iR _,?_⟩) (by rw[bn,cA,hlen];simp at hz;omega) (by show(ys.toArray.push v).size≤sizeLine+1;rw[bn,j9,cA,hlen];simp at hz;omega))
  obtain⟨n',hdS'⟩:=mX hdS (·.push v)
  have hself:=fk (Obj.mapSeq (·.push v)) hoS₂ (mQ hdS')
  have Ga:Go (X.wb λi=>B i∨b' i∨i=gi) Pb g₀ σ s₀ g' σ s':=
   (G.rewb (b':=λi=>B i∨b' i∨i=gi) λi x h _=>.inr (.inl h)).comp (G'.rewb (b':=λi=>B i∨b' i∨i=gi) λi x h _=>.inr (.inr h)) ⟨λc o e h=>ho.1 c o e (.inl h),λi hi h=>ho.2 i hi h⟩
  have G₁:Go (X.wb λi=>b' i∨i=gi) Pb g₀ σ s₀ g' σ s':=Ga.rewb λi x h e=>by
   rcases h with h|h
   ·rcases hB i h with q|q
    ·exact hbb i x q e
    ·exact .inr (.inr q)
   ·exact .inr h
  have G₂:Go (X.wb λi=>b' i∨i=gi) Pb g' σ s' g' σ {s' with heap:=s'.heap.update S (Obj.mapSeq (·.push v))}:=Go.sameBut G'.sat (dD ..) hfS hS
  have G₂':Go X (a9 S) g' σ s' g' σ {s' with heap:=s'.heap.update S (Obj.mapSeq (·.push v))}:=Go.sameBut G'.sat.unwb (dD ..) hfS rfl
  have hoS':¬(ob'.gen a gi).a S:=λq=>by
   obtain⟨o,e⟩:=hd.at
   exact hoS (hoL.1 S o e q)
  have hap:(ob'.gen a gi).Apart (a9 S):=⟨λc h1 h2=>hoS' (by rw[←show c=S from h2];exact h1),λ_ _ h=>h.elim⟩
  have hit':GenItG X k σ a gi (ob'.gen a gi) b' l g' s':=⟨hG',hf',ob',rfl,hob',hob'n,hex',hbn,bu hgi G'.run.gsize,R'⟩
  have hd₂:Dst X S (out++[V]) g' σ {s' with heap:=s'.heap.update S (Obj.mapSeq (·.push v))}:=⟨hfS,ys++[v],⟨_,hself,(nb ..).trans hcS,n',by rw[hdS'];simp⟩,ry.append (.cons rv .nil)⟩
  refine nD (ih A (ob'.gen a gi) b' (λi=>b' i∨i=gi) (out++[V]) g' _ hA (G₁.trans G₂) (hoL.back' G.run ho) hoS' (hit'.go G₂' hap) (λi h=>h) hd₂ (by simp at hz ⊢;omega)) λr s' ⟨h1,g',h2,h3⟩=>⟨h1,g',h2,by simpa using h3⟩
theorem B7(hu:∀i,¬X.u i)(hlim:∀h:Heap,X.B.In h→h.NoLimit)(hA:Room A (k+3))(G:Go X am g₀ σ s₀ g σ s)(hS₀:∀o,s₀.heap.get? S=some o→False)(hd:Dst X S [] g σ s)
  (hgen:GenItG X k σ a gi own (λ_=>False) l g s)(ho:own.Le s₀ am)(hoS:¬own.a S)(hz:l.length≤65536):
  aI (model P0 X.w) A.in1 (Builtin.List.listExtendWith (.ref S) (.ref a) res) (λfin s'=>match fin with
   |.done f=>(Except.ok f:Result)=.ok (.ret res)∧∃g',Go X am g₀ σ s₀ g' σ s'∧Dst X S l g' σ s'
   |.again c'=>c'.quiet=true∧cM (model P0 X.w) A c' (λr s'=>r=.ok (.ret res)∧∃g',Go X am g₀ σ s₀ g' σ s'∧Dst X S l g' σ s') s') ai s:=by
 have drop:∀{g':View} {s':Shared},Go X (a9 S) g₀ σ s₀ g' σ s'→Go X am g₀ σ s₀ g' σ s':=λG=>G.weaken ⟨λb o e h=>hS₀ o (by rw[←show b=S from h];exact e),λ_ _ h=>h⟩
 have hoP:own.Le s₀ (a9 S):=⟨λb o e h=>(ho.1 b o e h).elim,λi hi h=>(ho.2 i hi h).elim⟩
 have hSa:S≠a:=λe=>by
  obtain⟨_,_,ob,hoo,_⟩:=hgen
  exact hoS (by rw[hoo,e];exact .inr rfl)
 have hT:=hgen.1.typeIs
 unfold Builtin.List.listExtendWith
 refine bl (wpAny_typeOf hT ?_)
 have hsame:Builtin.List.listSameRef (.ref S) (.ref a)=false:=by simp[Builtin.List.listSameRef,hSa]
 simp only[hsame,show(Value.type "generator"==Value.type "list")=false from by decide,show(Value.type "generator"==Value.type "tuple")=false from by decide,Bool.or_false,eM,dr]
 refine bl (xn (g:=gi) hT ?_)
 refine bl (bT (yA hT λb tk=>?_))
 have Gt:Go X am g σ s g σ {s with toks:=tk}:=Go.keeps G.sat λ_ _ e=>e
 have hi':=hgen.go Gt Pv.Apart.noP
 have hd₂:=hd.go Gt id
 have G₂:Go X (a9 S) g₀ σ s₀ g σ {s with toks:=tk}:=(G.trans Gt).any
 have loop:∀s₃,Go X (a9 S) g σ {s with toks:=tk} g σ s₃→Dst X S [] g σ s₃→aI (model P0 X.w) A.in1 (again (.builtin "list.extend.loop" ⟨[.ref S,.ref a,res],[]⟩)) (λfin s'=>match fin with
   |.done f=>(Except.ok f:Result)=.ok (.ret res)∧∃g',Go X am g₀ σ s₀ g' σ s'∧Dst X S l g' σ s'
   |.again c'=>c'.quiet=true∧cM (model P0 X.w) A c' (λr s'=>r=.ok (.ret res)∧∃g',Go X am g₀ σ s₀ g' σ s'∧Dst X S l g' σ s') s') ai s₃:=λs₃ G₃ hd₃=>by
  have hap:own.Apart (a9 S):=⟨λb h1 h2=>hoS (by rw[←show b=S from h2];exact h1),λ_ _ h=>h.elim⟩
  refine ch ⟨fy iR _,nD (Ay (Pb:=a9 S) hu hlim rfl l A own _ (λ_=>False) [] g s₃ hA (G₂.trans G₃).wb hoP hoS (hi'.go G₃ hap) (λ_ h=>h.elim) hd₃ (by simpa using hz)) λr s' ⟨h1,g',h2,h3⟩=>⟨h1,g',drop h2,by simpa using h3⟩⟩
 split
 ·refine bl (c5 (bl ?_))
  show wpAny _ A.in1 (updateSeq S (·.push .none)>>= λ_=>updateSeq S (·.pop)) _ _ _
  obtain⟨hfr,ys,⟨o,ho,hc,n,hdt⟩,r⟩:=id hd₂
  have e0:ys=[]:=by unfold RepL at r;exact r
  subst e0
  refine ac (iU ho hdt ?_)
  obtain⟨n',hd'⟩:=mX hdt (·.push Value.none)
  have hs₁:=fk (Obj.mapSeq (·.push Value.none)) ho (mQ hd')
  refine iU hs₁ hd' ?_
  obtain⟨n'',hd''⟩:=mX hd' (·.pop)
  have hs₂:=fk (Obj.mapSeq (·.pop)) hs₁ (mQ hd'')
  have Ga:Go X (a9 S) g σ {s with toks:=tk} g σ {s with toks:=tk,heap:=s.heap.update S (Obj.mapSeq (·.push Value.none))}:=Go.sameBut Gt.sat (dD ..) hfr rfl
  have Gb:Go X (a9 S) g σ {s with toks:=tk,heap:=s.heap.update S (Obj.mapSeq (·.push Value.none))} g σ {s with toks:=tk,heap:=(s.heap.update S (Obj.mapSeq (·.push Value.none))).update S (Obj.mapSeq (·.pop))}:=Go.sameBut Ga.sat (dD ..) hfr rfl
  exact loop _ (Ga.trans Gb) ⟨hfr,[],⟨_,hs₂,(nb ..).trans ((nb ..).trans hc),n'',by rw[hd''];rfl⟩,.nil⟩
 ·exact loop _ (.refl Gt.sat) hd₂
theorem Az(hu:∀i,¬X.u i)(hlim:∀h:Heap,X.B.In h→h.NoLimit)(hA:Room A (k+4))(G:Go X am g₀ σ s₀ g σ s)(hgen:GenItG X k σ a gi own (λ_=>False) l g s)(ho:own.Le s₀ am)(hz:l.length≤65536):
  aI (model P0 X.w) A (collect (.ref a)) (λvs s'=>∃g',Go X am g₀ σ s₀ g' σ s'∧RepL g' l vs) ai s:=by
 unfold collect
 refine c9 (xh (kd (by decide+kernel) F.entry_proto_collect ?_))
 show aI _ A.in1 (newList []>>= λl=>again (.builtin "list.__iadd__" ⟨[l,.ref a],[]⟩)) _ _ s
 refine bl (di ?_ (by size_fits))
 refine ch ⟨fy ue _,kd ue F.entry_list_iadd ?_⟩
 have Gk:Go X am g σ s g σ {s with heap:=s.heap.push {cls:=.type "list",data:=.seq ([]:List Value).toArray}}:=Go.keeps G.sat λb o e=>aJ _ e
 have hgen':=hgen.go Gk Pv.Apart.noP
 have hS:∀o,s.heap.get? s.heap.objs.size=some o→False:=λo e=>bt _ (aY e)
 have hS₀:∀o,s₀.heap.get? s.heap.objs.size=some o→False:=λo e=>let ⟨o',e'⟩:=G.dom e id;hS o' e'
 have hoS:¬own.a s.heap.objs.size:=λq=>by
  obtain⟨hG,hf,ob,rfl,hna,hn,hex,hb,hgi,R⟩:=hgen
  rcases q with q|q
  ·obtain⟨o,e⟩:=hex.1 _ q;exact hS o e
  ·obtain⟨o,_,_,e,_⟩:=hG;rw[←q] at e;exact hS o e
 have hd:Dst X s.heap.objs.size [] g σ {s with heap:=s.heap.push {cls:=.type "list",data:=.seq ([]:List Value).toArray}}:=⟨bC G.sat (aG _),[],⟨_,aX _ rfl,rfl,0,rfl⟩,.nil⟩
 show aI _ A.in1 (Builtin.List.listExtendWith (.ref s.heap.objs.size) (.ref a) (.ref s.heap.objs.size)) _ _ _
 refine dG (B7 hu hlim (hA.mono (eS _)) (G.trans Gk) hS₀ hd hgen' ho hoS hz) (λfin s' h=>?_) λ_ _ x=>x.elim
 have fin_:∀{s':Shared},(∃g',Go X am g₀ σ s₀ g' σ s'∧Dst X s.heap.objs.size l g' σ s')→aI (model P0 X.w) A (do match (←load s.heap.objs.size).data with
   |.seq xs _=>pure xs.toList
   |_=>unsupported "internal:collect") (λvs s'=>∃g',Go X am g₀ σ s₀ g' σ s'∧RepL g' l vs) ai s':=λ{s'} ⟨g',h1,hf,ys,⟨o,ho,hc,n,hdt⟩,r⟩=>by
  refine bl (ja ho ?_)
  rw[hdt]
  exact ch ⟨g',h1,by simpa using r⟩
 cases fin with
 |done f=>obtain⟨h1,h2⟩:=h;cases h1;exact⟨_,rfl,fin_ h2⟩
 |again c'=>exact⟨h.1,nD h.2 λr s'' ⟨h1,h2⟩=>⟨_,h1,fin_ h2⟩⟩
theorem zQ(hu:∀i,¬X.u i)(hlim:∀h:Heap,X.B.In h→h.NoLimit)(hA:Room A (k+6))(G:Go X am g₀ σ s₀ g σ s)(hgen:GenItG X k σ a gi own (λ_=>False) l g s)(ho:own.Le s₀ am)(hz:l.length≤65536)(h:Q (.tup l) σ):
  aI (model P0 X.w) A (call (.type "tuple") [.ref a]) (Post X am g₀ σ s₀ Q) ai s:=by
 refine Bv ng (F.typeCall_tuple_1 _) wS (gz ?_)
 show aI _ A.in1.in1 (do checkBuiltinCall "tuple.__new__" ⟨[.type "tuple",.ref a],[]⟩;again (.builtin "tuple.__new__" ⟨[.type "tuple",.ref a],[]⟩)) _ _ s
 refine bl (bw (F.newCall_tuple_1 _) (ch ⟨fy uf _,kd uf F.entry_tuple_new ?_⟩))
 rw[zW]
 have hTI:=hgen.1.typeIs
 refine bl (m:=Builtin.Tuple.tupleIsExact (.ref a)) (ac (wpAny_typeOf hTI (ao ?_)))
 rw[ae (by decide)]
 refine c9 (dG (Az hu hlim hA.in1.in1 G hgen ho hz) (λvs s' ⟨g',G',rv⟩=>?_) λ_ _ x=>x.elim)
 unfold Builtin.Tuple.tupleExact
 have hn:g' s'.heap.objs.size=none:=View.none_of G'.sat.in_ dn
 refine bl (di ?_ (by show vs.toArray.size≤sizeLine;rw[bn,cA,rv.length];omega))
 have hT':Shared.TypeIs {s' with heap:=s'.heap.push {cls:=.type "tuple",data:=.seq vs.toArray}} (.ref s'.heap.objs.size) "tuple":=⟨_,aX _ rfl,rfl⟩
 have hP:Post X am g₀ σ s₀ Q (.ref s'.heap.objs.size) {s' with heap:=s'.heap.push {cls:=.type "tuple",data:=.seq vs.toArray}}:=by
  refine Post.to (G'.trans (Go.keeps_add G'.sat (λb o e=>aJ _ e) dn (aX _ rfl))) ⟨.tup l,?_,h⟩
  unfold Rep
  exact⟨_,vs,rfl,jd rfl rfl,rv.le (View.le_add _ hn)⟩
 refine ch ⟨_,rfl,hT',qe _ _,object_init_meets ng.init.lookup ng.made (by decide) P0 X.w A.in1 _ _ ⟨hT',rfl,hP⟩⟩
end
def tW(X:Cx)(A:Around)(env:Env)(m:Mp)(e:Expr)(σ:St)(Q:AV→St→Prop):Prop:=
 ∀g s,Sat X g σ s→Frm X env m g σ s→aI (model P0 X.w) A (eval e env) (Post X am g σ s Q) ai s
def ExJ(X:Cx)(A:Around)(P:Pv)(env:Env)(m:Mp)(st:Stmt)(σ:St)(Q:AFl→Mp→St→Prop):Prop:=
 ∀g s,Sat X g σ s→Frm X env m g σ s→aI (model P0 X.w) A (exec st env) (PostX X P env g σ s Q) ai s
def ExsJ(X:Cx)(A:Around)(P:Pv)(env:Env)(m:Mp)(st:List Stmt)(σ:St)(Q:AFl→Mp→St→Prop):Prop:=
 ∀g s,Sat X g σ s→Frm X env m g σ s→aI (model P0 X.w) A (execs st env) (PostX X P env g σ s Q) ai s
def za(X:Cx)(A:Around)(f:AV)(l:List AV)(σ:St)(Q:AV→St→Prop):Prop:=
 ∀g s fv vs,Sat X g σ s→Rep g f fv→RepL g l vs→aI (model P0 X.w) A (call fv vs []) (Post X am g σ s Q) ai s
def vr(X:Cx)(k:Nat)(f:AV)(l:List AV)(σ:St)(Q:AV→St→Prop):Prop:=
 ∀A g s fv vs,Room A k→Sat X g σ s→Rep g f fv→RepL g l vs→cM (model P0 X.w) A (.call fv ⟨vs,[]⟩) (λr s'=>∃v,r=.ok (.ret v)∧Post X am g σ s Q v s') s
theorem C3{M:Model}{A:Around}{α:Type}{E:Value→Shared→Prop}{s:Shared}{vs:List Value}{m:Sem α}{Q:α→Shared→Prop}(h:aI M A m Q E s):aI M A (m.keep vs) Q E s:=λΓ p hΓ=>by rw[yt];exact h Γ p hΓ
theorem Gm{M:Model}{A:Around}{E:Value→Shared→Prop}{s:Shared}{c:Code}{Q:Flow→Shared→Prop}(hc:cM M A c (λr s'=>∃f,r=.ok f∧Q f s') s):aI M A (run c) Q E s:=λΓ p hΓ=>by
 obtain⟨r,s',hr,f,rfl,hq⟩:=hc _ p rfl (hΓ.enter c none p (by intro x;cases x))
 exact⟨_,s',hr,hq⟩
section
variable {X:Cx} {A:Around} {P:Pv} {env:Env} {m:Mp} {σ:St} {Q:AFl→Mp→St→Prop}
theorem ExJ.of{st:Stmt}(h:Ex X A ai P env m st σ Q):ExJ X A P env m st σ Q:=λg s S F=>df (h g s S F)
theorem ExsJ.of{st:List Stmt}(h:Exs X A ai P env m st σ Q):ExsJ X A P env m st σ Q:=λg s S F=>df (h g s S F)
theorem dk{st:Stmt}{rest:List Stmt}(h:ExJ X A P env m st σ λF m₁ σ₁=>match F with|.next=>ExsJ X A P env m₁ rest σ₁ Q|F=>Q F m₁ σ₁):ExsJ X A P env m (st::rest) σ Q:=λg s S F=>by
 rw[execs_cons]
 refine c9 (dG (h g s S F) (λf s₁ ⟨g₁,Fl,m₁,σ₁,G₁,F₁,r₁,h₁⟩=>?_) i2)
 cases Fl with
 |next=>cases r₁;exact dG (h₁ g₁ s₁ G₁.sat F₁) (λf s₂ h₂=>h₂.after G₁) i2
 |brk=>cases r₁;exact ch ⟨g₁,.brk,m₁,σ₁,G₁,F₁,rfl,h₁⟩
 |cont=>cases r₁;exact ch ⟨g₁,.cont,m₁,σ₁,G₁,F₁,rfl,h₁⟩
 |ret V=>obtain⟨v,rfl,r⟩:=r₁;exact ch ⟨g₁,.ret V,m₁,σ₁,G₁,F₁,⟨v,rfl,r⟩,h₁⟩
theorem BE{e:Expr}{pos}(h:tW X A env m e σ λV σ₁=>Q (.ret V) m σ₁):ExJ X A P env m (.Return (some e) pos) σ Q:=λg s S F=>by
 rw[exec_Return_some]
 refine bl (bL (c9 (dG (h g s S F) (λv s₁ ⟨g₁,V,σ₁,G₁,r₁,h₁⟩=>?_) i2)))
 exact ch ⟨g₁,.ret V,m,σ₁,G₁.any,F.go G₁,⟨v,rfl,r₁⟩,h₁⟩
theorem Dd{k:Nat}{N:Addr}{target iter:Expr}{body:List Stmt}{pos}(hA:Room A k)(h:tW X A env m iter σ λV σ₁=>jy X A ai k (some target) V σ₁ λDep l σ₂=>iy X A Dep (ax N env) env target body Q l m σ₂)
  (hs:∀x,foldedSetIterable iter env x=pure x:=by intro _;rfl):ExJ X A (ax N env) env m (.For target iter body [] pos) σ Q:=λg s S F=>by
 rw[exec_For]
 refine bl (bL (c9 (dG (h g s S F) (λv s₁ ⟨g₁,V,σ₁,G₁,r₁,h₁⟩=>df (ac (bw (hs v) (ac (bL (ac (bT ?_))))))) i2)))
 refine aj (h₁ g₁ s₁ v G₁.sat r₁) (λit s₂ ⟨g₂,σ₂,Dep,It,own,l,G,ho,I,hit,h₂⟩=>?_) i2
 have ho':own.Le s am:=⟨λb o e q=>let ⟨o',e'⟩:=G₁.dom e id;ho.1 b o' e' q,λi hi q=>ho.2 i (bu hi G₁.run.gsize) q⟩
 have G':=G₁.trans G
 refine wpAny_runOwn (cI (xy hA I F ⟨G'.any,F.go G',ho',hit⟩ h₂) λr s' hr=>?_)
 cases r with
 |ok f=>exact hr
 |error e=>exact hr.elim
theorem Bl{f:AV}{fv:Value}{g:View}{s:Shared}{first:List Value}{args:List (Bool×Sem Value)}{pos:Pos}{R:Value→Shared→Prop}(r:Rep g f fv)(hpl:args.any (·.1)=false)
  (h:wpAny (model P0 X.w) A (evalArgs fv true args []) (λa s₁=>(∃g₁ σ₁,Sat X g₁ σ₁ s₁∧aV X σ₁ f)∧aI (model P0 X.w) A (call fv (first++a.pos) a.kw) R ai s₁) ai s):
  aI (model P0 X.w) A (callWith pos fv first args []) R ai s:=by
 unfold callWith
 refine bl (bT (aj h (λa s₁ ⟨⟨g₁,σ₁,S,K⟩,c⟩=>bl (bL ?_)) i2))
 have hk:∃k,(k=Keeper.frame∨k=Keeper.machine∨k=Keeper.boundFrame)∧Looks (model P0 X.w) s₁.heap (keeperOf fv) k:=by
  cases f with
  |ref a=>
   unfold Rep at r;subst r
   rcases K with ⟨o,fd,e,d⟩|⟨Kf,hK,hk⟩
   case inr=>
    obtain⟨k,h1,h2⟩:=looks_keep hk (hK _ (S.in_.le S.le))
    exact⟨k,h1.elim .inl λq=>.inr (.inl q),h2⟩
   have ho:s₁.heap.get? a=some o:=by
    rcases e with e|e
    ·exact S.in_ a o (S.le a o e)
    ·exact(S.trk a _ e).2
   obtain⟨c0,d0,dt,sl⟩:=o
   subst d
   exact⟨.frame,.inl rfl,(Looks.ld (part:=none) ho).andThen .now⟩
  |blt n=>unfold Rep at r;subst r;exact⟨.machine,.inr (.inl rfl),.now⟩
  |typ n=>unfold Rep at r;subst r;exact⟨.machine,.inr (.inl rfl),.now⟩
  |_=>exact K.elim
 obtain⟨k,hk',L⟩:=hk
 have hpl':(args.any (·.1)||([]:List (Option Str×Sem Value)).any (·.1.isNone))=false:=by rw[hpl];rfl
 simp only[hpl']
 refine bl (L.here ?_)
 have tail:∀{t:Sem Value},aI (model P0 X.w) A t R ai s₁→aI (model P0 X.w) A (t>>= λr=>holding [r] point>>= λ_=>pure r) R ai s₁:=
  λht=>c9 (dG ht (λr s₂ hr=>df (ac (bT (qI (ao hr))))) i2)
 have marked (mk:Value):aI (model P0 X.w) A (callMarked mk fv (first++a.pos) a.kw) R ai s₁:=by unfold callMarked;exact C3 c
 rcases hk' with rfl|rfl|rfl<;>dsimp only<;>first|exact tail c|(split<;>first|exact tail c|exact tail (marked _))
theorem xE{f:AV}{fv:Value}{g:View}{s:Shared}{fvs:List Value}{args:List Expr}{pos:Pos}{R:Value→Shared→Prop}(r:Rep g f fv)
  (h:wpAny (model P0 X.w) A (spliced (backTo pos (starEach args env))) (λvs s₁=>(∃g₁ σ₁,Sat X g₁ σ₁ s₁∧aV X σ₁ f)∧aI (model P0 X.w) A (call fv (fvs++vs) []) R ai s₁) ai s)
  (hst:(starEach args env).all (λx=> !x.1)=true):aI (model P0 X.w) A (callWith pos fv fvs (backTo pos (starEach args env)) []) R ai s:=by
 have hpl:(backTo pos (starEach args env)).any (·.1)=false:=by
  rw[kt,qd];simp only[hst];rfl
 refine Bl (args:=backTo pos (starEach args env)) r hpl ?_
 have fin:=h
 cases hl:backTo pos (starEach args env) with
 |nil=>
  rw[hl] at fin
  unfold evalArgs
  show wpAny _ A (spliced []>>= _) _ ai s
  refine ac (aj fin (λvs s₁ h₁=>ac (ao ?_)) i2)
  refine bT ?_
  exact ac (ao (ac (ao (ao h₁))))
 |cons x rest=>
  obtain⟨b,t⟩:=x
  rw[hl] at fin hpl
  have:b=false:=by
   cases b
   ·rfl
   ·simp at hpl
  subst this
  exact mM fin
theorem CJ{fe:Expr}{args:List Expr}{pos:Pos}{Q:AV→St→Prop}(h:Ev X A ai env m fe σ λF σ₁=>dz X A ai env m args pos σ₁ λl σ₂=>aV X σ₂ F∧za X A F l σ₂ Q)
  (he:eval (.Call fe args [] pos) env=(do callWith pos (←eval fe env) [] (backTo pos (starEach args env)) (backToKw pos (keywordEach [] env))):=by rfl)
  (hst:(starEach args env).all (λx=> !x.1)=true:=by rfl):tW X A env m (.Call fe args [] pos) σ Q:=λg s S F=>by
 rw[he]
 refine bl (aj (h g s S F) (λfv s₁ ⟨g₁,f,σ₁,G₁,r₁,h₁⟩=>?_) i2)
 refine xE (fvs:=[]) r₁ (aj (h₁ g₁ s₁ G₁.sat (F.go G₁)) (λvs s₂ ⟨g₂,l,σ₂,G₂,r₂,K,c⟩=>⟨⟨g₂,σ₂,G₂.sat,K⟩,?_⟩) i2) hst
 exact dG (c g₂ s₂ fv vs G₂.sat (r₁.le G₂.le) r₂) (λ_ _ x=>x.after (G₁.trans G₂)) i2
theorem Cr{k:Nat}{f:AV}{l:List AV}{Q:AV→St→Prop}(h:vr X k f l σ Q)(hA:Room A k):za X A f l σ Q:=λg s fv vs S r rl=>rz (h A g s fv vs hA S r rl)
theorem Af{k:Nat}{fe e:Expr}{pos:Pos}{l:List AV}{Q:AV→St→Prop}(hu:∀i,¬X.u i)(hlim:∀h:Heap,X.B.In h→h.NoLimit)(hA:Room A (k+6))(hf:Ev X A ai env m fe σ λF σ₁=>F=.typ "tuple"∧σ₁=σ)(he:wa X A ai k env m e σ l)(hz:l.length≤65536)(h:Q (.tup l) σ)
  (heq:eval (.Call fe [e] [] pos) env=(do callWith pos (←eval fe env) [] (backTo pos (starEach [e] env)) (backToKw pos (keywordEach [] env))):=by rfl)
  (hs:starEach [e] env=(false,eval e env)::starEach [] env:=by rfl):tW X A env m (.Call fe [e] [] pos) σ Q:=λg s S F=>by
 rw[heq]
 refine bl (aj (hf g s S F) (λfv s₁ ⟨g₁,f,σ₁,G₁,r₁,e1,e2⟩=>?_) i2)
 subst e1 e2
 refine xE (fvs:=[]) r₁ (kC (aj (he g₁ s₁ G₁.sat (F.go G₁)) (λv s₂ ⟨a,gi,g₂,own,hv,G₂,ho,hg⟩=>?_) i2) hs) (by rw[hs];rfl)
 subst hv
 refine args_nil ⟨⟨g₂,_,G₂.sat,trivial⟩,?_⟩
 have hf':fv=.type "tuple":=by unfold Rep at r₁;exact r₁
 subst hf'
 have ho':own.Le s am:=⟨λb o e q=>let ⟨o',e'⟩:=G₁.dom e id;ho.1 b o' e' q,λi hi q=>ho.2 i (bu hi G₁.run.gsize) q⟩
 exact zQ hu hlim hA (G₁.trans G₂) hg ho' hz h
theorem Ej{k:Nat}{a:Addr}{fd:FuncData}{body:List Stmt}{l l':List AV}{Q:AV→St→Prop}(F:FnAt X a fd body)(xs:List Str)
  (hbind:∀g s vs,Sat X g σ s→RepL g l vs→∃vs',RepL g l' vs'∧BindsTo s fd ⟨vs,[]⟩ (xs.zip vs'))
  (hx:xs.all (λx=>fd.scope.names.lookup x==some .local||fd.scope.names.lookup x==some .cell)=true)
  (h:∀A L,Room A k→ExsJ X A (ax L (callEnvC fd L a)) (callEnvC fd L a) (cF xs l' Mp.nil) body σ λFl _ σ'=>match Fl with|.ret V=>Q V σ'|.next=>Q .none σ'|_=>False)
  (hclo:fd.closure=[]:=by rfl)(hco:fd.scope.isCoroutine=false:=by rfl)(hgen:fd.scope.isGenerator=false:=by rfl)(hk:fd.scope.kind=.function:=by rfl):
  vr X (k+1) (.ref a) l σ Q:=λA g s fv vs hA S hf r=>by
 unfold Rep at hf
 subst hf
 obtain⟨o,ho,hd⟩:=F.obj S
 obtain⟨vs',r',hb⟩:=hbind g s vs S r
 refine gz ?_
 show aI _ A.in1 (callAny (.ref a) _) _ _ s
 simp only[callAny]
 refine bl (ja ho ?_)
 obtain⟨c,oc,vs1,tq,hc,hoc,hdc,hq⟩:=F.cdRec S
 have hbody:=F.body
 simp only[hd,callFunction,hco,hgen,hbody,hc]
 refine bl (m:=field (.ref c) 1) (bM hoc hdc hq (bl (ao ?_)))
 refine bl (hb _ _ _ _ (bl ?_))
 rw[←hc,hclo]
 refine jY hk (λy hy=>?_) λenv he s' x=>?_
 ·have hm:y.1∈xs:=(mV hy).1
  have:=gq.mp hx y.1 hm
  rw[iS,bd,bd] at this
  rcases this with q|q
  ·exact .inl q
  ·exact .inr ⟨q,let ⟨c,hc⟩:=gx fd.scope.names (s.heap.objs.size+1) [] q;by rw[hc];rfl⟩
 ·have he':env=callEnvC fd s.heap.objs.size a:=he
  subst he'
  have Fr:=iY (a:=a) S r' hk hx x
  have G:=jf S x (P:=am)
  refine bl (wpAny_enterFrame ((F.noLimit S).keeps x.toInCall.keep) (by have:=hA.depth;show A.depth<_;omega) (ch ⟨rfl,gz ?_⟩))
  show aI _ (A.deeper _) (do point;match ←(execs body (callEnvC fd s.heap.objs.size a)).onRaise (leaving (callEnvC fd s.heap.objs.size a)) with|.ret v=>ret v|_=>ret .none) _ _ _
  refine bl (qI (c9 (xj (dG (h (A.deeper _) s.heap.objs.size (Room.deeper hA) g s' G.sat Fr) (λf s'' ⟨g',Fl,m',σ',G',_,rf,q⟩=>?_) i2))))
  have G'':Go X am g σ s g' σ' s'':=Go.weaken (Go.trans (G.any) G') (io (aG _))
  cases Fl with
  |next=>cases rf;exact ch ⟨_,rfl,g',.none,σ',G'',by unfold Rep;rfl,q⟩
  |ret V=>obtain⟨v,rfl,rv⟩:=rf;exact ch ⟨v,rfl,g',V,σ',G'',rv,q⟩
  |brk=>exact q.elim
  |cont=>exact q.elim
end
def d6(M:Model):Nat→Shared→Thread→Run
 |0,s,t=>.running s t
 |n+1,s,t=>
  match dm M s t with
  |.go s' t'=>d6 M n s' t'
  |.halt o s'=>.halted o s'
def d7(s:Shared)(t:Thread):Bool:= !eH s t&& !t.refused
section
variable {M:Model}
theorem A7{s th s' th'}(h:d6 M n s th=.running s' th'):
  d6 M (n+1) s th=match dm M s' th' with|.go s'' t''=>.running s'' t''|.halt o s''=>.halted o s'':=by
 induction n generalizing s th with
 |zero=>
  have h':Run.running s th=.running s' th':=h
  injection h' with h1 h2
  subst h1 h2
  show(match dm M s th with|.go s' t'=>d6 M 0 s' t'|.halt o s'=>.halted o s')=_
  cases dm M s th<;>rfl
 |succ n ih=>
  rw[show d6 M (n+1) s th=(match dm M s th with|.go s' t'=>d6 M n s' t'|.halt o s'=>.halted o s') from rfl] at h
  rw[show d6 M (n+1+1) s th=(match dm M s th with|.go s' t'=>d6 M (n+1) s' t'|.halt o s'=>.halted o s') from rfl]
  cases hs:dm M s th with
  |go s₁ t₁=>simp only[hs] at h ⊢;exact ih h
  |halt o s₁=>simp only[hs] at h;cases h
theorem ReachJ.runN{s t c p pre s' e}(h:ReachJ M base s t c p pre s' e):
  ∃n t' c' p' pre',d6 M n s ⟨t,c,p,pre++base⟩=.running s' ⟨t',c',p',pre'++base⟩∧Exits e t' c' p' pre':=by
 induction h with
 |exit hx=>exact⟨0,_,_,_,_,rfl,hx⟩
 |step hs _ ih=>
  obtain⟨n,t',c',p',pre',hn,hx⟩:=ih
  exact⟨n+1,t',c',p',pre',by show(match dm M _ _ with|.go s' t'=>d6 M n s' t'|.halt o s'=>.halted o s')=_;rw[hs];exact hn,hx⟩
theorem Bj(r:Result)(hl:leftWithCleanup s.gens=false):dm M s ⟨leafOf r,c,p,[]⟩=.halt (outcomeOf r) s:=by
 have h:M.step s ⟨leafOf r,c,p,[]⟩=.halt (outcomeOf r) s:=by
  rw[step_leaf_nil];simp only[finish,hl,eM,dr]
 have hq:Thread.loud ⟨leafOf r,c,p,[]⟩=false:=by
  cases hh:Thread.loud ⟨leafOf r,c,p,[]⟩ with
  |false=>rfl
  |true=>rw[Model.step_loud M hh] at h;cases r<;>cases h
 rw[qE (yp hq)]
 rw[Model.step_quiet M hq] at h
 exact h
theorem AK(h:RunsJ M ⟨c,none,none,[],none⟩ p t [] s (.ret r) s')(hl:leftWithCleanup s'.gens=false):∃n,d6 M n s ⟨t,c,p,[]⟩=.halted (outcomeOf r) s':=by
 obtain⟨n,t',c',p',pre',hn,rfl,rfl⟩:=(h [] ⟨rfl,rfl,rfl,rfl⟩).runN
 refine⟨n+1,?_⟩
 rw[ey] at hn
 rw[A7 hn,Bj r hl]
end
section
variable {M:Model}
theorem AU(h:d6 M n s t=.halted o s')(ho:o.ends=true):
  runNK M.den M.prog M.w n s t=.halted o s'∧∀k s₁ t₁,runNK M.den M.prog M.w k s t=.running s₁ t₁→d7 s₁ t₁=true:=by
 induction n generalizing s t with
 |zero=>cases h
 |succ n ih=>
  have h:(match dm M s t with|.go s' t'=>d6 M n s' t'|.halt o s'=>.halted o s')=.halted o s':=h
  cases hl:eH s t with
  |true=>
   simp only[dm,hl,if_true] at h
   injection h with h1 _;subst h1;exact absurd ho (by simp[Outcome.ends])
  |false=>
   simp only[qE hl] at h
   have hcalm:d7 s t=true:=by
    rw[d7,hl]
    cases hr:t.refused with
    |false=>rfl
    |true=>
     obtain⟨what,e⟩:=stepK_refused M.den M.prog M.w (s:=s) hr
     simp only[e] at h
     injection h with h1 _;subst h1;exact absurd ho (by simp[Outcome.ends])
   cases hs:stepK M.den M.prog M.w s t with
   |go s₂ t₂=>
    simp only[hs] at h
    obtain⟨a,b⟩:=ih h
    refine⟨by simp only[runNK,hs];exact a,λk s₁ t₁ hk=>?_⟩
    cases k with
    |zero=>injection hk with e1 e;exact e▸e1▸hcalm
    |succ k=>simp only[runNK,hs] at hk;exact b k s₁ t₁ hk
   |halt o₂ s₂=>
    simp only[hs] at h
    refine⟨by simp only[runNK,hs];exact h,λk s₁ t₁ hk=>?_⟩
    cases k with
    |zero=>injection hk with e1 e;exact e▸e1▸hcalm
    |succ k=>simp only[runNK,hs] at hk;cases hk
theorem Au(s:Shared)(t:Thread):eH s.forget t.forget=eH s t:=by
 obtain⟨cur,code,pos,stack⟩:=t
 have hd:fP s.forget code=fP s code:=by
  unfold fP;rfl
 cases cur with
 |yield v g l k=>simp only[eH,Thread.forget,Thread.atCollectorCode,Thread.atExit,splitAtGen_forgetAll,hd];cases splitAtGen stack<;>simp
 |_=>rfl
theorem z6(t:Thread):t.forget.refused=t.refused:=by
 obtain⟨cur,code,pos,stack⟩:=t
 cases cur<;>rfl
theorem xg(s:Shared)(t:Thread):d7 s.forget t.forget=d7 s t:=by rw[d7,Au,z6];rfl
theorem BB(hc:∀k s₁ t₁,runNK den prog w k s t=.running s₁ t₁→d7 s₁ t₁=true):∀k s₁ t₁,runN den prog w k s t=.running s₁ t₁→d7 s₁ t₁=true:=by
 intro k s₁ t₁ hk
 have e:=runNK_same den prog w k (s₁:=s) (s₂:=s) (t₁:=t) (t₂:=t) rfl rfl
 rw[hk] at e
 cases hr:runNK den prog w k s t with
 |halted o₂ s₂=>rw[hr] at e;cases e
 |running s₂ t₂=>
  rw[hr] at e;simp only[Run.forget] at e;injection e with e1 e2
  rw[←xg s₁ t₁,←e1,←e2,xg];exact hc k s₂ t₂ hr
end
section
variable (den:Code→Sem Fin) (prog:Program) (w:World)
theorem DA(h:d7 s t=true)(hn:∀v g l k,t.cur≠.yield v g l k):t.calm=true:=by
 obtain⟨cur,code,pos,stack⟩:=t
 simp only[d7,fq,uh] at h
 obtain⟨h1,h2⟩:=h
 rw[Thread.calm_eq]
 simp only[fq,uh]
 refine⟨?_,h2⟩
 simp only[eH,mO] at h1
 simp only[Thread.loud,mO]
 refine⟨h1.1,?_⟩
 cases cur<;>try rfl
 exact absurd rfl (hn _ _ _ _)
theorem BK{s:Shared}{fs:List Frame}{code:Code}{g:Bool}(hr:s.heap.life.registered=[])(h1:fs.any Frame.guarded=false)(h2:(g&& !fP s code)=false):closingShows s fs code g=false:=by
 unfold closingShows
 rw[h1,nq]
 cases g with
 |false=>rfl
 |true=>
  simp only[Bool.true_and,Bool.not_eq_false'] at h2
  rw[Bool.true_and]
  unfold fP at h2
  split at h2
  ·rename_i a rest kw
   show delegateShows s (.ref a)=false
   unfold delegateShows
   split at h2
   ·rename_i o ho
    simp only[ho]
    cases hg:o.genNumber? with
    |none=>rw[hg] at h2;cases h2
    |some n=>simp[hr]
   ·cases h2
  ·cases h2
theorem z0{others:List Value}{s:Shared}{v:Value}{g:Bool}{l:List Value}{k:Resume→Sem Fin}{code:Code}{pos:Pos}{stack:List Frame}(h:d7 s ⟨.yield v g l k,code,pos,stack⟩=true)(hz:s.asleep):
  lifeStep den prog w others s ⟨.yield v g l k,code,pos,stack⟩=step den prog w s ⟨.yield v g l k,code,pos,stack⟩:=by
 obtain⟨hr,hc⟩:=hz
 simp only[d7,eH,Thread.atCollectorCode,qs,nq,fq,uh,mO] at h
 obtain⟨⟨h1,h2⟩,_⟩:=h
 cases hs:Thread.special ⟨.yield v g l k,code,pos,stack⟩ with
 |false=>exact lifeStep_eq_step den prog w others s _ hs hc
 |true=>
  simp only[lifeStep,hs,if_true,collectorTurn?]
  have hsh:(match splitAtGen stack with|some (frames,_,_)=>closingShows s frames code g|none=>false)=false:=by
   split
   ·rename_i fs x y e
    rw[e] at h1
    exact BK hr h1 h2
   ·rfl
  have e1:(match Sem.yield v g l k,splitAtGen stack with
     |.yield _ guarded _ _,some (frames,_,_)=>closingShows s frames code guarded
     |_,_=>false)=false:=by
   cases he:splitAtGen stack with
   |none=>rfl
   |some x=>obtain⟨fs,y,z⟩:=x;rw[he] at hsh;exact hsh
  cases he:splitAtGen stack with
  |none=>simp[stepCounting,hc,Thread.atItsEnd]
  |some x=>
   obtain⟨fs,y,z⟩:=x
   rw[he] at hsh
   simp[stepCounting,hc,Thread.atItsEnd,hsh]
theorem Ag(s:Shared)(t:Thread)(h:d7 s t=true)(hr:s.asleep):
  sstep den prog w (.single s t)=(step den prog w s t).lift∨
   step den prog w s t=.halt (.unsupported "lifetime:generator-with-cleanup-left-suspended") s:=by
 obtain⟨cur,code,pos,stack⟩:=t
 cases cur with
 |yield v g l k=>
  have hl:=λothers=>z0 den prog w (others:=others) h hr
  have h1:(Config.single s ⟨.yield v g l k,code,pos,stack⟩).collect? w.params=none:=by
   simp[Config.collect?,Config.single,(nothing_to_collect _ _ _ s _ hr.1).1]
  have h2:(Config.single s ⟨.yield v g l k,code,pos,stack⟩).collectable=[]:=by
   simp[Config.collectable,Config.single,(nothing_to_collect w.params _ _ s _ hr.1).2]
  have h3:(Config.single s ⟨.yield v g l k,code,pos,stack⟩).moves w.params.profile=[.run 0]:=by
   simp_all [Config.moves,Config.single,movesFrom,Thread.moves,Thread.atomic,Thread.rests,Thread.tells]
  have hp:(Config.single s ⟨.yield v g l k,code,pos,stack⟩).pick w=.ok (.run 0,.single s ⟨.yield v g l k,code,pos,stack⟩):=by
   simp only[Config.pick,h1,h2,Config.pickThread,h3]
   cases w.params.lifetimes<;>simp
  have hrun:(Config.single s ⟨.yield v g l k,code,pos,stack⟩).run den prog w 0=(step den prog w s ⟨.yield v g l k,code,pos,stack⟩).lift:=by
   simp only[Config.run,Config.single]
   first
    |rfl
    |(simp[hl,others_single,frozenBadly,ThreadState.insideWrite];split<;>simp_all [Step.lift,Config.single];done)
    |(simp[hl,others_single,frozenBadly,ThreadState.insideWrite];split<;>simp_all [Step.lift,Config.single]<;>split<;>simp;done)
  exact .inl (by simp only[sstep,hp,Config.move,hrun])
 |_=>exact sstep_single den prog w s _ (DA h (λ_ _ _ _ q=>by cases q)) hr
theorem A6(n:Nat)(s:Shared)(t:Thread)(hr:s.asleep)(hc:∀k s' t',runN den prog w k s t=.running s' t'→d7 s' t'=true)
  (hx:∀k s',runN den prog w k s t≠.halted (.unsupported "lifetime:generator-with-cleanup-left-suspended") s'):schedN den prog w n (.single s t)=(runN den prog w n s t).lift:=by
 induction n generalizing s t with
 |zero=>rfl
 |succ n ih=>
  rcases Ag den prog w s t (hc 0 s t rfl) hr with e|e
  ·simp only[schedN,runN,e]
   cases hs:step den prog w s t with
   |go s' t'=>
    exact ih s' t' (by simp only[Shared.asleep,step_life den prog w s s' t t' hs];exact hr) (λk s'' t'' e=>hc (k+1) s'' t'' (by simp only[runN,hs];exact e)) λk s'' e=>hx (k+1) s'' (by simp only[runN,hs];exact e)
   |halt o s'=>rfl
  ·exact absurd (show runN den prog w 1 s t=.halted (.unsupported "lifetime:generator-with-cleanup-left-suspended") s by simp only[runN,e]) (hx 1 s)
end
theorem AY(h:d6 M n s t=.halted o s')(ho:o.ends=true)(hr:s.asleep):
  ∃s'',schedN M.den M.prog M.w n (.single s t)=.halted o s''∧runN M.den M.prog M.w n s t=.halted o s''∧s''.forget=s'.forget:=by
 obtain⟨hk,hc⟩:=AU h ho
 obtain⟨s'',hn,hf⟩:=runNK_halted M.den M.prog M.w hk
 have hc':=BB hc
 have hne:∀k s₂,runN M.den M.prog M.w k s t≠.halted (.unsupported "lifetime:generator-with-cleanup-left-suspended") s₂:=by
  intro k s₂ hk
  have a:=runN_mono M.den M.prog M.w n k s t o s'' hn
  have b:=runN_mono M.den M.prog M.w k n s t _ s₂ hk
  rw[Nat.add_comm,b] at a
  injection a with a1 _
  subst a1;exact absurd ho (by simp[Outcome.ends])
 exact⟨s'',(A6 M.den M.prog M.w n s t hr hc' hne).trans (dl Run.lift hn),hn,hf⟩
end
section
open PySem.W.X PySem.Calls
theorem Dv(t:Sem Fin):t.wrap .pure .raise id id=t:=by
 induction t<;>simp only[Sem.wrap,id, *]
theorem Ar{prog:Program}{w:World}{t:Sem Fin}{s:Shared}{R:Result→Shared→Prop}(hreg:s.asleep)
  (h:aI (model prog w) callerA t (λfin s'=>∃f,fin=.done f∧(R (.ok f) s'∧leftWithCleanup s'.gens=false)) ai s):
  ∃n r s' s'',runN (denote table) prog w n s ⟨t,.builtin "claim.caller" {},default,[]⟩=.halted (outcomeOf r) s'∧
   schedN (denote table) prog w n (.single s ⟨t,.builtin "claim.caller" {},default,[]⟩)=.halted (outcomeOf r) s'∧s'.forget=s''.forget∧R r s'':=by
 have hw:=Dv t
 have hΓ:=caller_in
 generalize hΓe:(⟨.builtin "claim.caller" {},none,none,[],none⟩:Ctx)=Γ at hΓ
 have e0:Γ.over []=Γ:=by subst hΓe;rfl
 obtain⟨e,s',hr,r,rfl,hR,hl⟩:=uO (M:=model prog w) (Γ:=Γ) (fs:=[]) (Φ:=λe s'=>∃r,e=.ret r∧R r s'∧leftWithCleanup s'.gens=false) .pure .raise id id t (e0.symm▸h Γ default hΓ) (λfin p' s' h'=>by
   obtain⟨f,rfl,h1,h2⟩:=h'
   exact⟨_,s',.leaf (.ok f),_,rfl,h1,h2⟩) (λx p' s' h'=>h'.elim)
 rw[hw] at hr
 subst hΓe
 obtain⟨n,hn⟩:=AK hr hl
 obtain⟨s'',h1,h2,h3⟩:=AY hn (outcomeOf_ends r) hreg
 exact⟨n,r,s'',s',h2,h1,h3,hR⟩
theorem zI{c:ClaimW}{tree:List Value→Sem Fin}{w:World}{s:Shared}{free:Addr→Prop}{gens:Prop}{kept:Heap→Prop}(hz:s.asleep)(hfin:∀g∈s.gens,g=GenState.finished)
  (hspec:∀args,c.pre args=true→WData.layableAll args=true→
   ∀ord:List DictEntry→List DictEntry,(∀l,(ord l).Perm l)→
   ∃vs s₁,layAllW c.records (classAt s.heap) w.params ord args s=some (vs,s₁)∧
    aI (model c.prog w) callerA (tree vs) (λfin s'=>∃f,fin=.done f∧(c.Ends s args vs s₁ (.ok f) s'∧s'.os=s.os∧AllBare s'.gens∧kept s'.heap∧(∀(i:Nat) x,s₁.gens[i]?=some x→s'.gens[i]?=some x))) ai s₁):
  c.CallFrom (λvs=>⟨tree vs,.builtin "claim.caller" {},default,[]⟩) w free gens kept s:=by
 intro args hpre hlay ord hord
 obtain⟨vs,s₁,hlaid,hcode⟩:=hspec args hpre hlay ord hord
 have hal:=layAllW_rest _ _ _ hlaid
 obtain⟨k,r,s',s'',hrun,hsched,hfo,hcase,hos,hkp,hgo⟩:=Ar (prog:=c.prog) (w:=w) (t:=tree vs) (s:=s₁)
  (R:=λr s'=>c.Ends s args vs s₁ r s'∧s'.os=s.os∧kept s'.heap∧(∀(i:Nat) x,s₁.gens[i]?=some x→s'.gens[i]?=some x))
  (Shared.asleep_of_life hal.2.2.2 hz)
  (dG hcode (by
   rintro fin s' ⟨f,e,h1,h2,h3,h4,h5⟩
   exact⟨f,e,⟨h1,h2,h4,h5⟩,leftWithCleanup_false_of_bare h3⟩) i2)
 obtain⟨eh,eg,_,eo,_⟩:=Shared.forget_eq hfo
 have hcase:=hcase.congr eh
 have hkp:kept s'.heap:=by first|exact eh▸hkp|(rw[eh] at hkp;exact hkp)|(rw[←eh] at hkp;exact hkp)
 rw[←eo] at hos
 have hlife:s'.heap.life=s.heap.life:=(runN_life _ _ _ hrun).trans hal.2.2.2
 refine⟨vs,s₁,hlaid,k,_,s',hsched,?_,(λ_ i x hx=>?_),hkp,by rw[hlife],Shared.rest_eq hos⟩
 ·rcases hcase with ⟨v,rfl,d1,d2,d3,d4,d5⟩|⟨e,ob,cls,rfl,d1,d2,d3,d4,d5⟩
  ·exact .inl ⟨v,rfl,d1,d2,d3,λb o y _=>d4 b o y,d5⟩
  ·exact .inr ⟨e,ob,cls,rfl,d1,d2,d3,d4,λb o y _=>d5 b o y⟩
 ·have hx':s₁.gens[i]?=some x:=by rw[show s₁.gens=s.gens from hal.1];exact hx
  have h1:=hgo i x hx'
  have hxf:x=.finished:=hfin x (by rw[Array.mem_iff_getElem?];exact⟨i,hx⟩)
  subst hxf
  have e1:(s'.gens.map GenState.forget)[i]?=(s''.gens.map GenState.forget)[i]?:=by have:=dl Shared.gens hfo;exact dl (·[i]?) this
  rw[Array.getElem?_map,Array.getElem?_map,h1] at e1
  cases h2:s'.gens[i]? with
  |none=>rw[h2] at e1;cases e1
  |some y=>
   rw[h2] at e1
   cases y<;>first|rfl|(simp[GenState.forget] at e1)
theorem A0{r:OpenRow}{q:Program}{loose:List Str}{Xt:Shared→Bool}{XP:(Str→Option Value)→Heap→Prop}{α:Type}{Yf:Shared→α}{Ya:World→α}{YP:World→Heap→Prop}{d:DefRec}{kwd:List (Str×Expr)}{N:Nat}
  (left:LeftO r.prog q loose Xt Yf Ya N false)(hY:∀w s,Yf s=Ya w→YP w s.heap)(hYk:∀w h h',YP w h→(∀b o,h.get? b=some o→h'.get? b=some o)→YP w h')
  (hX:∀s,Xt s=true→XP (s.heap.nsMap mainGlobals) s.heap)(hXk:∀mg h h',XP mg h→(∀b o,h.get? b=some o→h'.get? b=some o)→XP mg h')
  (hdef:defOf q r.name=some (d,kwd))(hp:r.prog.theDef r.name=some (d.params,d.body,d.scope))(hk:kwWritten? d.params.kwonlyargs d.params.kw_defaults=some kwd)(hRf:∀s,Xt s=true→RecFacts r.records s.heap)(hwr:(!r.writes||r.records.isEmpty)=true)
  (k1:r.wellSaid=true)(ok:(chainsOk q&&opensWell r.prog&&(PySem.W.frees r.toRowW&&r.within.isEmpty))=true)(hb:r.prog.bare)(hw:r.toRowW.promised)
  (call:∀(w:World) (s₀ s₁:Shared) (mg mb:Str→Option Value),Ground q loose r.records XP w s₀ mg mb s₁.heap→YP w s₁.heap→(∀g∈s₁.gens,g=GenState.finished)→∀(args:List WData) (vs:List Value) (as:List Addr),
   r.toRowW.claim.pre args=true→WData.layableAll args=true→ReadsAllW r.records (classAt s₀.heap) s₁.heap vs args as→WellAll w.params s₁.heap vs args→(∀a∈as,(a==sysModules)=false)→∃f,mg r.name=some f∧
    aI (model r.prog w) callerA (PySem.call f vs) (λv s'=>GoodWG r.toRowW.claim (classAt s₀.heap) (ExcName.means s₀.heap) args s₁ (.ok (.ret v)) s'∧(∀(i:Nat) x,s₁.gens[i]?=some x→s'.gens[i]?=some x)) ai s₁):r.Holds:=by
 obtain⟨ok,k5⟩:=wN.mp ok
 obtain⟨hch,o1⟩:=wN.mp ok
 obtain⟨k5,k6⟩:=wN.mp k5
 obtain⟨hsame,hu,ha,hap,hm⟩:=frees_parts k5
 refine⟨k1,hw,?_⟩
 refine⟨⟨hb,o1,by show r.makers.map _=[];rw[hm];rfl⟩,hw.witness,λw=>⟨(left.behind hX hch w).1,λs' hs'=>?_⟩⟩
 obtain⟨s₀,hf,hg0,s,hT,hz,hgens,hg,G00,y⟩:=(left.behind (XP:=λmg h=>XP mg h∧RecFacts r.records h) (λs hs=>⟨hX s hs,hRf s hs⟩) hch w).2 s' hs'
 have G0:Ground q loose [] XP w s (s.heap.nsMap mainGlobals) (s.heap.nsMap builtinsNs) s.heap:=⟨G00.T,G00.B,G00.D,G00.TE,G00.TD,G00.W,G00.X.1,G00.cls,G00.has,G00.apart,G00.once,G00.K⟩
 have RF:=G00.X.2
 have hT':=hT
 have hpin:∀n∈(if r.pinned=true then [r.name] else []),isTheDefsW r.prog s.heap n:=λn hn=>by
  obtain rfl:n=r.name:=by split at hn<;>simp_all
  exact pinned_of_view hg G0 hdef hp hk
 refine⟨s₀,hf,hg0,s,hT,hpin,RF.1,RF.2.1,?_⟩
 have hfin:∀g∈s.gens,g=GenState.finished:=λg hgm=>by
  have:=hT.2.2.2.2.2.2.2.2.2.1 g hgm
  cases g<;>first|rfl|exact this.elim
 have G:Ground q loose r.records XP w s _ _ s.heap:=RF.ground G0
 refine zI (c:=r.toRowW.claim) (tree:=λvs=>do match ←nsGet mainNs r.name with
   |some f=>do ret (←PySem.call f vs)
   |none=>unsupported "claim.caller:no-such-global") hz hfin λargs hpre hlay ord hord=>?_
 obtain⟨⟨vs,s₁⟩,hlaid⟩:=wz.mp (layAllW_isSome (P:=w.params) (ord:=ord) G.has args r.args s (pre_splitW hpre).1)
 have keeps:=layAllW_keeps _ _ _ hlaid
 have hal:=layAllW_rest _ _ _ hlaid
 obtain⟨as,hrd,hin,hold⟩:=reads_layAllW hord _ _ _ hlaid hlay s₁.heap (λ_ _ e=>e)
 have G₁:=G.keeps hXk keeps
 obtain⟨f,hf,h⟩:=call w s s₁ _ _ G₁ (hYk _ _ _ (hY w s y) keeps) (by rw[show s₁.gens=s.gens from hal.1];exact hfin) args vs as hpre hlay hrd (well_layAllW hord args s _ hlaid _ λ_ _ e=>e)
  (λa ha=>ba.mpr λe=>by have:=(hin.2.2 a ha).1;subst e;exact absurd G.low (i9.mpr this))
 have hi:=ident_freeW hu ha hap
 have hwi:r.toRowW.claim.within=[]:=List.isEmpty_iff.mp k6
 refine⟨vs,s₁,hlaid,?_⟩
 have fin_:∀v s',GoodWG r.toRowW.claim (classAt s.heap) (ExcName.means s.heap) args s₁ (.ok (.ret v)) s'→(∀(i:Nat) x,s₁.gens[i]?=some x→s'.gens[i]?=some x)→
   (r.toRowW.claim.Ends s args vs s₁ (.ok (.ret v)) s'∧s'.os=s.os∧AllBare s'.gens∧(r.writes=true→namesKept r.prog r.keeps s.heap s'.heap∧∀x∈r.records,∀a,classAt s.heap x.1=some a→recordClass s'.heap a x.1 (x.2.map (·.1))=true)∧(∀(i:Nat) x,s₁.gens[i]?=some x→s'.gens[i]?=some x)):=λv s' g hgo=>by
  obtain⟨hcase,hK,hos,hg'⟩:=g
  refine⟨?_,hos.trans hal.2.2.1,hg',λq=>⟨namesKept_of hT' hg r.keeps keeps hK.old,noTable hwr q⟩,hgo⟩
  rcases hcase with ⟨v',d',bs,e,hnr,hrv,hpost,hun⟩|⟨e,ob,cls,he,_⟩
  ·cases e
   exact .inl ⟨v,rfl,hnr,⟨d',args,bs,as,hrv,hrd.keepsK λb o e hc=>hK.get_of_cls e hc,hpost,λhu=>⟨(hun hu).1,(hun hu).2,λa ha hb'=>by
    obtain⟨o,ho⟩:=hold a hb'
    rw[(hun hu).2 a ha] at ho;cases ho⟩,λ_ _=>hi _ _⟩,(λi hi'=>by have hs':r.toRowW.claim.same=none:=hsame;rw[hs'] at hi';cases hi'),(λb o hb' _ _=>hK.old b o hb'),λi hi'=>by rw[hwi] at hi';cases hi'⟩
  ·cases he
 refine bl (wpAny_nsGet G₁.T.g ?_)
 rw[hf]
 exact c9 (dG h (λv s' hh=>ch ⟨_,rfl,fin_ v s' hh.1 hh.2⟩) i2)
end
section
open PySem.W.X
def tx(N:BD):T→By
 |.leaf v=>bZ v
 |.kv b t=>aM b ((N.lookup (tx N t)).getD [])
 |.br l r=>aO ((N.lookup (tx N l)).getD []) ((N.lookup (tx N r)).getD [])
def nm(N:BD)(t:T):By:=(N.lookup (tx N t)).getD []
def nodes(N:BD):T→List By
 |.leaf v=>[tx N (.leaf v)]
 |.kv b t=>tx N (.kv b t)::nodes N t
 |.br l r=>tx N (.br l r)::(nodes N l++nodes N r)
theorem Named.ltx:∀{t:T} {h:By},Named N t h→N.lookup (tx N t)=some h
 |.leaf v,h,x=>x
 |.kv b t,h,x=>by obtain⟨h',a,b'⟩:=x;show N.lookup (aM b ((N.lookup (tx N t)).getD []))=_;rw[a.ltx];exact b'
 |.br l r,h,x=>by obtain⟨hl,hr,a,a',b'⟩:=x;show N.lookup (aO ((N.lookup (tx N l)).getD []) ((N.lookup (tx N r)).getD []))=_;rw[a.ltx,a'.ltx];exact b'
theorem Named.nm(x:Named N t h):nm N t=h:=by unfold Tw.nm;rw[x.ltx];rfl
theorem Full.nodes:∀{t:T} {h:By} {L:List By},Full N D t h L→L=nodes N t
 |.leaf v,h,L,x=>x.2.2
 |.kv b t,h,L,x=>by obtain⟨h',L',a,_,_,e⟩:=x;rw[e,a.nodes];show aM b h'::_=aM b (Tw.nm N t)::_;rw[a.named.nm]
 |.br l r,h,L,x=>by obtain⟨hl,hr,Ll,Lr,a,a',_,_,e⟩:=x;rw[e,a.nodes,a'.nodes];show aO hl hr::_=aO (Tw.nm N l) (Tw.nm N r)::_;rw[a.named.nm,a'.named.nm]
def wit(N:BD):T→By→List By
 |.leaf v,q=>if q=[] then nodes N (.leaf v) else []
 |.kv b t,q=>(if q=[] then nodes N (.kv b t) else [])++
   (if q.length<b.length∧b.take q.length=q then tx N (.kv b t)::nodes N t
   else if q.take b.length=b then tx N (.kv b t)::wit N t (q.drop b.length) else [tx N (.kv b t)])
 |.br l r,q=>(if q=[] then nodes N (.br l r) else [])++
   (if q.take 1=[0] then tx N (.br l r)::wit N l (q.drop 1) else tx N (.br l r)::wit N r (q.drop 1))
structure Base2(X:Cx):Prop extends Base X where
 nou:∀i,¬X.u i
 f_gwp:Fn X 270 43 "get_witness_for_key_prefix" .none
 g_gwp:aL X "get_witness_for_key_prefix" (.ref 270)
 f_gwp_:Fn X 277 44 "_get_witness_for_key_prefix" .none
 g_gwp_:aL X "_get_witness_for_key_prefix" (.ref 277)
section
variable {X:Cx} {A:Around} {E:Value→Shared→Prop} {env:Env} {m:Mp} {σ:St} {Q:AV→St→Prop} (hX:Base X)
include hX
theorem fY(hm:m x=some (.bytes b))(hz:b.length≤16777216)(hk:env.kindOf "len"=some .globalImplicit)(hg:env.globals=mainGlobals)(hb:env.builtins=builtinsNs)(h:Q (.int b.length) σ)
  (hd:(x==("__debug__":Str))=false:=by rfl)(hc:(x==("__classdict__":Str))=false:=by rfl):Ev X A E env m (.Call (.Name "len" p1) [.Name x p2] [] p3) σ Q:=
 au<|im hX.g_len hk hg hb<|ad<|ap (hd:=hd) (hc:=hc) hm<|ak ⟨trivial,gw hz h⟩
theorem rp(hσ:σ a=some (.dict D))(ha:a≠1)(hN:NmOk N)(hw:WF n t)(hn:n≤64)(hs:ck t)(hf:Full N D t h L)(hz:L.length≤65536)(hA:Room A (27+10 * n))
  (hm1:m "db"=some (.ref a))(hm2:m x=some (.bytes h))(hk:env.kindOf "get_trie_nodes"=some .globalImplicit)(hg:env.globals=mainGlobals)(hb:env.builtins=builtinsNs)(hq:Q (.tup (L.map .bytes)) σ)
  (hd:(x==("__debug__":Str))=false:=by rfl)(hc:(x==("__classdict__":Str))=false:=by rfl):Ev X A ai env m (.Call (.Name "get_trie_nodes" p1) [.Name "db" p2,.Name x p3] [] p4) σ Q:=
 au<|im hX.g_gtn hk hg hb<|ad<|ap hm1<|ad<|ap (hd:=hd) (hc:=hc) hm2<|ak ⟨rt hX,aw (rI hX (k:=20+10 * n) hz (rA hX hσ ha hN hw hn hs hf hz) hq) hA.mo⟩
end
section
variable {X:Cx} {σ:St} (hX:Base2 X)
include hX
set_option maxHeartbeats 1000000 in
theorem rF(hσ:σ a=some (.dict D))(ha:a≠1)(hN:NmOk N):∀{t:T} {n:Nat} {h q:By} {L:List By},WF n t→n≤64→ck t→Full N D t h L→L.length≤65536→q.length≤n→vh X (40+10 * n) (.ref 277) [.ref a,.bytes h,.bytes q] σ ((wit N t q).map .bytes)
 |.leaf v,n,h,q,L,hw,hn,hs,hf,hz,hq=>by
  have hq0:q=[]:=by have:=hw.1;cases q with|nil=>rfl|cons _ _=>simp at hq;omega
  subst hq0
  have hL:=hf.nodes
  obtain⟨f1,f2,e3⟩:=id hf
  obtain⟨pm,c,F⟩:=hX.f_gwp_
  refine uU F ["db","node_hash","keypath"] (bk ["db","node_hash","keypath"] λvs hv=>?_) (by rfl) λLo=>?_
  ·match vs,hv with|[v,w,u],_=>rfl
  rw[show wit N (.leaf v) []=nodes N (.leaf v) from ah rfl,←hL,←ey (L.map AV.bytes)]
  refine bK<|du λA' hA'=>fE<|cJ (ab (.bytes [])<|dP (by simp) ⟨rfl,?_⟩) (by rfl)
  refine bK<|qr λA'' hA''=>rp hX.toBase hσ ha hN hw hn hs hf hz (hA''.mono (by omega)) (by rfl) (by rfl) (by rfl) rfl rfl ⟨rfl,rfl,bF ?_⟩
  refine bK<|du λA' hA'=>ar<|ab (.bytes h)<|ab (.ref a)<|i8 hσ ha ⟨_,rfl,?_⟩
  rw[f2]
  refine⟨rfl,bK<|kz λA'' hA''=>aE<|aC<|ab (.ref a)<|ab (.bytes h)<|cg hσ f2<|aq ⟨rfl,bF ?_⟩⟩
  refine bK<|kz λA'' hA''=>aE<|au<|eg hX.g_parse<|ad<|ab (.bytes (bZ v))<|ak ⟨kr hX.toBase,aw (km hX.toBase (by have:v.length≤16:=hs;omega) hw.2 ?_) (hA''.mono (by omega))⟩
  refine bV hA''.handled (by rfl) (by rfl)<|aF<|aq<|aF<|aq<|aF<|aq<|bW ⟨rfl,?_⟩
  refine bK<|du λA'' hA''=>ar<|ab (.int 2)<|eg hX.g_LEAF<|aU ⟨_,rfl,rfl,?_⟩
  exact bK<|du λA' hA'=>cJ (ab (.bytes [])<|dP (by simp) ⟨rfl,bF<|bF<|bF ⟨rfl,.inl rfl⟩⟩) (by rfl)
 |.kv b t,n,h,q,L,hw,hn,hs,hf,hz,hq=>by
  have hL:=hf.nodes
  obtain⟨h',L',f0,f1,f2,e3⟩:=id hf
  obtain⟨hb,hbits,hk,n',en,hw'⟩:=id hw
  have hb1:1≤b.length:=by cases b with|nil=>exact absurd rfl hb|cons _ _=>simp
  have hz':L'.length≤65536:=by rw[e3] at hz;simp at hz;omega
  have etx:tx N (.kv b t)=aM b h':=by show aM b (nm N t)=_;rw[f0.named.nm]
  have eL':=f0.nodes
  obtain⟨pm,c,F⟩:=hX.f_gwp_
  refine uU F ["db","node_hash","keypath"] (bk ["db","node_hash","keypath"] λvs hv=>?_) (by rfl) λLo=>?_
  ·match vs,hv with|[v,w,u],_=>rfl
  have rest:gG X (40+10 * n) σ Lo (callEnvC (cP (aD 44) "_get_witness_for_key_prefix" pm c .none) Lo 277) (cF ["db","node_hash","keypath"] [.ref a,.bytes h,.bytes q] Mp.nil) ((cj (aD 44)).drop 1)
    (((if q.length<b.length∧b.take q.length=q then tx N (.kv b t)::nodes N t else if q.take b.length=b then tx N (.kv b t)::wit N t (q.drop b.length) else [tx N (.kv b t)]):List By).map .bytes) λF _ l'=>l'=[]∧(F=.next∨F=.ret .none):=by
   refine bK<|du λA' hA'=>ar<|ab (.bytes h)<|ab (.ref a)<|i8 hσ ha ⟨_,rfl,?_⟩
   rw[f2]
   refine⟨rfl,bK<|kz λA'' hA''=>aE<|aC<|ab (.ref a)<|ab (.bytes h)<|cg hσ f2<|aq ⟨rfl,bF ?_⟩⟩
   refine bK<|kz λA'' hA''=>aE<|au<|eg hX.g_parse<|ad<|ab (.bytes (aM b h'))<|ak ⟨kr hX.toBase,aw (i6 hX.toBase (by omega) hbits (f0.named.len hN) ?_) (hA''.mono (by omega))⟩
   refine bV hA''.handled (by rfl) (by rfl)<|aF<|aq<|aF<|aq<|aF<|aq<|bW ⟨rfl,?_⟩
   refine bK<|du λA'' hA''=>ar<|ab (.int 0)<|eg hX.g_LEAF<|aU ⟨_,rfl,rfl,?_⟩
   refine bK<|du λA'' hA''=>ar<|ab (.int 0)<|eg hX.g_KV<|aU ⟨_,rfl,rfl,?_⟩
   refine bK<|du λA'' hA''=>EvB.mono (Q:=λr σ'=>σ'=σ∧r=decide (q.length<b.length∧b.take q.length=q)) ?_ λr σ' ⟨e1,e2⟩=>⟨e1,?_⟩
   ·refine eY<|ar<|fY hX.toBase (b:=q) (by rfl) (by omega) (by rfl) rfl rfl<|fY hX.toBase (b:=b) (by rfl) (by omega) (by rfl) rfl rfl<|uY ⟨_,rfl,?_⟩
    by_cases h1:q.length<b.length
    ·rw[ah (kc (by omega))]
     refine eY<|ar<|aC<|ab (.bytes b)<|bP (lower:=none) (upper:=some _)<|fY hX.toBase (b:=q) (by rfl) (by omega) (by rfl) rfl rfl ⟨_,rfl,cr (by omega) ?_⟩
     rw[gA]
     refine ab (.bytes q)<|bJ ⟨_,rfl,?_⟩
     by_cases h2:b.take q.length=q
     ·rw[show(List.take q.length b==q)=true from bd.mpr h2,ah rfl]
      exact uK ⟨rfl,(kc ⟨h1,h2⟩).symm⟩
     ·rw[show(List.take q.length b==q)=false from ba.mpr h2,ae aT]
      exact⟨rfl,(iW λh=>h2 h.2).symm⟩
    ·rw[ae (by simp;omega)]
     exact⟨rfl,(iW λh=>h1 h.1).symm⟩
   ·subst e2
    by_cases hc:q.length<b.length∧b.take q.length=q
    ·rw[kc hc,ah rfl,ah hc,bQ,etx,←eL',←ey (L'.map AV.bytes)]
     refine bK<|nB λA'' hA''=>ab (.bytes (aM b h')) ⟨rfl,rfl,?_⟩
     exact bK<|qr λA'' hA''=>rp hX.toBase hσ ha hN hw' (by omega) hs f0 hz' (hA''.mono (by omega)) (by rfl) (by rfl) (by rfl) rfl rfl ⟨rfl,rfl,bF<|bF<|bF<|bF ⟨rfl,.inl rfl⟩⟩
    ·rw[iW hc,ae aT,ae hc]
     refine bK<|du λA'' hA''=>ar<|aC<|ab (.bytes q)<|bP (lower:=none) (upper:=some _)<|fY hX.toBase (b:=b) (by rfl) (by omega) (by rfl) rfl rfl ⟨_,rfl,cr (by omega) ?_⟩
     rw[gA]
     refine ab (.bytes b)<|bJ ⟨_,rfl,rfl,?_⟩
     by_cases hp:q.take b.length=b
     ·rw[ah hp,show(List.take b.length q==b)=true from bd.mpr hp,ah rfl,bQ,etx,←ey (List.map AV.bytes (wit N t _))]
      have ih:=rF hσ ha hN (q:=q.drop b.length) hw' (by omega) hs f0 hz' (by simp;omega)
      refine bK<|nB λA'' hA''=>ab (.bytes (aM b h')) ⟨rfl,rfl,?_⟩
      refine bK<|uB hX.nou hX.lim (kin:=40+10 * n') (by omega) (λA'' hA''=>q8 (hA''.mono (by omega))<|eg hX.g_gwp_<|ad<|ab (.ref a)<|ad<|ab (.bytes h')<|ad<|
       aC<|ab (.bytes q)<|bP (lower:=some _) (upper:=none)<|fY hX.toBase (b:=b) (by rfl) (by omega) (by rfl) rfl rfl ⟨_,rfl,cr (by omega) ?_⟩) (bF<|bF<|bF<|bF<|bF ⟨rfl,.inl rfl⟩)
      rw[dp]
      exact ak ⟨rfl,F.keep,ih⟩
     ·rw[ae hp,show(List.take b.length q==b)=false from ba.mpr hp,ae aT,bQ,etx]
      exact bK<|nB λA'' hA''=>ab (.bytes (aM b h')) ⟨rfl,rfl,bF<|bF<|bF<|bF<|bF ⟨rfl,.inl rfl⟩⟩
  refine bK<|du λA' hA'=>fE<|cJ (ab (.bytes q)<|dP (by omega) ⟨rfl,?_⟩) (by rfl)
  by_cases hq0:q=[]
  ·subst hq0
   rw[show wit N (.kv b t) []=nodes N (.kv b t)++_ from by unfold wit;rw[ah rfl],←hL,iV]
   refine bK<|qr λA'' hA''=>rp hX.toBase hσ ha hN hw hn hs hf hz (hA''.mono (by omega)) (by rfl) (by rfl) (by rfl) rfl rfl ⟨rfl,rfl,bF ?_⟩
   exact rest
  ·rw[show(!(!q.isEmpty))=false from by cases q with|nil=>exact absurd rfl hq0|cons _ _=>rfl,ae aT]
   rw[show wit N (.kv b t) q=_ from by unfold wit;rw[ae hq0,cH]]
   exact bF rest
 |.br l r,n,h,q,L,hw,hn,hs,hf,hz,hq=>by
  have hL:=hf.nodes
  obtain⟨hl,hr,Ll,Lr,f0,f0',f1,f2,e3⟩:=id hf
  obtain⟨n',en,hw1,hw2⟩:=id hw
  have etx:tx N (.br l r)=aO hl hr:=by show aO (nm N l) (nm N r)=_;rw[f0.named.nm,f0'.named.nm]
  have hz1:Ll.length≤65536:=by rw[e3] at hz;simp at hz;omega
  have hz2:Lr.length≤65536:=by rw[e3] at hz;simp at hz;omega
  obtain⟨pm,c,F⟩:=hX.f_gwp_
  refine uU F ["db","node_hash","keypath"] (bk ["db","node_hash","keypath"] λvs hv=>?_) (by rfl) λLo=>?_
  ·match vs,hv with|[v,w,u],_=>rfl
  have rest:gG X (40+10 * n) σ Lo (callEnvC (cP (aD 44) "_get_witness_for_key_prefix" pm c .none) Lo 277) (cF ["db","node_hash","keypath"] [.ref a,.bytes h,.bytes q] Mp.nil) ((cj (aD 44)).drop 1)
    (((if q.take 1=[0] then tx N (.br l r)::wit N l (q.drop 1) else tx N (.br l r)::wit N r (q.drop 1)):List By).map .bytes) λF _ l'=>l'=[]∧(F=.next∨F=.ret .none):=by
   refine bK<|du λA' hA'=>ar<|ab (.bytes h)<|ab (.ref a)<|i8 hσ ha ⟨_,rfl,?_⟩
   rw[f2]
   refine⟨rfl,bK<|kz λA'' hA''=>aE<|aC<|ab (.ref a)<|ab (.bytes h)<|cg hσ f2<|aq ⟨rfl,bF ?_⟩⟩
   refine bK<|kz λA'' hA''=>aE<|au<|eg hX.g_parse<|ad<|ab (.bytes (aO hl hr))<|ak ⟨kr hX.toBase,aw (i7 hX.toBase (f0.named.len hN) (f0'.named.len hN) ?_) (hA''.mono (by omega))⟩
   refine bV hA''.handled (by rfl) (by rfl)<|aF<|aq<|aF<|aq<|aF<|aq<|bW ⟨rfl,?_⟩
   refine bK<|du λA'' hA''=>ar<|ab (.int 1)<|eg hX.g_LEAF<|aU ⟨_,rfl,rfl,?_⟩
   refine bK<|du λA'' hA''=>ar<|ab (.int 1)<|eg hX.g_KV<|aU ⟨_,rfl,rfl,?_⟩
   refine bK<|du λA'' hA''=>ar<|ab (.int 1)<|eg hX.g_BR<|aU ⟨_,rfl,rfl,?_⟩
   refine bK<|du λA'' hA''=>ar<|aC<|ab (.bytes q)<|bP (lower:=none) (upper:=some _)<|av ⟨_,rfl,cr (by omega) ?_⟩
   rw[show bX none (some (1:Int)) q=q.take 1 from gA 1]
   refine eg hX.g_B0<|bJ ⟨_,rfl,rfl,?_⟩
   have ih1:=rF hσ ha hN (q:=q.drop 1) hw1 (by omega) hs.1 f0 hz1 (by simp;omega)
   have ih2:=rF hσ ha hN (q:=q.drop 1) hw2 (by omega) hs.2 f0' hz2 (by simp;omega)
   by_cases hp:q.take 1=[0]
   ·rw[ah hp,show(List.take 1 q==[0])=true from bd.mpr hp,ah rfl,bQ,etx,←ey (List.map AV.bytes (wit N l _))]
    refine bK<|nB λA'' hA''=>ab (.bytes (aO hl hr)) ⟨rfl,rfl,?_⟩
    refine bK<|uB hX.nou hX.lim (kin:=40+10 * n') (by omega) (λA'' hA''=>q8 (hA''.mono (by omega))<|eg hX.g_gwp_<|ad<|ab (.ref a)<|ad<|ab (.bytes hl)<|ad<|
     aC<|ab (.bytes q)<|bP (lower:=some _) (upper:=none)<|av ⟨_,rfl,cr (by omega) ?_⟩) (bF<|bF<|bF<|bF<|bF ⟨rfl,.inl rfl⟩)
    rw[show bX (some (1:Int)) none q=q.drop 1 from dp 1]
    exact ak ⟨rfl,F.keep,ih1⟩
   ·rw[ae hp,show(List.take 1 q==[0])=false from ba.mpr hp,ae aT,bQ,etx,←ey (List.map AV.bytes (wit N r _))]
    refine bK<|nB λA'' hA''=>ab (.bytes (aO hl hr)) ⟨rfl,rfl,?_⟩
    refine bK<|uB hX.nou hX.lim (kin:=40+10 * n') (by omega) (λA'' hA''=>q8 (hA''.mono (by omega))<|eg hX.g_gwp_<|ad<|ab (.ref a)<|ad<|ab (.bytes hr)<|ad<|
     aC<|ab (.bytes q)<|bP (lower:=some _) (upper:=none)<|av ⟨_,rfl,cr (by omega) ?_⟩) (bF<|bF<|bF<|bF<|bF ⟨rfl,.inl rfl⟩)
    rw[show bX (some (1:Int)) none q=q.drop 1 from dp 1]
    exact ak ⟨rfl,F.keep,ih2⟩
  refine bK<|du λA' hA'=>fE<|cJ (ab (.bytes q)<|dP (by omega) ⟨rfl,?_⟩) (by rfl)
  by_cases hq0:q=[]
  ·subst hq0
   rw[show wit N (.br l r) []=nodes N (.br l r)++_ from by unfold wit;rw[ah rfl],←hL,iV]
   refine bK<|qr λA'' hA''=>rp hX.toBase hσ ha hN hw hn hs hf hz (hA''.mono (by omega)) (by rfl) (by rfl) (by rfl) rfl rfl ⟨rfl,rfl,bF ?_⟩
   exact rest
  ·rw[show(!(!q.isEmpty))=false from by cases q with|nil=>exact absurd rfl hq0|cons _ _=>rfl,ae aT]
   rw[show wit N (.br l r) q=_ from by unfold wit;rw[ae hq0,cH]]
   exact bF rest
theorem Cv:aV X σ (.ref 172):=by obtain⟨_,_,F⟩:=hX.f_etb;exact F.keep
theorem BJ:aV X σ (.ref 277):=by obtain⟨_,_,F⟩:=hX.f_gwp_;exact F.keep
theorem CQ:aV X σ (.ref 270):=by obtain⟨_,_,F⟩:=hX.f_gwp;exact F.keep
theorem Ey(hσ:σ a=some (.dict D))(ha:a≠1)(hN:NmOk N)(hw:WF n t)(hn:n≤64)(hs:ck t)(hf:Full N D t h L)(hz:L.length≤65536)(hq:8 * o.length≤n)(hwz:(wit N t (aA o)).length≤65536)
  (h':Q (.tup ((wit N t (aA o)).map .bytes)) σ):vr X ((46+10 * n)+1) (.ref 270) [.ref a,.bytes h,.bytes o] σ Q:=by
 obtain⟨code,pm,F⟩:=hX.f_gwp
 refine Ej F ["db","node_hash","key"] (bk ["db","node_hash","key"] λvs hv=>?_) (by rfl) λA L' hA=>?_
 ·match vs,hv with|[v,w,u],_=>rfl
 refine dk<|ExJ.of<|cV (au<|eg hX.g_vib<|ad<|ab (.bytes o)<|ak ⟨kF hX.toBase,aw (eE hX.toBase ?_) hA.mo⟩)
 refine dk<|BE<|Af hX.nou hX.lim (k:=40+10 * n) hA.mo (eg hX.g_tuple ⟨rfl,rfl⟩) (q8 hA.mo<|eg hX.g_gwp_<|ad<|ab (.ref a)<|ad<|ab (.bytes h)<|ad<|
  au<|eg hX.g_etb<|ad<|ab (.bytes o)<|ak ⟨Cv hX,aw (kL hX.toBase (by omega) ?_) hA.mo⟩) (by simpa using hwz) h'
 exact ak ⟨rfl,BJ hX,rF hX hσ ha hN hw hn hs hf hz (by unfold aA;rw[bB,nz];exact hq)⟩
end
open AutoSeq1 (wpAny_loadPart')
section
variable {prog:Program} {w:World} {A:Around} {E:Value→Shared→Prop} {s:Shared} {b1 b2:Array UInt8} {t1 t2:Tok} {z TI TO i1 i2:Addr} {k:Nat}
theorem x7{T0:Addr}{f1:Value}{x y:UInt8}{Q:Value→Shared→Prop}(D:ZD z TI TO i1 i2)(hz:s.heap.get? z=some (cq (rawInt T0) f1 TI TO)){oT:Obj}(hT:s.heap.get? T0=some oT)
  (hTI:IsPair s.heap TI (.ref i1) (.ref i2))(h1:KBw.IsBytesIter s.heap i1 b1 t1 k)(h2:KBw.IsBytesIter s.heap i2 b2 t2 k)(hx:b1[k]?=some x)(hy:b2[k]?=some y)
  (hQ:∀h' tk T tkx tky f1',h'.get? z=some (cq (rawInt T0) f1' TI TO)→KBw.IsBytesIter h' i1 b1 t1 (k+1)→KBw.IsBytesIter h' i2 b2 t2 (k+1)→IsPair h' T (.int (x.toNat:Int) tkx) (.int (y.toNat:Int) tky)→s.heap.objs.size≤T→
   (∀c o,c≠z→c≠i1→c≠i2→s.heap.get? c=some o→h'.get? c=some o)→Q (.ref T) {s with heap:=h',toks:=tk}):
  wpAny (model prog w) A (Builtin.«zip.__next__» ⟨[.ref z],[]⟩) (λfin s'=>∃v,fin=.done (.ret v)∧Q v s') E s:=by
 show wpAny _ _ (field (.ref z) 2>>= _) _ _ _
 refine ac (bM hz rfl (x:=.bool false) rfl ?_)
 show wpAny _ _ (field (.ref z) 3>>= _) _ _ _
 refine ac (bM hz rfl (x:=.ref TI) rfl ?_)
 refine ac (eA hTI rfl ?_)
 show wpAny _ _ (Builtin.SmallTypes.ownedTupleIsFree (.ref z)>>= _) _ _ _
 refine ac (rn hz (.inr ⟨T0,rfl,_,hT⟩) (λh=>by cases h) λT' hT' h' f1' hz' hs'=>?_)
 rw[ae aT]
 have h1':=cu h1 λo=>hs'.extBut i1 o D.i1z
 have h2':=cu h2 λo=>hs'.extBut i2 o D.i2z
 dsimp only
 refine ac ?_
 rw[←Array.forIn_toList]
 simp only[mW,List.forIn_nil]
 refine ac (ac (bT ?_))
 show wpAny _ _ (Builtin.SmallTypes.nextOf (.ref i1)>>= _) _ _ _
 refine ac (j7 h1' hx λh₂ h1₂ hs₂=>ao ?_)
 have h2₂:=cu h2' λo=>hs₂.extBut i2 o D.i12.symm
 dsimp only
 refine ao ?_
 dsimp only
 refine ac (ac (bT ?_))
 show wpAny _ _ (Builtin.SmallTypes.nextOf (.ref i2)>>= _) _ _ _
 refine ac (j7 h2₂ hy λh₃ h2₃ hs₃=>ao ?_)
 have h1₃:=cu h1₂ λo=>hs₃.extBut i1 o D.i12
 dsimp only
 refine ao ?_
 dsimp only
 refine ao ?_
 dsimp only
 refine ac (wpAny_newTuple (hsz:=by show 2≤sizeLine;rw[bn];omega) (ao ?_))
 have hz₃:h₃.get? z=some (cq (rawInt T0) f1' TI TO):=hs₃.extBut _ _ D.i2z.symm (hs₂.extBut _ _ D.i1z.symm hz')
 have hsz:h₃.objs.size=s.heap.objs.size:=by rw[hs₃.1,hs₂.1,hs'.1]
 refine⟨_,rfl,hQ _ _ h₃.objs.size _ _ f1' (aJ _ hz₃) (cu h1₃ λo e=>aJ _ e) (cu h2₃ λo e=>aJ _ e) (aX _ rfl) (kj hsz.symm) λc o c1 c2 c3 e=>?_⟩
 exact aJ _ (hs₃.extBut _ _ c3 (hs₂.extBut _ _ c2 (hs'.extBut _ _ c1 e)))
theorem yh{T0:Addr}{f1:Value}{Q:Fin→Shared→Prop}(hh:A.handled=none)(D:ZD z TI TO i1 i2)(hz:s.heap.get? z=some (cq (rawInt T0) f1 TI TO)){oT:Obj}(hT:s.heap.get? T0=some oT)
  (hTI:IsPair s.heap TI (.ref i1) (.ref i2))(h1:KBw.IsBytesIter s.heap i1 b1 t1 k)(h2:KBw.IsBytesIter s.heap i2 b2 t2 k)(hend:b1[k]?=none∨b2[k]?=none)
  (hE:∀h' tk e,(∀c o,c≠z→c≠TO→c≠i1→c≠i2→s.heap.get? c=some o→h'.get? c=some o)→(∃o,h'.get? e=some o∧o.cls=.type "StopIteration")→E (.ref e) {s with heap:=h',toks:=tk}):
  wpAny (model prog w) A (Builtin.«zip.__next__» ⟨[.ref z],[]⟩) Q E s:=by
 show wpAny _ _ (field (.ref z) 2>>= _) _ _ _
 refine ac (bM hz rfl (x:=.bool false) rfl ?_)
 show wpAny _ _ (field (.ref z) 3>>= _) _ _ _
 refine ac (bM hz rfl (x:=.ref TI) rfl ?_)
 refine ac (eA hTI rfl ?_)
 show wpAny _ _ (Builtin.SmallTypes.ownedTupleIsFree (.ref z)>>= _) _ _ _
 refine ac (rn hz (.inr ⟨T0,rfl,_,hT⟩) (λh=>by cases h) λT' hT' h' f1' hz' hs'=>?_)
 rw[ae aT]
 have h1':=cu h1 λo=>hs'.extBut i1 o D.i1z
 have h2':=cu h2 λo=>hs'.extBut i2 o D.i2z
 dsimp only
 refine ac ?_
 rw[←Array.forIn_toList]
 simp only[mW,List.forIn_nil]
 refine ac (ac (bT ?_))
 show wpAny _ _ (Builtin.SmallTypes.nextOf (.ref i1)>>= _) _ _ _
 cases hx:b1[k]? with
 |none=>
  refine ac (qq hh h1' hx λh₂ e hs₂ he=>?_)
  exact hE h₂ _ e (λc o c1 _ c3 _ x=>hs₂ _ _ c3 (hs'.extBut _ _ c1 x)) he
 |some x=>
  have hy:b2[k]?=none:=by rcases hend with h|h;rw[hx] at h;cases h;exact h
  refine ac (j7 h1' hx λh₂ h1₂ hs₂=>ao ?_)
  have h2₂:=cu h2' λo=>hs₂.extBut i2 o D.i12.symm
  dsimp only
  refine ao ?_
  dsimp only
  refine ac (ac (bT ?_))
  show wpAny _ _ (Builtin.SmallTypes.nextOf (.ref i2)>>= _) _ _ _
  refine ac (qq hh h2₂ hy λh₃ e hs₃ he=>?_)
  exact hE h₃ _ e (λc o c1 _ c3 c4 x=>hs₃ _ _ c4 (hs₂.extBut _ _ c3 (hs'.extBut _ _ c1 x))) he
theorem x8{f1:Value}{x y:UInt8}{a b:Value}{Q:Value→Shared→Prop}(D:ZD z TI TO i1 i2)(hz:s.heap.get? z=some (cq .none f1 TI TO))
  (hTI:IsPair s.heap TI (.ref i1) (.ref i2))(hTO:IsPair s.heap TO a b)(h1:KBw.IsBytesIter s.heap i1 b1 t1 k)(h2:KBw.IsBytesIter s.heap i2 b2 t2 k)(hx:b1[k]?=some x)(hy:b2[k]?=some y)
  (hQ:∀h' tk (T:Addr) tkx tky f1',h'.get? z=some (cq (rawInt T) f1' TI TO)→IsPair h' TO (.int (x.toNat:Int) tkx) (.int (y.toNat:Int) tky)→KBw.IsBytesIter h' i1 b1 t1 (k+1)→KBw.IsBytesIter h' i2 b2 t2 (k+1)→IsPair h' T (.int (x.toNat:Int) tkx) (.int (y.toNat:Int) tky)→s.heap.objs.size≤T→
   (∀c o,c≠z→c≠TO→c≠i1→c≠i2→s.heap.get? c=some o→h'.get? c=some o)→Q (.ref T) {s with heap:=h',toks:=tk}):
  wpAny (model prog w) A (Builtin.«zip.__next__» ⟨[.ref z],[]⟩) (λfin s'=>∃v,fin=.done (.ret v)∧Q v s') E s:=by
 show wpAny _ _ (field (.ref z) 2>>= _) _ _ _
 refine ac (bM hz rfl (x:=.bool false) rfl ?_)
 show wpAny _ _ (field (.ref z) 3>>= _) _ _ _
 refine ac (bM hz rfl (x:=.ref TI) rfl ?_)
 refine ac (eA hTI rfl ?_)
 show wpAny _ _ (Builtin.SmallTypes.ownedTupleIsFree (.ref z)>>= _) _ _ _
 refine ac (rn hz (.inl rfl) (λ_=>?_) λT' hT'=>by cases hT')
 simp only[if_true]
 refine ac (c5 ?_)
 refine ac (bM hz rfl (x:=.ref TO) rfl ?_)
 refine ac (fm hz (by simp) λh₁ hz₁ hs₁=>?_)
 replace hz₁:h₁.get? z=some (cq .ellipsis f1 TI TO):=hz₁
 refine ac ?_
 simp only[List.zipIdx_cons,List.zipIdx_nil,mW,List.forIn_nil]
 refine ac (ac (nv ?_))
 show wpAny _ _ (Builtin.SmallTypes.nextOf (.ref i1)>>= _) _ _ _
 refine ac (j7 (cu h1 λo=>hs₁.extBut i1 o D.i1z) hx λh₂ h1₂ hs₂=>ao ?_)
 have hTO₂:IsPair h₂ TO a b:=hs₂.extBut _ _ D.TOi1 (hs₁.extBut _ _ D.TOz hTO)
 refine ac (eA hTO₂ rfl ?_)
 refine ac (wO hTO₂ λh₃ hTO₃ hs₃=>?_)
 replace hTO₃:IsPair h₃ TO (.int (x.toNat:Int) s.toks) b:=hTO₃
 refine ac (qJ (ao ?_))
 refine ac (ac (nv ?_))
 show wpAny _ _ (Builtin.SmallTypes.nextOf (.ref i2)>>= _) _ _ _
 refine ac (j7 (cu h2 λo e=>hs₃.extBut i2 o D.TOi2.symm (hs₂.extBut i2 o D.i12.symm (hs₁.extBut i2 o D.i2z e))) hy λh₄ h2₄ hs₄=>ao ?_)
 have hTO₄:IsPair h₄ TO (.int (x.toNat:Int) s.toks) b:=hs₄.extBut _ _ D.TOi2 hTO₃
 refine ac (eA hTO₄ rfl ?_)
 refine ac (wO hTO₄ λh₅ hTO₅ hs₅=>?_)
 replace hTO₅:IsPair h₅ TO (.int (x.toNat:Int) s.toks) (.int (y.toNat:Int) (s.toks+1)):=hTO₅
 refine ac (qJ (ao (ao ?_)))
 refine ac (eA hTO₅ rfl ?_)
 refine ac (wpAny_newTuple ?_)
 have hsz:h₅.objs.size=s.heap.objs.size:=by rw[hs₅.1,hs₄.1,hs₃.1,hs₂.1,hs₁.1]
 have hz₅:h₅.get? z=some (cq .ellipsis f1 TI TO):=hs₅.extBut _ _ D.TOz.symm (hs₄.extBut _ _ D.i2z.symm (hs₃.extBut _ _ D.TOz.symm (hs₂.extBut _ _ D.i1z.symm hz₁)))
 have hk₅:∀c o,c≠z→c≠TO→c≠i1→c≠i2→s.heap.get? c=some o→h₅.get? c=some o:=λc o c1 c2 c3 c4 e=>
  hs₅.extBut _ _ c2 (hs₄.extBut _ _ c4 (hs₃.extBut _ _ c2 (hs₂.extBut _ _ c3 (hs₁.extBut _ _ c1 e))))
 have h1₅:=cu h1₂ λo e=>hs₅.extBut i1 o D.TOi1.symm (hs₄.extBut i1 o D.i12 (hs₃.extBut i1 o D.TOi1.symm e))
 have h2₅:=cu h2₄ λo e=>hs₅.extBut i2 o D.TOi2.symm e
 have hzlt:z<h₅.objs.size:=aY hz₅
 show wpAny _ _ (Builtin.SmallTypes.ownedTupleHandOut (.ref z) (.ref h₅.objs.size)>>= _) _ _ _
 refine ac ?_
 unfold Builtin.SmallTypes.ownedTupleHandOut
 have hz₆:(h₅.push {cls:=.type "tuple",data:=.seq #[.int (x.toNat:Int) s.toks,.int (y.toNat:Int) (s.toks+1)]}).get? z=some (cq .ellipsis f1 TI TO):=aJ _ hz₅
 refine ac (fm hz₆ (by simp) λh₇ hz₇ hs₇=>?_)
 replace hz₇:h₇.get? z=some (cq (rawInt h₅.objs.size) f1 TI TO):=hz₇
 refine fm hz₇ (by simp) λh₈ hz₈ hs₈=>?_
 replace hz₈:h₈.get? z=some (cq (rawInt h₅.objs.size) (.bool false) TI TO):=hz₈
 have up:∀c o,c≠z→h₅.get? c=some o→h₈.get? c=some o:=λc o c1 e=>hs₈.extBut _ _ c1 (hs₇.extBut _ _ c1 (aJ _ e))
 have hT₈:IsPair h₈ h₅.objs.size (.int (x.toNat:Int) s.toks) (.int (y.toNat:Int) (s.toks+1)):=hs₈.extBut _ _ (kh hzlt) (hs₇.extBut _ _ (kh hzlt) (aX _ rfl))
 refine ao ⟨_,rfl,hQ h₈ _ h₅.objs.size _ _ _ hz₈ (up _ _ D.TOz hTO₅) (cu h1₅ λo e=>up _ o D.i1z e) (cu h2₅ λo e=>up _ o D.i2z e) hT₈ (kj hsz.symm) λc o c1 c2 c3 c4 e=>up c o c1 (hk₅ c o c1 c2 c3 c4 e)⟩
theorem yv(hh:A.handled=none)(D:ZD z TI TO i1 i2)(hz:s.heap.get? z=some (cq .none f1 TI TO))
  (hTI:IsPair s.heap TI (.ref i1) (.ref i2))(hTO:IsPair s.heap TO a b)(h1:KBw.IsBytesIter s.heap i1 b1 t1 k)(h2:KBw.IsBytesIter s.heap i2 b2 t2 k)(hend:b1[k]?=none∨b2[k]?=none)
  (hE:∀h' tk e,(∀c o,c≠z→c≠TO→c≠i1→c≠i2→s.heap.get? c=some o→h'.get? c=some o)→(∃o,h'.get? e=some o∧o.cls=.type "StopIteration")→E (.ref e) {s with heap:=h',toks:=tk}):
  wpAny (model prog w) A (Builtin.«zip.__next__» ⟨[.ref z],[]⟩) Q E s:=by
 show wpAny _ _ (field (.ref z) 2>>= _) _ _ _
 refine ac (bM hz rfl (x:=.bool false) rfl ?_)
 show wpAny _ _ (field (.ref z) 3>>= _) _ _ _
 refine ac (bM hz rfl (x:=.ref TI) rfl ?_)
 refine ac (eA hTI rfl ?_)
 show wpAny _ _ (Builtin.SmallTypes.ownedTupleIsFree (.ref z)>>= _) _ _ _
 refine ac (rn hz (.inl rfl) (λ_=>?_) λT' hT'=>by cases hT')
 simp only[if_true]
 refine ac (c5 ?_)
 refine ac (bM hz rfl (x:=.ref TO) rfl ?_)
 refine ac (fm hz (by simp) λh₁ hz₁ hs₁=>?_)
 replace hz₁:h₁.get? z=some (cq .ellipsis f1 TI TO):=hz₁
 refine ac ?_
 simp only[List.zipIdx_cons,List.zipIdx_nil,mW,List.forIn_nil]
 refine ac (ac (nv ?_))
 show wpAny _ _ (Builtin.SmallTypes.nextOf (.ref i1)>>= _) _ _ _
 cases hx:b1[k]? with
 |none=>
  refine ac (qq hh (cu h1 λo=>hs₁.extBut i1 o D.i1z) hx λh₂ e hs₂ he=>?_)
  obtain⟨oe,hoe,hce⟩:=he
  have hz₂:h₂.get? z=some (cq .ellipsis f1 TI TO):=hs₂ _ _ D.i1z.symm hz₁
  have hez:e≠z:=λx=>by subst x;rw[hz₂] at hoe;cases hoe;simp at hce
  refine fm hz₂ (by simp) λh₃ _ hs₃=>hE h₃ _ e (λc o c1 _ c3 _ x=>hs₃.extBut _ _ c1 (hs₂ _ _ c3 (hs₁.extBut _ _ c1 x))) ⟨oe,hs₃.extBut _ _ hez hoe,hce⟩
 |some x=>
  have hy:b2[k]?=none:=by rcases hend with h|h;rw[hx] at h;cases h;exact h
  refine ac (j7 (cu h1 λo=>hs₁.extBut i1 o D.i1z) hx λh₂ h1₂ hs₂=>ao ?_)
  have hTO₂:IsPair h₂ TO a b:=hs₂.extBut _ _ D.TOi1 (hs₁.extBut _ _ D.TOz hTO)
  refine ac (eA hTO₂ rfl ?_)
  refine ac (wO hTO₂ λh₃ hTO₃ hs₃=>?_)
  refine ac (qJ (ao ?_))
  refine ac (ac (nv ?_))
  show wpAny _ _ (Builtin.SmallTypes.nextOf (.ref i2)>>= _) _ _ _
  refine ac (qq hh (cu h2 λo e=>hs₃.extBut i2 o D.TOi2.symm (hs₂.extBut i2 o D.i12.symm (hs₁.extBut i2 o D.i2z e))) hy λh₄ e hs₄ he=>?_)
  obtain⟨oe,hoe,hce⟩:=he
  have hz₄:h₄.get? z=some (cq .ellipsis f1 TI TO):=hs₄ _ _ D.i2z.symm (hs₃.extBut _ _ D.TOz.symm (hs₂.extBut _ _ D.i1z.symm hz₁))
  have hez:e≠z:=λx=>by subst x;rw[hz₄] at hoe;cases hoe;simp at hce
  refine fm hz₄ (by simp) λh₅ _ hs₅=>hE h₅ _ e (λc o c1 c2 c3 c4 x=>hs₅.extBut _ _ c1 (hs₄ _ _ c4 (hs₃.extBut _ _ c2 (hs₂.extBut _ _ c3 (hs₁.extBut _ _ c1 x))))) ⟨oe,hs₅.extBut _ _ hez hoe,hce⟩
theorem qO(ho:s.heap.get? z=some o)(hc:o.cls=.type "zip")
  (h:wpAny (model prog w) A.in1 (Builtin.«zip.__next__» ⟨[.ref z],[]⟩) (λfin s'=>∃v,fin=.done (.ret v)∧Q v s') E s):wpAny (model prog w) A (Builtin.SmallTypes.nextOf (.ref z)) Q E s:=by
 have hT:s.TypeIs (.ref z) "zip":=⟨_,ho,hc⟩
 unfold Builtin.SmallTypes.nextOf
 refine ac (fK (name:=PySem.Str.ofString "__next__") hT F.slot_zip_next (dE F.slot_zip_next hT F.entry_zip_next ?_ (F.args_zip_next_1 _)))
 exact aj h (λfin s' ⟨v,e,q⟩=>⟨v,e,ao q⟩) i2
theorem Gc{x y:UInt8}{Q:Value→Shared→Prop}(D:ZD z TI TO i1 i2)(Z:ZSt s.heap z TI TO i1 i2 b1 t1 b2 t2 k)(hx:b1[k]?=some x)(hy:b2[k]?=some y)
  (hQ:∀h' tk T tkx tky,ZSt h' z TI TO i1 i2 b1 t1 b2 t2 (k+1)→IsPair h' T (.int (x.toNat:Int) tkx) (.int (y.toNat:Int) tky)→s.heap.objs.size≤T→(∀c o,c≠z→c≠TO→c≠i1→c≠i2→s.heap.get? c=some o→h'.get? c=some o)→Q (.ref T) {s with heap:=h',toks:=tk}):
  wpAny (model prog w) A (Builtin.SmallTypes.nextOf (.ref z)) Q E s:=by
 obtain⟨⟨f0,f1,hz,hf⟩,hTI,⟨a,b,hTO⟩,h1,h2⟩:=Z
 refine qO hz rfl ?_
 rcases hf with rfl|⟨T0,rfl,oT,hT⟩
 ·refine x8 D hz hTI hTO h1 h2 hx hy λh' tk T tkx tky f1' hz' hTO' h1' h2' hT hle hk=>hQ h' tk T tkx tky ⟨⟨_,_,hz',.inr ⟨T,rfl,_,hT⟩⟩,hk _ _ D.TIz D.TITO D.TIi1 D.TIi2 hTI,⟨_,_,hTO'⟩,h1',h2'⟩ hT hle hk
 ·refine x7 D hz hT hTI h1 h2 hx hy λh' tk T tkx tky f1' hz' h1' h2' hT' hle hk=>hQ h' tk T tkx tky ⟨⟨_,_,hz',?_⟩,hk _ _ D.TIz D.TIi1 D.TIi2 hTI,⟨_,_,hk _ _ D.TOz D.TOi1 D.TOi2 hTO⟩,h1',h2'⟩ hT' hle λc o c1 _ c3 c4 e=>hk c o c1 c3 c4 e
  refine .inr ⟨T0,rfl,?_⟩
  by_cases hz0:T0=z
  ·subst hz0;exact⟨_,hz'⟩
  ·by_cases hi1:T0=i1
   ·obtain⟨o,e,_⟩:=h1';exact⟨o,by rw[hi1];exact e⟩
   ·by_cases hi2:T0=i2
    ·obtain⟨o,e,_⟩:=h2';exact⟨o,by rw[hi2];exact e⟩
    ·exact⟨oT,hk _ _ hz0 hi1 hi2 hT⟩
theorem Gd(hh:A.handled=none)(D:ZD z TI TO i1 i2)(Z:ZSt s.heap z TI TO i1 i2 b1 t1 b2 t2 k)(hend:b1[k]?=none∨b2[k]?=none)
  (hE:∀h' tk e,(∀c o,c≠z→c≠TO→c≠i1→c≠i2→s.heap.get? c=some o→h'.get? c=some o)→(∃o,h'.get? e=some o∧o.cls=.type "StopIteration")→E (.ref e) {s with heap:=h',toks:=tk}):
  wpAny (model prog w) A (Builtin.SmallTypes.nextOf (.ref z)) Q E s:=by
 obtain⟨⟨f0,f1,hz,hf⟩,hTI,⟨a,b,hTO⟩,h1,h2⟩:=Z
 refine qO hz rfl ?_
 rcases hf with rfl|⟨T0,rfl,oT,hT⟩
 ·exact yv hh D hz hTI hTO h1 h2 hend hE
 ·exact yh hh D hz hT hTI h1 h2 hend hE
end
open AutoSeq1 (wpAny_loadPart')
def f6(b1 b2:List UInt8):List AV:=(b1.zip b2).map λp=>.tup [.int (p.1.toNat:Int),.int (p.2.toNat:Int)]
abbrev gc(e z TI TO i1 i2:Addr):Pv:=⟨λa=>a=e∨a=z∨a=TI∨a=TO∨a=i1∨a=i2,λ_=>False⟩
structure ZD1(e z TI TO i1 i2:Addr):Prop where
 d:ZD z TI TO i1 i2
 ez:e≠z
 eTI:e≠TI
 eTO:e≠TO
 ei1:e≠i1
 ei2:e≠i2
def zl(X:Cx)(e z TI TO i1 i2:Addr)(b1:List UInt8)(t1:Tok)(b2:List UInt8)(t2:Tok):f5:=λown l g σ s=>own=gc e z TI TO i1 i2∧ZD1 e z TI TO i1 i2∧(∀a,(gc e z TI TO i1 i2).a a→Free X g σ a)∧
 ∃(i:Nat) (old f0 f1:Value),IsEnum s.heap e z i old∧s.heap.get? z=some (cq f0 f1 TI TO)∧(f0=.none∨∃(T:Addr) (o:Obj),f0=rawInt T∧g T=some o)∧IsPair s.heap TI (.ref i1) (.ref i2)∧(∃a b,IsPair s.heap TO a b)∧
  KBw.IsBytesIter s.heap i1 b1.toArray t1 i∧KBw.IsBytesIter s.heap i2 b2.toArray t2 i∧l=dZ i ((f6 b1 b2).drop i)
section
variable {prog:Program} {w:World} {A:Around} {E:Value→Shared→Prop} {s:Shared} {b1 b2:Array UInt8} {t1 t2:Tok} {z TI TO i1 i2:Addr} {k:Nat}
theorem zL(D:ZD z TI TO i1 i2)(hz:s.heap.get? z=some (cq f0 f1 TI TO))(hf:f0=.none∨∃(T:Addr) (o:Obj),f0=rawInt T∧s.heap.get? T=some o)(hTI:IsPair s.heap TI (.ref i1) (.ref i2))(hTO:∃a b,IsPair s.heap TO a b)
  (h1:KBw.IsBytesIter s.heap i1 b1 t1 k)(h2:KBw.IsBytesIter s.heap i2 b2 t2 k)(hx:b1[k]?=some x)(hy:b2[k]?=some y)
  (hQ:∀h' tk (T:Addr) tkx tky f0' f1',h'.get? z=some (cq f0' f1' TI TO)→(f0'=rawInt T∨(f0'=f0∧f0≠.none))→IsPair h' TI (.ref i1) (.ref i2)→(∃a b,IsPair h' TO a b)→KBw.IsBytesIter h' i1 b1 t1 (k+1)→KBw.IsBytesIter h' i2 b2 t2 (k+1)→
   IsPair h' T (.int (x.toNat:Int) tkx) (.int (y.toNat:Int) tky)→s.heap.objs.size≤T→(∀c o,c≠z→c≠TO→c≠i1→c≠i2→s.heap.get? c=some o→h'.get? c=some o)→Q (.ref T) {s with heap:=h',toks:=tk}):
  wpAny (model prog w) A (Builtin.SmallTypes.nextOf (.ref z)) Q E s:=by
 obtain⟨a,b,hTO⟩:=hTO
 refine qO hz rfl ?_
 rcases hf with rfl|⟨T0,oT,rfl,hT⟩
 ·exact x8 D hz hTI hTO h1 h2 hx hy λh' tk T tkx tky f1' hz' hTO' h1' h2' hT hle hk=>hQ h' tk T tkx tky _ _ hz' (.inl rfl) (hk _ _ D.TIz D.TITO D.TIi1 D.TIi2 hTI) ⟨_,_,hTO'⟩ h1' h2' hT hle hk
 ·exact x7 D hz hT hTI h1 h2 hx hy λh' tk T tkx tky f1' hz' h1' h2' hT' hle hk=>hQ h' tk T tkx tky _ _ hz' (.inr ⟨rfl,λq=>by cases q⟩) (hk _ _ D.TIz D.TIi1 D.TIi2 hTI) ⟨_,_,hk _ _ D.TOz D.TOi1 D.TOi2 hTO⟩ h1' h2' hT' hle λc o c1 _ c3 c4 e=>hk c o c1 c3 c4 e
theorem zU(hh:A.handled=none)(D:ZD z TI TO i1 i2)(hz:s.heap.get? z=some (cq f0 f1 TI TO))(hf:f0=.none∨∃(T:Addr) (o:Obj),f0=rawInt T∧s.heap.get? T=some o)(hTI:IsPair s.heap TI (.ref i1) (.ref i2))(hTO:∃a b,IsPair s.heap TO a b)
  (h1:KBw.IsBytesIter s.heap i1 b1 t1 k)(h2:KBw.IsBytesIter s.heap i2 b2 t2 k)(hend:b1[k]?=none∨b2[k]?=none)
  (hE:∀h' tk e,(∀c o,c≠z→c≠TO→c≠i1→c≠i2→s.heap.get? c=some o→h'.get? c=some o)→(∃o,h'.get? e=some o∧o.cls=.type "StopIteration")→E (.ref e) {s with heap:=h',toks:=tk}):
  wpAny (model prog w) A (Builtin.SmallTypes.nextOf (.ref z)) Q E s:=by
 obtain⟨a,b,hTO⟩:=hTO
 refine qO hz rfl ?_
 rcases hf with rfl|⟨T0,oT,rfl,hT⟩
 ·exact yv hh D hz hTI hTO h1 h2 hend hE
 ·exact yh hh D hz hT hTI h1 h2 hend hE
theorem Bo(D:ZD1 e z TI TO i1 i2)(he:IsEnum s.heap e z i old)(hz:s.heap.get? z=some (cq f0 f1 TI TO))(hf:f0=.none∨∃(T:Addr) (o:Obj),f0=rawInt T∧s.heap.get? T=some o)(hTI:IsPair s.heap TI (.ref i1) (.ref i2))(hTO:∃a b,IsPair s.heap TO a b)
  (h1:KBw.IsBytesIter s.heap i1 b1 t1 k)(h2:KBw.IsBytesIter s.heap i2 b2 t2 k)(hx:b1[k]?=some x)(hy:b2[k]?=some y)
  (hQ:∀h' tk ti (T TT:Addr) tkx tky f0' f1',IsEnumOut h' e z ((i:Int)+1) (.ref T) TT→h'.get? z=some (cq f0' f1' TI TO)→(f0'=rawInt T∨(f0'=f0∧f0≠.none))→IsPair h' TI (.ref i1) (.ref i2)→(∃a b,IsPair h' TO a b)→KBw.IsBytesIter h' i1 b1 t1 (k+1)→KBw.IsBytesIter h' i2 b2 t2 (k+1)→
   IsPair h' T (.int (x.toNat:Int) tkx) (.int (y.toNat:Int) tky)→IsPair h' TT (.int i ti) (.ref T)→s.heap.objs.size≤T→T<TT→(∀c o,¬(gc e z TI TO i1 i2).a c→s.heap.get? c=some o→h'.get? c=some o)→Q (some (.ref TT)) {s with heap:=h',toks:=tk}):
  wpAny (model prog w) A (pyNext (.ref e)) Q E s:=by
 have hT:s.TypeIs (.ref e) "enumerate":=⟨_,he,rfl⟩
 unfold pyNext
 refine ac (nu (fK (name:=Str.ofString "__next__") hT t9
  (dE t9 hT F.entry_enumerate_next ?_ (F.args_enumerate_next_1 _))))
 show wpAny _ _ (field (.ref e) 2>>= _) _ _ _
 refine ac (bM he rfl (x:=.ref z) rfl ?_)
 refine ac (zL D.d hz hf hTI hTO h1 h2 hx hy λh₁ tk T tkx tky f0' f1' z₁ hf' TI₁ TO₁ i1₁ i2₁ hT₁ hle hk₁=>?_)
 have he₁:IsEnum h₁ e z i old:=hk₁ _ _ D.ez D.eTO D.ei1 D.ei2 he
 have hel:e<s.heap.objs.size:=aY he
 have hTe:T≠e:=λq=>by rw[q] at hle;exact bt _ (bu hel hle)
 show wpAny _ _ (field (.ref e) 3>>= _) _ _ _
 refine ac (bM he₁ rfl (x:=rawInt i) rfl ?_)
 show wpAny _ _ (field (.ref e) 4>>= _) _ _ _
 refine ac (bM he₁ rfl (x:=.none) rfl ?_)
 show wpAny _ _ (mkInt i>>= _) _ _ _
 refine ac (wpAny_mkInt ?_)
 show wpAny _ _ (setField (.ref e) 3 (rawInt ((i:Int)+1))>>= _) _ _ _
 refine ac (fm he₁ (by simp) λh₂ he₂ hs₂=>?_)
 replace hs₂:Heap.SameBut e h₁ h₂:=hs₂
 replace he₂:IsEnum h₂ e z ((i:Int)+1) old:=he₂
 show wpAny _ _ (setField (.ref e) 4 .none>>= _) _ _ _
 refine ac (fm he₂ (by simp) λh₃ he₃ hs₃=>?_)
 replace hs₃:Heap.SameBut e h₂ h₃:=hs₃
 replace he₃:IsEnum h₃ e z ((i:Int)+1) old:=he₃
 show wpAny _ _ (newTuple [.int i tk,.ref T]>>= _) _ _ _
 refine ac (wpAny_newTuple ?_)
 have he₄:IsEnum (h₃.push {cls:=.type "tuple",data:=.seq #[.int i tk,.ref T]}) e z ((i:Int)+1) old:=aJ _ he₃
 have hTlt:T<h₃.objs.size:=by rw[hs₃.1,hs₂.1];exact aY hT₁
 have helt:e<h₃.objs.size:=aY he₃
 show wpAny _ _ (Builtin.SmallTypes.ownedTupleIsFree (.ref e)>>= _) _ _ _
 refine ac ?_
 unfold Builtin.SmallTypes.ownedTupleIsFree
 refine ac (bM he₄ rfl (x:=.none) rfl (ao ?_))
 simp only[if_true]
 refine ac (c5 ?_)
 refine ac (bM he₄ rfl (x:=old) rfl ?_)
 refine ac (fm he₄ (by simp) λh₅ he₅ hs₅=>?_)
 replace he₅:IsEnum h₅ e z ((i:Int)+1) (.ref T):=he₅
 show wpAny _ _ (Builtin.SmallTypes.ownedTupleHandOut (.ref e) (.ref h₃.objs.size)>>= _) _ _ _
 refine ac ?_
 unfold Builtin.SmallTypes.ownedTupleHandOut
 refine ac (fm he₅ (by simp) λh₆ he₆ hs₆=>?_)
 replace he₆:IsEnumOut h₆ e z ((i:Int)+1) (.ref T) h₃.objs.size:=he₆
 refine fm he₆ (by simp) λh₇ he₇ hs₇=>?_
 replace he₇:IsEnumOut h₇ e z ((i:Int)+1) (.ref T) h₃.objs.size:=he₇
 have up3:∀c o,c≠e→h₁.get? c=some o→h₃.get? c=some o:=λc o c1 q=>hs₃.extBut _ _ c1 (hs₂.extBut _ _ c1 q)
 have up4:∀c o,c≠e→(h₃.push {cls:=.type "tuple",data:=.seq #[.int i tk,.ref T]}).get? c=some o→h₇.get? c=some o:=λc o c1 q=>hs₇.extBut _ _ c1 (hs₆.extBut _ _ c1 (hs₅.extBut _ _ c1 q))
 have up:∀c o,c≠e→h₁.get? c=some o→h₇.get? c=some o:=λc o c1 q=>up4 c o c1 (aJ _ (up3 c o c1 q))
 refine ac (qJ (ao ⟨_,rfl,ao (hQ h₇ _ tk T h₃.objs.size tkx tky f0' f1' he₇ (up _ _ D.ez.symm z₁) hf' (up _ _ D.eTI.symm TI₁) (let ⟨a,b,q⟩:=TO₁;⟨a,b,up _ _ D.eTO.symm q⟩) (cu i1₁ λo=>up _ o D.ei1.symm) (cu i2₁ λo=>up _ o D.ei2.symm)
  (up _ _ hTe hT₁) (up4 _ _ (kh helt) (aX _ rfl)) hle hTlt λc o hc q=>?_)⟩))
 exact up c o (λh=>hc (.inl h)) (hk₁ c o (λh=>hc (.inr (.inl h))) (λh=>hc (.inr (.inr (.inr (.inl h))))) (λh=>hc (.inr (.inr (.inr (.inr (.inl h)))))) (λh=>hc (.inr (.inr (.inr (.inr (.inr h)))))) q)
theorem BS(hh:A.handled=none)(D:ZD1 e z TI TO i1 i2)(he:IsEnum s.heap e z i old)(hz:s.heap.get? z=some (cq f0 f1 TI TO))(hf:f0=.none∨∃(T:Addr) (o:Obj),f0=rawInt T∧s.heap.get? T=some o)(hTI:IsPair s.heap TI (.ref i1) (.ref i2))(hTO:∃a b,IsPair s.heap TO a b)
  (h1:KBw.IsBytesIter s.heap i1 b1 t1 k)(h2:KBw.IsBytesIter s.heap i2 b2 t2 k)(hend:b1[k]?=none∨b2[k]?=none)
  (hQ:∀h' tk,(∀c o,¬(gc e z TI TO i1 i2).a c→s.heap.get? c=some o→h'.get? c=some o)→Q none {s with heap:=h',toks:=tk}):wpAny (model prog w) A (pyNext (.ref e)) Q E s:=by
 have hT:s.TypeIs (.ref e) "enumerate":=⟨_,he,rfl⟩
 unfold pyNext
 refine ac (nu (fK (name:=Str.ofString "__next__") hT t9
  (dE t9 hT F.entry_enumerate_next ?_ (F.args_enumerate_next_1 _))))
 show wpAny _ _ (field (.ref e) 2>>= _) _ _ _
 refine ac (bM he rfl (x:=.ref z) rfl ?_)
 refine ac (zU hh D.d hz hf hTI hTO h1 h2 hend λh' tk x he' hx'=>?_)
 obtain⟨o,ho,hc⟩:=hx'
 refine ac (fw (T:="StopIteration") (b:=true) ⟨o,ho,hc⟩ uz ?_)
 exact ao (hQ _ _ λc o hc q=>he' c o (λh=>hc (.inr (.inl h))) (λh=>hc (.inr (.inr (.inr (.inl h))))) (λh=>hc (.inr (.inr (.inr (.inr (.inl h)))))) (λh=>hc (.inr (.inr (.inr (.inr (.inr h)))))) q)
end
theorem Ce{b1 b2:List UInt8}{i:Nat}{V:AV}(h:(f6 b1 b2)[i]?=some V):∃x y,b1[i]?=some x∧b2[i]?=some y∧V=.tup [.int (x.toNat:Int),.int (y.toNat:Int)]:=by
 unfold f6 at h
 rw[eN,wE] at h
 obtain⟨⟨x,y⟩,h1,rfl⟩:=h
 rw[List.getElem?_zip_eq_some] at h1
 exact⟨x,y,h1.1,h1.2,rfl⟩
theorem Bq{b1 b2:List UInt8}{i:Nat}(h:(f6 b1 b2)[i]?=none):b1[i]?=none∨b2[i]?=none:=by
 unfold f6 at h
 rw[eN,Option.map_eq_none_iff,iO,List.length_zip] at h
 rcases iZ b1.length b2.length with q|q
 ·exact .inl (iO.mpr (by rw[eu q] at h;exact h))
 ·exact .inr (iO.mpr (by rw[mS q] at h;exact h))
theorem Cl{X:Cx}{e z TI TO i1 i2:Addr}{b1 b2:List UInt8}{t1 t2:Tok}{ts:List Expr}{x1}{pos:Pos}:Itr X 2 (some (.Tuple ts x1 pos)) (.ref e) (λ_ _=>True) (zl X e z TI TO i1 i2 b1 t1 b2 t2):=by
 refine⟨λ{A own V l g σ s} hA S ⟨ho,D,hfr,i,old,f0,f1,he,hz,hf,hTI,hTO,h1,h2,hl⟩=>?_,λ{A own g σ s} hA S ⟨ho,D,hfr,i,old,f0,f1,he,hz,hf,hTI,hTO,h1,h2,hl⟩=>?_,λ_=>trivial,
  λ{own l g σ s} ⟨ho,D,hfr,i,old,f0,f1,he,hz,hf,hTI,hTO,h1,h2,hl⟩=>?_,λ{A own l g σ s Q} hA S ⟨ho,D,hfr,i,old,f0,f1,he,hz,hf,hTI,hTO,h1,h2,hl⟩ q=>ug he q,
  λ{own l P g σ s g' σ' s'} ⟨ho,D,hfr,i,old,f0,f1,he,hz,hf,hTI,hTO,h1,h2,hl⟩ G hap _=>?_⟩
 ·cases hd:(f6 b1 b2).drop i with
  |nil=>rw[hd] at hl;cases hl
  |cons W rest=>
   rw[hd] at hl
   obtain⟨e1,e2⟩:=jc hd
   cases hl
   obtain⟨x,y,hx,hy,rfl⟩:=Ce e1
   have hf':f0=.none∨∃(T:Addr) (o:Obj),f0=rawInt T∧s.heap.get? T=some o:=hf.imp id λ⟨T,o,a,b⟩=>⟨T,o,a,S.in_ T o b⟩
   refine Bo D he hz hf' hTI hTO h1 h2 (by simpa using hx) (by simpa using hy) λh' tk ti T TT tkx tky f0' f1' he' hz' hf0' hTI' hTO' h1' h2' hT hTT hle hlt hk=>⟨_,rfl,?_⟩
   refine wpAny_letOwnedTupleGo_enum (elts:=ts) (x1:=x1) (pos:=pos) he' λh'' he'' hs''=>?_
   have hel:e<s.heap.objs.size:=aY he
   have hTe:T≠e:=λq=>by rw[q] at hle;exact bt _ (bu hel hle)
   have hTTe:TT≠e:=λq=>by rw[q] at hlt;exact bt _ (nx hel (Nat.lt_of_le_of_lt hle hlt))
   have G₁:Go X (gc e z TI TO i1 i2) g σ s g σ {s with heap:=h'',toks:=tk}:=Go.extP S hfr λb o hb eb=>(hs''.2 b (λq=>hb (.inl q))).trans (hk b o hb eb)
   have hT'':h''.get? T=some {cls:=.type "tuple",data:=.seq #[.int (x.toNat:Int) tkx,.int (y.toNat:Int) tky]}:=(hs''.2 _ hTe).trans hT
   have hTT'':h''.get? TT=some {cls:=.type "tuple",data:=.seq #[.int i ti,.ref T]}:=(hs''.2 _ hTTe).trans hTT
   have hfT:Free X g σ T:=bC S hle
   have hfTT:Free X g σ TT:=bC S (eQ hle (eR hlt))
   have G₂:=Go.freeze G₁.sat hfT hT''
   have hne:TT≠T:=kh hlt
   have hfree:∀{g:View} {o:Obj} {a:Addr} b,b≠a→Free X g σ b→Free X (g.add a o) σ b:=λb hb hf=>⟨by unfold View.add;rw[ae hb];exact hf.1,hf.2⟩
   have hfTT':=hfree (o:={cls:=.type "tuple",data:=.seq #[.int (x.toNat:Int) tkx,.int (y.toNat:Int) tky]}) (a:=T) TT hne hfTT
   have G₃:=Go.freeze G₂.sat hfTT' hTT''
   have hnT:∀a,s.heap.objs.size≤a→∀o,s.heap.get? a=some o→False:=λa h o q=>bt _ (bu (aY q) h)
   have hltT:=eQ hle (eR hlt)
   have hle1:=View.le_add (g:=g) (a:=T) {cls:=.type "tuple",data:=.seq #[.int (x.toNat:Int) tkx,.int (y.toNat:Int) tky]} hfT.1
   have hle2:=View.le_add (a:=TT) {cls:=.type "tuple",data:=.seq #[.int i ti,.ref T]} hfTT'.1
   have hold:∀a,(gc e z TI TO i1 i2).a a→a<s.heap.objs.size:=λa q=>by
    rcases q with rfl|rfl|rfl|rfl|rfl|rfl
    ·exact hel
    ·exact aY hz
    ·exact aY hTI
    ·obtain⟨_,_,q⟩:=hTO;exact aY q
    ·obtain⟨_,q,_⟩:=h1;exact aY q
    ·obtain⟨_,q,_⟩:=h2;exact aY q
   have h1'':=cu h1' λo q=>(hs''.2 i1 D.ei1.symm).trans q
   have h2'':=cu h2' λo q=>(hs''.2 i2 D.ei2.symm).trans q
   refine⟨_,gc e z TI TO i1 i2,ho▸Pv.Le.refl _ _,by rw[ho];exact(G₁.comp G₂ ⟨λb o eb q=>(hnT T hle o (by rw[←show b=T from q];exact eb)).elim,λ_ _ q=>q⟩).comp G₃ ⟨λb o eb q=>(hnT TT hltT o (by rw[←show b=TT from q];exact eb)).elim,λ_ _ q=>q⟩,?_,rfl,D,λa q=>?_,
    i+1,.ref T,f0',f1',?_,(hs''.2 z D.ez.symm).trans hz',?_,(hs''.2 TI D.eTI.symm).trans hTI',(let ⟨a,b,q⟩:=hTO';⟨a,b,(hs''.2 TO D.eTO.symm).trans q⟩),h1'',h2'',by rw[e2]⟩
   ·unfold Rep
    refine⟨TT,[.int i ti,.ref T],rfl,⟨_,_,by unfold View.add;rw[ah rfl],rfl,rfl⟩,.cons .int (.cons ?_ .nil)⟩
    unfold Rep
    exact⟨T,[.int (x.toNat:Int) tkx,.int (y.toNat:Int) tky],rfl,⟨_,_,hle2 _ _ (by unfold View.add;rw[ah rfl]),rfl,rfl⟩,.cons .int (.cons .int .nil)⟩
   ·have:=hold a q
    exact hfree a (λh=>by rw[h] at this;exact bt _ (bu this hltT)) (hfree a (λh=>by rw[h] at this;exact bt _ (bu this hle)) (hfr a q))
   ·have:((i+1:Nat):Int)=(i:Int)+1:=by push_cast;rfl
    rw[this];exact he''
   ·rcases hf0' with rfl|⟨rfl,hn⟩
    ·exact .inr ⟨T,_,rfl,hle2 _ _ (by unfold View.add;rw[ah rfl])⟩
    ·rcases hf with q|⟨T',o',a,b⟩
     ·exact absurd q hn
     ·exact .inr ⟨T',o',a,hle2 _ _ (hle1 _ _ b)⟩
 ·cases hd:(f6 b1 b2).drop i with
  |cons W rest=>rw[hd] at hl;cases hl
  |nil=>
   have hend:=Bq (kA hd)
   have hf':f0=.none∨∃(T:Addr) (o:Obj),f0=rawInt T∧s.heap.get? T=some o:=hf.imp id λ⟨T,o,a,b⟩=>⟨T,o,a,S.in_ T o b⟩
   refine BS hA.handled D he hz hf' hTI hTO h1 h2 (by simpa using hend) λh' tk hk=>⟨rfl,g,?_⟩
   rw[ho]
   exact Go.extP S hfr hk
 ·subst ho
  refine⟨λb q=>?_,λ_ q=>q.elim⟩
  rcases q with rfl|rfl|rfl|rfl|rfl|rfl
  ·exact⟨_,he⟩
  ·exact⟨_,hz⟩
  ·exact⟨_,hTI⟩
  ·obtain⟨_,_,q⟩:=hTO;exact⟨_,q⟩
  ·obtain⟨o,q,_⟩:=h1;exact⟨o,q⟩
  ·obtain⟨o,q,_⟩:=h2;exact⟨o,q⟩
 ·subst ho
  have kp:∀a o,(gc e z TI TO i1 i2).a a→s.heap.get? a=some o→(∀es ep,o.data≠.dict es ep)→s'.heap.get? a=some o:=λa o q ea hc=>by
   rcases G.run.keep a o ea (hfr a q).2.1 (hfr a q).2.2 (hap.1 a q) with r|⟨r,_⟩
   ·exact r
   ·obtain⟨_,_,r⟩:=r;exact absurd r (hc _ _)
  refine⟨rfl,D,λa q=>?_,i,old,f0,f1,kp _ _ (.inl rfl) he (by simp),kp _ _ (.inr (.inl rfl)) hz (by simp),hf.imp id λ⟨T,o,a,b⟩=>⟨T,o,a,G.le _ _ b⟩,kp _ _ (.inr (.inr (.inl rfl))) hTI (by simp),
   (let ⟨a,b,q⟩:=hTO;⟨a,b,kp _ _ (.inr (.inr (.inr (.inl rfl)))) q (by simp)⟩),?_,?_,hl⟩
  ·have hx:∃o,s.heap.get? a=some o:=by
    rcases q with rfl|rfl|rfl|rfl|rfl|rfl
    ·exact⟨_,he⟩
    ·exact⟨_,hz⟩
    ·exact⟨_,hTI⟩
    ·obtain⟨_,_,q⟩:=hTO;exact⟨_,q⟩
    ·obtain⟨o,q,_⟩:=h1;exact⟨o,q⟩
    ·obtain⟨o,q,_⟩:=h2;exact⟨o,q⟩
   obtain⟨o,ea⟩:=hx
   exact(hfr a q).go G ea (hap.1 a q)
  ·obtain⟨o,ea,hc,hd⟩:=h1
   exact⟨o,kp _ _ (.inr (.inr (.inr (.inr (.inl rfl))))) ea (λ_ _ q=>by rw[hd] at q;cases q),hc,hd⟩
  ·obtain⟨o,ea,hc,hd⟩:=h2
   exact⟨o,kp _ _ (.inr (.inr (.inr (.inr (.inr rfl))))) ea (λ_ _ q=>by rw[hd] at q;cases q),hc,hd⟩
open AutoSeq1 (wpAny_loadPart')
abbrev zt(b:Array UInt8)(t:Tok):Obj:={cls:=.type "bytes_iterator",data:=.fields #[.bytes b t,.int 0 0]}
abbrev jn(h:Heap)(b1:Array UInt8)(t1:Tok):Heap:=h.push (zt b1 t1)
abbrev oN(h:Heap)(b1:Array UInt8)(t1:Tok)(b2:Array UInt8)(t2:Tok):Heap:=(jn h b1 t1).push (zt b2 t2)
abbrev ss(h:Heap)(b1:Array UInt8)(t1:Tok)(b2:Array UInt8)(t2:Tok):Heap:=(oN h b1 t1 b2 t2).push {cls:=.type "tuple",data:=.seq #[.ref h.objs.size,.ref (jn h b1 t1).objs.size]}
abbrev tz(h:Heap)(b1:Array UInt8)(t1:Tok)(b2:Array UInt8)(t2:Tok):Heap:=(ss h b1 t1 b2 t2).push {cls:=.type "tuple",data:=.seq #[.none,.none]}
abbrev jp(h:Heap)(b1:Array UInt8)(t1:Tok)(b2:Array UInt8)(t2:Tok):Heap:=(tz h b1 t1 b2 t2).push {cls:=.type "zip",data:=.fields #[.none,.bool false,.bool false,.ref (oN h b1 t1 b2 t2).objs.size,.ref (ss h b1 t1 b2 t2).objs.size]}
set_option maxHeartbeats 2000000 in
theorem zR(b1:Array UInt8)(t1:Tok)(b2:Array UInt8)(t2:Tok):
  Meets (Builtin.«zip.__new__» ⟨[.type "zip",.bytes b1 t1,.bytes b2 t2],[]⟩) (λ_ R s=>R (.ok (.ret (.ref (tz s.heap b1 t1 b2 t2).objs.size))) {s with heap:=jp s.heap b1 t1 b2 t2}):=
 .of_wp λprog w A R s h=>by
  obtain⟨hp,g,d,tk,os⟩:=s
  have hsub:=sub_zip
  have p1:∀{Q:Value→Shared→Prop} {E},Q (.ref hp.objs.size) ⟨jn hp b1 t1,g,d,tk,os⟩→wpAny (model prog w) A.in1 (pyIter (.bytes b1 t1)) Q E ⟨hp,g,d,tk,os⟩:=λhq=>ul hq
  have p2:∀{Q:Value→Shared→Prop} {E},Q (.ref (jn hp b1 t1).objs.size) ⟨oN hp b1 t1 b2 t2,g,d,tk,os⟩→wpAny (model prog w) A.in1 (pyIter (.bytes b2 t2)) Q E ⟨jn hp b1 t1,g,d,tk,os⟩:=λhq=>ul hq
  wp_walk using p1,p2
  exact⟨_,rfl,h⟩
theorem zE(z:Addr)(o:Obj)(hc:o.cls=.type "zip"):
  Meets (Builtin.«enumerate.__new__» ⟨[.type "enumerate",.ref z],[]⟩) (λ_ R s=>s.heap.get? z=some o∧
   R (.ok (.ret (.ref s.heap.objs.size))) {s with heap:=s.heap.push {cls:=.type "enumerate",data:=.fields #[.none,.bool false,.ref z,rawInt 0,.none,.none]}}):=
 .of_wp λprog w A R s h=>by
  obtain⟨hp,g,d,tk,os⟩:=s;obtain⟨hl,h⟩:=h
  have hsub:=sub_enumerate
  have pi:∀{A:Around} {Q:Value→Shared→Prop} {E},Q (.ref z) ⟨hp,g,d,tk,os⟩→wpAny (model prog w) A (pyIter (.ref z)) Q E ⟨hp,g,d,tk,os⟩:=λhq=>by
   have hT:Shared.TypeIs ⟨hp,g,d,tk,os⟩ (.ref z) "zip":=⟨_,hl,hc⟩
   refine wpAny_pyIter_slot hT F.slot_zip_iter (dE F.slot_zip_iter hT F.entry_zip_iter ?_ (F.args_zip_iter_1 _))
   show wpAny _ _ (ret (.ref z)) _ _ _
   exact ao ⟨_,rfl,"zip",_,hT,F.slot_zip_next.lookup,hq⟩
  wp_walk using wpAny_loadPart' hl
  refine wpAny_stack_any λst=>ao ?_
  split
  ·rename_i c _ _ _ _ _
   cases(c==Value.type "enumerate")
   ·wp_walk using wpAny_loadPart' hl,pi
    exact⟨_,rfl,h⟩
   ·wp_walk using wpAny_loadPart' hl,pi
    exact⟨_,rfl,h⟩
  ·wp_walk using wpAny_loadPart' hl,pi
   exact⟨_,rfl,h⟩
section
variable {prog:Program} {w:World} {A:Around} {E:Value→Shared→Prop} {s:Shared}
theorem Ad
  (h:∀h',IsZip h' (s.heap.objs.size+4) (s.heap.objs.size+2) (s.heap.objs.size+3) .none→IsPair h' (s.heap.objs.size+2) (.ref s.heap.objs.size) (.ref (s.heap.objs.size+1))→
   IsPair h' (s.heap.objs.size+3) .none .none→KBw.IsBytesIter h' s.heap.objs.size b1 t1 0→KBw.IsBytesIter h' (s.heap.objs.size+1) b2 t2 0→h'.objs.size=s.heap.objs.size+5→
   (∀c o,s.heap.get? c=some o→h'.get? c=some o)→Q (.ref (s.heap.objs.size+4)) {s with heap:=h'}):
  wpAny (model prog w) A (call (.type "zip") [.bytes b1 t1,.bytes b2 t2]) Q E s:=by
 refine callType_new F.called_zip (by decide) (F.typeCall_zip_2 _ _) (F.newCall_zip_2 _ _) (λobj=>F.args_object_init_3 obj _ _) F.entry_zip_new
  (zR b1 t1 b2 t2) ?_
 have z1:(jn s.heap b1 t1).objs.size=s.heap.objs.size+1:=dj ..
 have z2:(oN s.heap b1 t1 b2 t2).objs.size=s.heap.objs.size+2:=by rw[dj,z1]
 have z3:(ss s.heap b1 t1 b2 t2).objs.size=s.heap.objs.size+3:=by rw[dj,z2]
 have z4:(tz s.heap b1 t1 b2 t2).objs.size=s.heap.objs.size+4:=by rw[dj,z3]
 have z5:(jp s.heap b1 t1 b2 t2).objs.size=s.heap.objs.size+5:=by rw[dj,z4]
 have g5:(jp s.heap b1 t1 b2 t2).get? (tz s.heap b1 t1 b2 t2).objs.size=some _:=aX _ rfl
 have g4:(jp s.heap b1 t1 b2 t2).get? (ss s.heap b1 t1 b2 t2).objs.size=some _:=aJ _ (aX _ rfl)
 have g3:(jp s.heap b1 t1 b2 t2).get? (oN s.heap b1 t1 b2 t2).objs.size=some _:=aJ _ (aJ _ (aX _ rfl))
 have g2:(jp s.heap b1 t1 b2 t2).get? (jn s.heap b1 t1).objs.size=some _:=aJ _ (aJ _ (aJ _ (aX _ rfl)))
 have g1:(jp s.heap b1 t1 b2 t2).get? s.heap.objs.size=some _:=aJ _ (aJ _ (aJ _ (aJ _ (aX _ rfl))))
 show _∧_
 rw[z2,z3,z4] at g5
 rw[z1,z2] at g3
 rw[z3] at g4
 rw[z1] at g2
 rw[z4]
 exact⟨⟨_,g5,rfl⟩,h _ g5 g3 g4 ⟨_,g1,rfl,rfl⟩ ⟨_,g2,rfl,rfl⟩ z5 λc o x=>
  aJ _ (aJ _ (aJ _ (aJ _ (aJ _ x))))⟩
theorem zF(h1:s.heap.get? z=some o)(hc:o.cls=.type "zip")
  (h:Q (.ref s.heap.objs.size) {s with heap:=s.heap.push {cls:=.type "enumerate",data:=.fields #[.none,.bool false,.ref z,rawInt 0,.none,.none]}}):wpAny (model prog w) A (call (.type "enumerate") [.ref z]) Q E s:=by
 refine callType_new F.called_enumerate (by decide) (F.typeCall_enumerate_1 _) (F.newCall_enumerate_1 _) (λobj=>qe obj _) F.entry_enumerate_new (zE z o hc) ⟨h1,?_⟩
 exact⟨⟨_,aX _ rfl,rfl⟩,h⟩
end
theorem EX(n k:Nat)(hk:k=n+5):ZD1 k (n+4) (n+2) (n+3) n (n+1):=by
 subst hk
 exact⟨⟨by simp,by simp,by simp,by simp,by simp,by simp,by simp,by simp,by simp,by simp⟩,by simp,by simp,by simp,by simp,by simp⟩
theorem yU(n k:Nat)(hk:k=n+5)(a:Nat)(h:(gc k (n+4) (n+2) (n+3) n (n+1)).a a):n≤a:=by
 subst hk
 have h:a=n+5∨a=n+4∨a=n+2∨a=n+3∨a=n∨a=n+1:=h
 omega
theorem AG{x1}
  (hf₁:Ev X A E env m f₁ σ λF σ₁=>F=.typ "enumerate"∧σ₁=σ)(hf₂:Ev X A E env m f₂ σ λF σ₁=>F=.typ "zip"∧σ₁=σ)(he:dz X A E env m [e1,e2] p₂ σ λl σ₁=>l=[.bytes b1,.bytes b2]∧σ₁=σ)(hq:Q (λ_ _=>True) (dZ 0 (f6 b1 b2)) σ)
  (h1:eval (.Call f₁ [.Call f₂ [e1,e2] [] p₂] [] p₁) env=(do callWith p₁ (←eval f₁ env) [] (backTo p₁ (starEach [.Call f₂ [e1,e2] [] p₂] env)) (backToKw p₁ (keywordEach [] env))):=by rfl)
  (h2:eval (.Call f₂ [e1,e2] [] p₂) env=(do callWith p₂ (←eval f₂ env) [] (backTo p₂ (starEach [e1,e2] env)) (backToKw p₂ (keywordEach [] env))):=by rfl)
  (s1:starEach [.Call f₂ [e1,e2] [] p₂] env=(false,eval (.Call f₂ [e1,e2] [] p₂) env)::starEach [] env:=by rfl)(s2:(starEach [e1,e2] env).all (λx=> !x.1)=true:=by rfl):
  fi X A E 2 env m (some (.Tuple ts x1 tp)) (.Call f₁ [.Call f₂ [e1,e2] [] p₂] [] p₁) σ Q:=λg s S F=>
 Call_ (aj (hf₁ g s S F) (λfv s₁ ⟨g₁,f,σ₁,G₁,r₁,e1,e2⟩=>by
  subst e1 e2
  refine ij (fvs:=[]) r₁ (kC ?_ s1) (by rw[s1];rfl)
  refine Call_ (aj (hf₂ g₁ s₁ G₁.sat (F.go G₁)) (λfv₂ s₂ ⟨g₂,f₂',σ₂,G₂,r₂,e1,e2⟩=>?_) i2) h2
  subst e1 e2
  have G₁₂:=G₁.trans G₂
  refine ij (fvs:=[]) r₂ (aj (he g₂ s₂ G₂.sat (F.go G₁₂)) (λvs s₃ ⟨g₃,l,σ₃,G₃,r₃,e1,e2⟩=>?_) i2) s2
  subst e1 e2
  refine⟨⟨g₃,_,G₃.sat,trivial⟩,?_⟩
  have hv₁:fv=.type "enumerate":=by unfold Rep at r₁;exact r₁
  have hv₂:fv₂=.type "zip":=by unfold Rep at r₂;exact r₂
  subst hv₁ hv₂
  unfold RepL at r₃;obtain⟨v1,r,rfl,q1,r₃⟩:=r₃
  unfold RepL at r₃;obtain⟨v2,r,rfl,q2,r₃⟩:=r₃
  unfold RepL at r₃;subst r₃
  unfold Rep at q1 q2;obtain⟨t1,rfl⟩:=q1;obtain⟨t2,rfl⟩:=q2
  have G:=G₁₂.trans G₃
  refine Ad λh' hz hTI hTO hi1 hi2 hsz hk=>args_nil ⟨⟨g₃,_,G₃.sat.keeps (s':={s₃ with heap:=h'}) hk,trivial⟩,?_⟩
  refine zF hz rfl ?_
  have up:∀c o,h'.get? c=some o→(h'.push {cls:=.type "enumerate",data:=.fields #[.none,.bool false,.ref (s₃.heap.objs.size+4),rawInt 0,.none,.none]}).get? c=some o:=λc o q=>aJ _ q
  have he':IsEnum (h'.push {cls:=.type "enumerate",data:=.fields #[.none,.bool false,.ref (s₃.heap.objs.size+4),rawInt 0,.none,.none]}) h'.objs.size (s₃.heap.objs.size+4) (0:Int) .none:=aX _ rfl
  refine ug he' ?_
  have Gk:Go X am g₃ σ₃ s₃ g₃ σ₃ {s₃ with heap:=h'.push {cls:=.type "enumerate",data:=.fields #[.none,.bool false,.ref (s₃.heap.objs.size+4),rawInt 0,.none,.none]}}:=Go.keeps G₃.sat λb o e=>up _ _ (hk b o e)
  have hold:∀b o,s.heap.get? b=some o→b<s₃.heap.objs.size:=λb o e=>let ⟨o',e'⟩:=G.dom e id;aY e'
  refine⟨g₃,σ₃,_,zl X h'.objs.size (s₃.heap.objs.size+4) (s₃.heap.objs.size+2) (s₃.heap.objs.size+3) s₃.heap.objs.size (s₃.heap.objs.size+1) b1 t1 b2 t2,gc h'.objs.size (s₃.heap.objs.size+4) (s₃.heap.objs.size+2) (s₃.heap.objs.size+3) s₃.heap.objs.size (s₃.heap.objs.size+1),_,G.trans Gk,⟨λb o eb q=>?_,λ_ _ q=>q⟩,Cl,
   ⟨rfl,EX _ _ hsz,λa q=>bC G₃.sat (yU _ _ hsz a q),0,.none,.none,.bool false,he',up _ _ hz,.inl rfl,up _ _ hTI,⟨_,_,up _ _ hTO⟩,cu hi1 λo=>up _ o,cu hi2 λo=>up _ o,rfl⟩,hq⟩
  exact bt _ (bu (hold b o eb) (yU _ _ hsz b q))) i2) h1
structure Base3(X:Cx):Prop extends Base2 X where
 g_zip:aL X "zip" (.typ "zip")
theorem yk:∀(b p:By),aN b (p.take b.length)=aN b p
 |[],p=>by simp[aN]
 |x::b,[]=>by simp[aN]
 |x::b,y::p=>by
  simp only[bc,gj,aN]
  split
  ·rw[yk b p]
  ·rfl
theorem CZ(hD:∀σ,Dep σ σ)
  (hturn:∀(i:Nat) (x y:UInt8) m,(As X A ai P env m target (.tup [.int (i:Int),.tup [.int (x.toNat:Int),.int (y.toNat:Int)]]) σ λm₁ σ₁=>Exs X A ai P env m₁ body σ₁ λF m₂ σ₂=>σ₂=σ∧(if x=y then F=.next else F=.ret (.int (i:Int))))):
  ∀(a b:By) (i:Nat) m,a.length=b.length→a≠b→(∀m,Q (.ret (.int ((i+aN a b:Nat):Int))) m σ)→iy X A Dep P env target body Q (dZ i (f6 a b)) m σ:=by
 intro a
 induction a with
 |nil=>intro b i m hl hne hq;cases b with|nil=>exact absurd rfl hne|cons _ _=>simp at hl
 |cons x a ih=>
  intro b i m hl hne hq
  cases b with
  |nil=>simp at hl
  |cons y b=>
   show As X A ai P env m target (.tup [.int (i:Int),.tup [.int (x.toNat:Int),.int (y.toNat:Int)]]) σ λm₁ σ₁=>Exs X A ai P env m₁ body σ₁ λF m₂ σ₂=>match F with
    |.next|.cont=>Dep σ σ₂∧iy X A Dep P env target body Q (dZ (i+1) (f6 a b)) m₂ σ₂
    |.brk=>Q .next m₂ σ₂
    |.ret V=>Q (.ret V) m₂ σ₂
   refine As.mono (hturn i x y m) λm₁ σ₁ h₁ g s S F=>?_
   refine aj (h₁ g s S F) (λf s' ⟨g',Fl,m₂,σ₂,G,F',rf,e,q⟩=>⟨g',Fl,m₂,σ₂,G,F',rf,?_⟩) i2
   subst e
   by_cases hxy:x=y
   ·rw[ah hxy] at q
    subst q
    refine⟨hD _,ih b (i+1) m₂ (by simpa using hl) (λh=>hne (by rw[hxy,h])) λm=>?_⟩
    have:=hq m
    simp only[aN,hxy,if_true] at this
    rwa [show i+1+aN a b=i+(aN a b+1) from by omega]
   ·rw[ae hxy] at q
    subst q
    have:=hq m₂
    simp only[aN,hxy,dr] at this
    exact this
section
variable {X:Cx} {σ:St} (hX:Base3 X)
include hX
theorem EW(hl:a.length=b.length)(hne:a≠b)(h:Q (.int (aN a b:Nat)) σ):CallOk X 4 (.ref 221) [.bytes a,.bytes b] σ Q:=by
 obtain⟨code,pm,F⟩:=hX.f_gcp
 refine bG F ["left_key","right_key"] (bk ["left_key","right_key"] λvs hv=>?_) (by rfl) λA L hA=>?_
 ·match vs,hv with|[v,w],_=>rfl
 refine ag<|rQ (k:=2) hA.mo (AG (b1:=a) (b2:=b) (eg hX.g_enumerate ⟨rfl,rfl⟩) (eg hX.g_zip ⟨rfl,rfl⟩) (ad<|ab (.bytes a)<|ad<|ab (.bytes b)<|ak ⟨rfl,rfl⟩) ?_)
 refine CZ (λ_=>trivial) (λi x y m=>?_) a b 0 _ hl hne λm=>by simpa using h
 refine bV hA.handled (by rfl) (by rfl)<|aF<|aq<|aF<|bV hA.handled (by rfl) (by rfl) (aF<|aq<|aF<|aq<|bW<|bW ?_)
 refine ag<|az<|ar<|ab (.int (x.toNat:Int))<|ab (.int (y.toNat:Int))<|qS ⟨_,rfl,?_⟩
 by_cases hxy:x=y
 ·subst hxy
  rw[show((x.toNat:Int) !=(x.toNat:Int))=false from by simp,ae aT]
  exact aB (aB ⟨rfl,by rw[ah rfl]⟩)
 ·rw[show((x.toNat:Int) !=(y.toNat:Int))=true from by
   simp only[jb,ne_eq]
   intro h
   exact hxy (qm.mp (by exact_mod_cast h)),ah rfl]
  refine ag<|aZ<|ab (.int (i:Int)) ⟨rfl,by rw[ae hxy]⟩
end
end
section
open PySem.W.X PySem.Calls Builtin Builtin.ObjectAttr
def b8:List (Str×Addr):=[("get",299),("_get",306),("set",313),("_set",321),("_set_kv_node",329),("_set_branch_node",337),("exists",344),("delete",351),("_hash_and_save",373)]
structure ClsOk(K:Frag):Prop where
 ga:findIn K (.ref 404) "__getattribute__"=some (some (.builtin "object.__getattribute__"))
 gk:findIn K (.ref 404) "__getattr__"=some none
 sa:findIn K (.ref 404) "__setattr__"=some (some (.builtin "object.__setattr__"))
 over:plainOver K 404=true
 hd:hasDictIn K 404=true
 mks:makesIn K 404=true
 init:findIn K (.ref 404) "__init__"=some (some (.ref 292))
 initf:typeIn K (.ref 292)=some (.type "function")
 at_db:findIn K (.ref 404) "db"=some none
 at_ho:findIn K (.ref 404) "hash_of"=some none
 at_rh:findIn K (.ref 404) "root_hash"=some none
 meth:∀p∈b8,findIn K (.ref 404) p.1=some (some (.ref p.2))∧typeIn K (.ref p.2)=some (.type "function")
 keep:keepIn K (.ref 404)=true
structure Base4(X:Cx):Prop extends Base3 X where
 cls:∃K:Frag,(∀h:Heap,X.B.In h→K.In h)∧ClsOk K
 g_BT:aL X "BinaryTrie" (.ref 404)
structure Inst(σ:St)(a dx:Addr)(l:List (Str×AV)):Prop where
 obj:σ a=some (.obj (instObj 404 dx))
 ns:σ dx=some (.ns l)
theorem Inst.ne{l}(h:Inst σ a dx l):a≠dx:=λe=>by
 have:=h.obj;rw[e,h.ns] at this;cases this
theorem xN{h:Heap}{dx:Addr}{m:Str→Option Value}{o:Obj}{name:Str}(x:h.Ns1 dx m)(ho:h.get? dx=some o):lookIn name o=some (m name):=by
 obtain⟨o',es,ep,e,d,k,u,f⟩:=x
 rw[ho] at e;cases e
 unfold lookIn
 rw[d]
 dsimp only
 rw[←f name]
 have hf:nsFind es name=(es.toList.find? (λe=>e.key.isStr name)).map (·.val):=by
  unfold nsFind findBy
  rw[←Array.find?_toList]
 rw[hf]
 cases hh:es.toList.find? (λe=>e.key.isStr name) with
 |some e=>rfl
 |none=>
  have hr:es.toList.any (·.refKey)=false:=by
   rw[List.any_eq_false]
   intro b hb
   obtain⟨n,t,hk⟩:=k b (Array.mem_toList_iff.mp hb)
   simp[DictEntry.refKey,hk]
  rw[hr];rfl
section
variable {X:Cx} {A:Around} {E:Value→Shared→Prop} {P:Pv} {env:Env} {m:Mp} {σ:St} {a dx:Addr} {l:List (Str×AV)} {name:Str} {K:Frag}
theorem vt(I:Inst σ a dx l)(S:Sat X g σ s):∃o mm,s.heap.get? dx=some o∧s.heap.Ns1 dx mm∧(∀x,(match l.lookup x with|some V=>∃v,mm x=some v∧Rep g V v|none=>mm x=none))∧InstAt s.heap a (instObj 404 dx) 404 (some o):=by
 obtain⟨mm,hn,hm⟩:=(S.trk dx _ I.ns).2
 obtain⟨o,es,ep,e,r⟩:=id hn
 exact⟨o,mm,e,hn,hm,(S.trk a _ I.obj).2,rfl,rfl,e⟩
def atts:List Str:=["db","hash_of","root_hash"]
theorem ClsOk.att(C:ClsOk K)(h:name∈atts):findIn K (.ref 404) name=some none:=by
 simp only[atts,bv,fL,fU] at h
 rcases h with rfl|rfl|rfl
 ·exact C.at_db
 ·exact C.at_ho
 ·exact C.at_rh
theorem rE{Q:AV→St→Prop}(hX:Base4 X){xv:Str}{V:AV}{p1 p2:Pos}(I:Inst σ a dx l)(hm:m xv=some (.ref a))(hn:name∈atts)(hl:l.lookup name=some V)(hV:∀g v,Rep g V v→handedIn v=true)(h:Q V σ)
  (hd:(xv==("__debug__":Str))=false:=by rfl)(hc:(xv==("__classdict__":Str))=false:=by rfl):Ev X A E env m (.Attribute (.Name xv p1) name p2) σ Q:=λg s S F=>by
 obtain⟨K,hK,C⟩:=hX.cls
 refine Attribute_name (aj (ap (A:=A) (E:=E) (pos:=p1) (Q:=λW σ₁=>W=.ref a∧σ₁=σ) (hd:=hd) (hc:=hc) hm ⟨rfl,rfl⟩ g s S F) (λo s₁ ⟨g₁,W,σ₁,G₁,r,e1,e2⟩=>?_) i2)
 subst e1 e2
 unfold Rep at r;subst r
 obtain⟨od,mm,ho,hns,hmm,IA⟩:=vt I G₁.sat
 have hv:=hmm name
 rw[hl] at hv
 obtain⟨v,hv,rv⟩:=hv
 refine get_value (hK _ (G₁.sat.in_.le G₁.sat.le)) IA C.ga (findObj_own C.hd (C.att hn) rfl (by rw[xN hns ho,hv])) (hV _ _ rv) ?_
 exact Post.to (G₁.trans (Go.keeps G₁.sat λ_ _ e=>e)) ⟨V,rv,h⟩
theorem Fo{Q:AV→St→Prop}(hX:Base4 X){f:Addr}(I:Inst σ a dx l)(hn:(name,f)∈b8)(hl:l.lookup name=none)(h:Q (.ref f) σ):iu X A E name (.ref a) σ Q:=λg s v pl S r=>by
 obtain⟨K,hK,C⟩:=hX.cls
 unfold Rep at r;subst r
 obtain⟨od,mm,ho,hns,hmm,IA⟩:=vt I S
 have hv:=hmm name
 rw[hl] at hv
 obtain⟨h1,h2⟩:=C.meth _ hn
 exact method_fn (hK _ (S.in_.le S.le)) IA C.ga C.gk h1 h2 (by unfold shadowIn;dsimp only;rw[xN hns ho,hv];rfl) ⟨g,.ref f,σ,.refl S,by unfold Rep;rfl,rfl,h⟩
theorem om(hX:Base4 X)(I:Inst σ a dx l)(hm:m xv=some (.ref a))(hn:name∈atts)(hz:l.length≤50)(h:Q m (σ.set dx (.ns ((name,V)::l))))
  (hd:(xv==("__debug__":Str))=false:=by rfl)(hc:(xv==("__classdict__":Str))=false:=by rfl):As X A E P env m (.Attribute (.Name xv p1) name p2) V σ Q:=λg s v S F rv=>by
 obtain⟨K,hK,C⟩:=hX.cls
 rw[arm_assign_Attribute]
 refine ac (bT (aj (ap (A:=A) (E:=E) (pos:=p1) (Q:=λW σ₁=>W=.ref a∧σ₁=σ) (hd:=hd) (hc:=hc) hm ⟨rfl,rfl⟩ g s S F) (λo s₁ ⟨g₁,W,σ₁,G₁,r,e1,e2⟩=>?_) i2))
 subst e1 e2
 unfold Rep at r;subst r
 obtain⟨od,mm,ho,hns,hmm,IA⟩:=vt I G₁.sat
 refine ac (bL (ac (bT ?_)))
 have htk:takerIn K 404 name=some none:=by unfold takerIn;rw[C.att hn];rfl
 have hKs:=hK _ (G₁.sat.in_.le G₁.sat.le)
 refine set_plain hKs IA C.sa (osa_open (s:={s₁ with toks:=s₁.toks+1}) hKs IA C.over htk λb=>?_)
 obtain⟨cd,hcd,hcdd⟩:=any_some C.hd
 have hKs':K.In (Shared.heap {s₁ with toks:=s₁.toks+1}):=hKs
 show wpAny _ _ (storeInOwnDict (.ref a) (.ref 404) (.str name s₁.toks) name v b) _ _ _
 unfold storeInOwnDict
 refine ac (ao ?_)
 refine ac (ac (wpAny_loadPart IA.at_ (ac (Looks.here (s:={s₁ with toks:=s₁.toks+1}) (looks_clsIn hKs' hcd) ?_))))
 rw[hcdd]
 refine ao (a:=some dx) ?_
 show wpAny _ _ (storeInDict dx (.str name s₁.toks) name v) _ _ _
 unfold storeInDict newKeyGuard
 refine ac (ao (ac (wpAny_nsSet1 hns λh' hn' hs=>?_)))
 have hw:Within mm (l.map (·.1)):=λy hy=>by
  have:=hmm y
  cases hl:l.lookup y with
  |none=>rw[hl] at this;exact absurd this hy
  |some V=>exact aP.mpr ⟨(y,V),mem_of_lookup hl,rfl⟩
 obtain⟨oD,esD,epD,hoD,hdD,hcD⟩:=hn'.count (Within.cons name v hw)
 refine ac (wpAny_lookBehind hoD (by rw[hdD];exact pastItsLine_dict (eQ hcD (by rw[bc,bB,bn];omega))) ?_)
 refine ao (wpAny_release ?_)
 have G₂:=Go.setTrk (s':={s₁ with heap:=h',toks:=s₁.toks+1+1}) G₁.sat I.ns hs (t':=.ns ((name,V)::l)) ⟨_,hn',λx=>by
  by_cases hx:x=name
  ·subst hx
   simp only[a8,beq_self_eq_true,if_true]
   exact⟨v,rfl,rv.le G₁.le⟩
  ·have hb:(x==name)=false:=ba.mpr hx
   simp only[a8,hb,ae hx]
   exact hmm x⟩
 exact⟨g₁,m,_,(G₁.trans G₂).any,F.go (G₁.trans G₂),h⟩
theorem Go.mkInst(S:Sat X g σ s):Go X am g σ s g ((σ.set s.heap.objs.size (.ns [])).set (s.heap.objs.size+1) (.obj (instObj 404 s.heap.objs.size))) {s with heap:=(s.heap.push emptyDict).push (instObj 404 s.heap.objs.size)}:=by
 have hf0:=bC (a:=s.heap.objs.size) S (aG _)
 have hf1:=bC (a:=s.heap.objs.size+1) S (eS _)
 have kp:∀b o,s.heap.get? b=some o→((s.heap.push emptyDict).push (instObj 404 s.heap.objs.size)).get? b=some o:=λb o e=>aJ _ (aJ _ e)
 have S':=S.keeps (s':={s with heap:=(s.heap.push emptyDict).push (instObj 404 s.heap.objs.size)}) kp
 have hsz:(s.heap.push emptyDict).objs.size=s.heap.objs.size+1:=dj ..
 have h1:((s.heap.push emptyDict).push (instObj 404 s.heap.objs.size)).get? (s.heap.objs.size+1)=some (instObj 404 s.heap.objs.size):=by rw[←hsz];exact aX _ rfl
 have h0:((s.heap.push emptyDict).push (instObj 404 s.heap.objs.size)).get? s.heap.objs.size=some emptyDict:=aJ _ (aX _ rfl)
 refine⟨⟨S'.le,S'.in_,λb u e=>?_,λp hp=>?_⟩,.refl g,λ_ _ _ _=>rfl,λb o e _=>?_,.keeps kp rfl rfl⟩
 ·unfold St.set at e
  split at e
  ·rename_i q;cases e;rw[q];exact⟨hf1.1,h1⟩
  ·split at e
   ·rename_i q;cases e;rw[q]
    exact⟨hf0.1,λ_=>none,Heap.Ns1.of_empty ⟨_,_,_,h0,rfl,λe he=>absurd he (by simp),λ_=>rfl⟩,λx=>rfl⟩
   ·exact S'.trk b u e
 ·obtain⟨e1,e2,e3,ps,e4⟩:=S'.tab p hp
  exact⟨e1,by unfold St.set;rw[ae (hf1.2.2 p hp),ae (hf0.2.2 p hp)];exact e2,e3,ps,e4⟩
 ·unfold St.set
  have:=aY e
  rw[ae (fz (qh this)),ae (fz this)]
theorem BP(hX:Base4 X)(hA:Room A (k+1))
  (h:∀a dx,σ a=none→σ dx=none→a≠dx→CallOk X k (.ref 292) (.ref a::args) ((σ.set dx (.ns [])).set a (.obj (instObj 404 dx))) λV σ'=>V=.none∧Q (.ref a) σ'):
  cn X A ai (.ref 404) args σ Q:=λg s fv vs S r rl=>by
 obtain⟨K,hK,C⟩:=hX.cls
 unfold Rep at r;subst r
 have hKs:=hK _ (S.in_.le S.le)
 refine ku ?_
 obtain⟨hh,gg,d,t,os⟩:=s
 have G:=Go.mkInst S
 have hf0:=bC (a:=hh.objs.size) S (aG _)
 have hf1:=bC (a:=hh.objs.size+1) S (eS _)
 have hR:Room (A.under (.builtin "type.__call__" ⟨.ref 404::vs,[]⟩)) k:=by
  have hw:(Code.builtin "type.__call__" ⟨.ref 404::vs,[]⟩).weight≤1:=by
   have:(Code.builtin "type.__call__" ⟨.ref 404::vs,[]⟩).weight=1∨(Code.builtin "type.__call__" ⟨.ref 404::vs,[]⟩).weight=0:=by first|exact .inl (by kernel_rfl)|exact .inr (by kernel_rfl)
   omega
  have hc:(Code.builtin "type.__call__" ⟨.ref 404::vs,[]⟩).cUnits≤3:=by
   have:(Code.builtin "type.__call__" ⟨.ref 404::vs,[]⟩).cUnits=1∨(Code.builtin "type.__call__" ⟨.ref 404::vs,[]⟩).cUnits=3:=by first|exact .inl (by kernel_rfl)|exact .inr (by kernel_rfl)
   omega
  exact⟨hA.handled,by have:=hA.depth;show A.depth+_+_<_;omega,by have:=hA.units;show A.units+_+_<_;omega⟩
 refine make_core (makes_of hKs C.mks) (looks_findIn hKs C.init) (λself=>bind_fn hKs self C.initf) (.inl rfl) (cI (h (hh.objs.size+1) hh.objs.size hf1.2.1 hf0.2.1 (Nat.succ_ne_self _) _ g _ (.ref 292) (.ref (hh.objs.size+1)::vs) hR G.sat (by unfold Rep;rfl) (.cons (by unfold Rep;rfl) rl)) λr s' ⟨v,hr,g',V,σ',G',rv,e,q⟩=>?_)
 subst hr e
 unfold Rep at rv;subst rv
 exact⟨rfl,g',.ref (hh.objs.size+1),σ',G.trans G',by unfold Rep;rfl,q⟩
end
end
section
open PySem.W.X PySem.Calls
def dg(n:Nat):By:=((List.range 32).map λi=>(n / 256 ^ i % 256).toUInt8).reverse
def bO(N:BD)(x:By):BD:=match N.lookup x with|some _=>N|none=>N.put x (dg (N.length+1))
def cb(N:BD)(x:By):By:=((bO N x).lookup x).getD []
def dy:Stmt:=((cj (aD 55))[1]?).getD (.Pass default)
def tv(c:Addr)(code pm ct doc:Value):FuncData:={name:=vP dy,qualname:="law.<locals>.name_of",params:=ox dy,body:=.stmts (cj dy),scope:=jl dy,globals:=mainGlobals,closure:=[("names",c)],closureTuple:=ct,defaults:=.none,kwdefaults:=.none,pyModule:=pm,code:=code,doc:=doc,builtins:=builtinsNs}
structure NmF(σ:St)(f d:Addr)(N:BD):Prop where
 fn:∃o c co cc oc code pm ct doc vs t,σ f=some (.obj o)∧o.data=.func (tv c code pm ct doc)∧σ c=some (.obj co)∧co.data=.cell (some (.ref d))∧code=.ref cc∧σ cc=some (.obj oc)∧oc.data=.fields vs∧vs[1]?=some (.str "law.<locals>.name_of" t)
 dict:σ d=some (.dict N)
 d1:d≠1
section
variable {X:Cx} {A:Around} {E:Value→Shared→Prop} {env:Env} {m:Mp} {σ:St} {Q:AV→St→Prop}
theorem ou(hk:env.kindOf x=some .free)(hl:env.cells.lookup x=some c)(hσ:σ c=some (.obj co))(hc:co.data=.cell (some (.ref d)))(h:Q (.ref d) σ)
  (hd:(x==("__debug__":Str))=false:=by decide)(hcd:(x==("__classdict__":Str))=false:=by decide):Ev X A E env m (.Name x pos) σ Q:=λg s S F=>by
 refine wpAny_Name ?_ hd
 exact wR F.kind hk hl ⟨co,(S.trk c _ hσ).2,hc⟩ (Post.here S (by unfold Rep;rfl) h) hcd
theorem wW(hσ:σ a=some (.dict l))(ha:a≠1)(h:Q (.bool (!(l.lookup k).isSome)) σ):bh X A E (compareOp .NotIn) (.bytes k) (.ref a) σ Q:=λg s v u S r r'=>by
 unfold Rep at r r';obtain⟨t,rfl⟩:=r;subst r'
 obtain⟨kvs,hd,hk⟩:=dX S hσ
 refine wpAny_notIn_of (knd:=bytesKind P0 X.w) (k:=k) (i0 P0 X.w k t) (by simpa [sysModules] using ha) hd.mapOf (Post.tok S .bool ?_)
 have e:(valueAt kvs k).isSome=(l.lookup k).isSome:=by
  obtain⟨h1,h2⟩:=hk.value (k:=k)
  cases q:l.lookup k with
  |none=>rw[h2 q];rfl
  |some b=>obtain⟨t,e⟩:=h1 b q;rw[e];rfl
 rw[e];exact h
theorem Ak(h:Q (.blt "int.to_bytes") σ):iu X A E "to_bytes" (.int n) σ Q:=λg s v pl S r=>by
 unfold Rep at r;obtain⟨t,rfl⟩:=r
 exact KTBy.method ⟨g,_,σ,.refl S,by unfold Rep;rfl,rfl,h⟩
theorem An(hn:n<65536)(h:Q (.bytes (dg n)) σ):cn X A E (.blt "int.to_bytes") [.int (n:Int),.int 32,.str "big"] σ Q:=λg s fv vs S r rl=>by
 unfold Rep at r;subst r
 unfold RepL at rl;obtain⟨v1,us,rfl,r1,rl⟩:=rl
 unfold RepL at rl;obtain⟨v2,us,rfl,r2,rl⟩:=rl
 unfold RepL at rl;obtain⟨v3,us,rfl,r3,rl⟩:=rl
 unfold RepL at rl;subst rl
 unfold Rep at r1 r2 r3;obtain⟨t,rfl⟩:=r1;obtain⟨u,rfl⟩:=r2;obtain⟨v,rfl⟩:=r3
 have hbits:Builtin.Int.intBits (n:Int)≤8 * 32:=by
  refine intBits_le_iff.mpr ?_
  have:(65536:Nat)≤2 ^ (8 * 32):=by decide
  omega
 have hlt:(n:Int)<256 ^ 32:=by
  have:(65536:Int)≤256 ^ 32:=by decide
  omega
 refine dE KTBy.slot (kx s n t) KTBy.entry ?_ (KTBy.args _ _ _)
 show wpAny _ _ (Builtin.Int.intOfSelf (.int n t)>>= λy=>_) _ _ s
 refine ac (bw (a:=(n:Int)) rfl ?_)
 show wpAny _ _ (Builtin.Int.intBindNamed "to_bytes" ["length","byteorder","signed"] 0 2 [.int 32 u,.str (PySem.Str.ofString "big") v] []>>= λl=>_) _ _ s
 refine ac (bw (a:=[some (.int 32 u),some (.str (PySem.Str.ofString "big") v),none]) (by kernel_rfl) ?_)
 show wpAny _ _ (Builtin.Int.intIndex "int.to_bytes" (.int 32 u)>>= λn=>_) _ _ s
 refine ac (bw (a:=(32:Int)) rfl ?_)
 refine KTBy.if_not (by rfl) ?_
 refine ac (bw (a:=PySem.Str.ofString "big") (by kernel_rfl) ?_)
 refine ac (bw (a:=false) rfl ?_)
 refine ac (bw (a:=false) (by kernel_rfl) ?_)
 refine uw (by rfl) ?_
 refine uw (by rfl) ?_
 refine uw (by rfl) ?_
 refine KTBy.if_not (by show(decide ((n:Int)<0)&& !false)=false;rw[iW (show ¬(n:Int)<0 by omega)];rfl) ?_
 refine KTBy.if_not (by show(_&&decide ((Builtin.Int.intBits (n:Int):Int)>8 * 32))=false;rw[iW (show ¬((Builtin.Int.intBits (n:Int):Int)>8 * 32) by omega),Bool.and_false]) ?_
 have hlow:KTBy.low (n:Int) 32=(List.range 32).map λi=>(n / 256 ^ i % 256).toUInt8:=by
  have h1:=KTBy.low_ints (x:=(n:Int)) (n:=32) (by omega) hlt
  have inj:∀(a b:List UInt8),a.map (λc=>((c.toNat:Nat):Int))=b.map (λc=>((c.toNat:Nat):Int))→a=b:=λa=>by
   induction a with
   |nil=>intro b h;cases b with|nil=>rfl|cons _ _=>simp at h
   |cons x a ih=>
    intro b h
    cases b with
    |nil=>simp at h
    |cons y b=>
     simp only[bQ,gv] at h
     have h1:x=y:=qm.mp (by exact_mod_cast h.1)
     rw[ih b h.2,h1]
  refine inj _ _ (h1.trans ?_)
  rw[cC]
  refine j6 λi _=>?_
  show(n:Int) / 256 ^ i % 256=(((n / 256 ^ i % 256).toUInt8).toNat:Int)
  have:((n / 256 ^ i % 256).toUInt8).toNat=n / 256 ^ i % 256:=by
   show(UInt8.ofNat (n / 256 ^ i % 256)).toNat=_
   rw[ud]
   omega
  rw[this]
  push_cast
  rfl
 refine ac (wpAny_mkBytes (ao ⟨_,rfl,?_⟩) (by show(List.reverse (KTBy.low (n:Int) 32)).length≤sizeLine;rw[List.length_reverse,KTBy.low_length,bn];omega))
 refine Post.tok S ?_ h
 unfold Rep
 refine⟨s.toks,?_⟩
 show Value.bytes (List.reverse (KTBy.low (n:Int) 32)).toArray s.toks=Value.bytes (dg n).toArray s.toks
 rw[hlow]
 rfl
abbrev vT(fd:FuncData)(L a:Addr):Env:=newEnv fd.scope L fd.globals fd.closure (fd.qualname++".<locals>.") (some a) fd.code none fd.builtins
theorem DD(hlim:∀h:Heap,X.B.In h→h.NoLimit)(hobj:∃o,σ a=some (.obj o)∧o.data=.func fd)
  (hcode:∃cc oc vs t,fd.code=.ref cc∧σ cc=some (.obj oc)∧oc.data=.fields vs∧vs[1]?=some (.str fd.qualname t))(hbody:fd.body=.stmts body)(hcl:∀x c,fd.closure.lookup x=some c→σ c≠none)(hinj:fd.closure.Pairwise λx y=>x.2≠y.2)(x:Str)
  (hbind:∀v:Value,bindArgs fd ⟨[v],[]⟩=pure [(x,v)])(hx:fd.scope.names.lookup x=some .local)(hnc:∀y∈fd.scope.names,y.2≠.cell)
  (h:∀A L,Room A k→Exs X A ai (ax L (vT fd L a)) (vT fd L a) (Mp.nil.upd x V) body σ λFl _ σ'=>match Fl with|.ret V=>Q V σ'|.next=>Q .none σ'|_=>False)
  (hco:fd.scope.isCoroutine=false:=by rfl)(hgen:fd.scope.isGenerator=false:=by rfl)(hk:fd.scope.kind=.function:=by rfl):CallOk X (k+1) (.ref a) [V] σ Q:=λA g s fv vs hA S hf r=>by
 unfold Rep at hf
 subst hf
 unfold RepL at r;obtain⟨v,us,rfl,rv,r⟩:=r
 unfold RepL at r;subst r
 obtain⟨o,hσ,hd⟩:=hobj
 have ho:s.heap.get? a=some o:=(S.trk a _ hσ).2
 obtain⟨cc,oc,ws,t,hc,hσc,hdc,hq⟩:=hcode
 have hnl:=hlim _ (S.in_.le S.le)
 refine t4 (by have:=hA.depth;omega) ho hd hco hgen hbody ⟨cc,oc,ws,t,hc,(S.trk cc _ hσc).2,hdc,hq⟩ ?_
 refine(bw (hbind v) ?_)
 refine wpAny_newFunctionEnv hnc (λy hy=>by simp only[fp] at hy;rw[hy];exact hx) (λh' hn hs=>?_) hk
 have keep:∀b o,s.heap.get? b=some o→h'.get? b=some o:=λb o e=>hs.extBut b o (fz (aY e)) (aJ _ e)
 have G:Go X am g σ s g σ {s with heap:=h',toks:=s.toks+[(x,v)].length}:=Go.keeps S keep
 have Fr:Frm X (vT fd s.heap.objs.size a) (Mp.nil.upd x V) g σ {s with heap:=h',toks:=s.toks+[(x,v)].length}:=by
  refine⟨hk,bC S (aG _),⟨_,hn,λy W hy hkd=>?_⟩,λy c hl hkd hfree=>absurd hfree.2.1 (hcl y c hl),λy W hy=>?_,hinj,λy c hl=>?_,λy c hkd hy hl=>absurd hkd λhkd=>?_⟩
  ·unfold Mp.upd at hy
   split at hy
   ·rename_i e;cases hy;subst e
    exact⟨v,by simp,rv⟩
   ·cases hy
  ·unfold Mp.upd at hy
   split at hy
   ·rename_i e;subst e;exact .inl hx
   ·cases hy
  ·have hne:=hcl y c hl
   cases hh:σ c with
   |none=>exact absurd hh hne
   |some tr=>obtain⟨o,e⟩:=(G.sat.trk c tr hh).2.at;exact⟨o,e⟩
  ·have:(y,NameKind.cell)∈fd.scope.names:=mem_of_lookup hkd
   exact hnc _ this rfl
 refine⟨hnl.keeps keep,codeAny_func (aj (h (A.deeper _) s.heap.objs.size (Room.deeper hA) g _ G.sat Fr) (λf s'' ⟨g',Fl,m',σ',G',_,rf,q⟩=>?_) λ_ _ x=>x.elim)⟩
 have G'':Go X am g σ s g' σ' s'':=Go.weaken (Go.trans (G.any) G') (io (aG _))
 cases Fl with
 |next=>cases rf;exact⟨_,rfl,g',.none,σ',G'',by unfold Rep;rfl,q⟩
 |ret V=>obtain⟨v,rfl,rv⟩:=rf;exact⟨v,rfl,g',V,σ',G'',rv,q⟩
 |brk=>exact q.elim
 |cont=>exact q.elim
end
theorem BD.put_get{N:BD}{x v:By}:(N.put x v).lookup x=some v:=by
 induction N with
 |nil=>simp[BD.put]
 |cons p N ih=>
  obtain⟨k,u⟩:=p
  unfold BD.put
  split
  ·rename_i e;subst e;simp
  ·rename_i e
   rw[a8]
   rw[show(x==k)=false from ba.mpr λh=>e h.symm]
   exact ih
theorem BD.put_other{N:BD}{x v y:By}(h:y≠x):(N.put x v).lookup y=N.lookup y:=by
 induction N with
 |nil=>simp[BD.put,h]
 |cons p N ih=>
  obtain⟨k,u⟩:=p
  unfold BD.put
  split
  ·rename_i e;subst e
   rw[a8,a8,show(y==k)=false from ba.mpr h]
  ·rw[a8,a8,ih]
section
variable {X:Cx} {σ:St} {Q:AV→St→Prop} (hX:Base4 X)
include hX
theorem yO(F:NmF σ f d N)(hz:N.length<60000)(h:Q (.bytes (cb N x)) (σ.set d (.dict (bO N x))))(h0:N.lookup x≠none→Q (.bytes (cb N x)) σ):CallOk X 3 (.ref f) [.bytes x] σ Q:=by
 obtain⟨⟨o,c,co,cc,oc,code,pm,ct,doc,vs,t,e1,e2,e3,e4,e5,e6,e7,e8⟩,hd,d1⟩:=F
 subst e5
 refine DD hX.lim ⟨o,e1,e2⟩ ⟨cc,oc,vs,t,rfl,e6,e7,e8⟩ rfl (λy c' hl=>?_) (by simp[tv]) "octets" (λv=>rfl) (by rfl) (show ∀y∈(jl dy).names,y.2≠.cell from by decide) λA L hA=>?_
 ·have:y=("names":Str)∧c'=c:=by
   simp only[tv,a8,List.lookup_nil] at hl
   split at hl
   ·rename_i e;exact⟨by simpa using e,by cases hl;rfl⟩
   ·cases hl
  rw[this.2,e3];simp
 refine ag<|az<|ar<|ab (.bytes x)<|ou (c:=c) (by rfl) (by rfl) e3 e4<|wW hd d1 ⟨_,rfl,?_⟩
 cases hl:N.lookup x with
 |some b=>
  have hh:cb N x=b:=by unfold cb bO;rw[hl];simp[hl]
  refine aB (ag<|aZ<|aC<|ou (c:=c) (by rfl) (by rfl) e3 e4<|ab (.bytes x)<|cg hd hl ?_)
  rw[←hh]
  exact h0 (by rw[hl];simp)
 |none=>
  have hn:bO N x=N.put x (dg (N.length+1)):=by unfold bO;rw[hl]
  have hl':(bO N x).lookup x=some (dg (N.length+1)):=by rw[hn];exact BD.put_get
  have hh:cb N x=dg (N.length+1):=by unfold cb;rw[hl'];rfl
  have hdc:d≠c:=λe=>by rw[e,e3] at hd;cases hd
  have hs3:(σ.set d (.dict (bO N x))) c=some (.obj co):=by unfold St.set;rw[ae λe=>hdc e.symm];exact e3
  refine ag<|aE<|cy (aK<|au<|eg hX.g_len<|ad<|ou (c:=c) (by rfl) (by rfl) e3 e4<|ak ⟨trivial,uH hd d1 (by omega)<|av<|fN<|Ak<|ad<|av<|ad<|kN<|ak ⟨trivial,?_⟩⟩) (by rfl)
  rw[show(((N.length:Nat):Int)+1)=((N.length+1:Nat):Int) from by push_cast;rfl]
  refine An (by omega)<|ko<|(ou (c:=c) (by rfl) (by rfl) e3 e4 ⟨rfl,ab (.bytes x) ⟨rfl,N,hd,by omega,?_⟩⟩)
  rw[←hn]
  refine aB (ag<|aZ<|aC<|ou (c:=c) (by rfl) (by rfl) hs3 e4<|ab (.bytes x)<|cg (l:=bO N x) (by unfold St.set;rw[ah rfl]) hl' ?_)
  rw[←hh]
  exact h
end
end
section
open PySem.W.X
theorem CA(n:Nat):(dg n).length=32:=by unfold dg;simp
theorem nT(n i:Nat)(h:i<32):(dg n).reverse[i]?=some ((n / 256 ^ i % 256).toUInt8):=by
 unfold dg;rw[List.reverse_reverse,eN,List.getElem?_range h];rfl
theorem Cu(ha:a<65536)(hb:b<65536)(h:dg a=dg b):a=b:=by
 have h0:=nT a 0 (by decide)
 have h1:=nT a 1 (by decide)
 rw[h,nT b 0 (by decide)] at h0
 rw[h,nT b 1 (by decide)] at h1
 have tn:∀n:Nat,(n % 256).toUInt8.toNat=n % 256:=λn=>by
  show(UInt8.ofNat (n % 256)).toNat=_
  rw[ud];omega
 have e0:=dl UInt8.toNat (Option.some.inj h0)
 have e1:=dl UInt8.toNat (Option.some.inj h1)
 rw[tn,tn] at e0 e1
 simp only[Nat.pow_zero,Nat.div_one,Nat.pow_one] at e0 e1
 omega
theorem Bd(h:n<65536):dg n≠blank:=λe=>by
 have h0:=nT n 31 (by decide)
 rw[e] at h0
 have:(n / 256 ^ 31 % 256)=0:=by rw[Nat.div_eq_of_lt (bu (nx h (by decide:65536<65537)) (by decide))]
 rw[this] at h0
 exact absurd h0 (by decide)
structure NmW(N:BD):Prop where
 nd:(N.map (·.1)).Nodup
 vals:∀(i:Nat) k h,N[i]?=some (k,h)→h=dg (i+1)
 sz:N.length≤60000
theorem dY:∀{N:BD},N.lookup k=some h→(k,h)∈N
 |[],e=>by cases e
 |(a,b)::N,e=>by
  rw[a8] at e
  by_cases q:k=a
  ·subst q
   simp at e;subst e;exact bj
  ·rw[show(k==a)=false from ba.mpr q] at e
   exact aR _ (dY e)
theorem qP{N:BD}{k h:By}(e:N.lookup k=some h):∃i:Nat,N[i]?=some (k,h):=by
 have:=dY e
 obtain⟨i,hi,e⟩:=List.mem_iff_getElem.mp this
 exact⟨i,by rw[c8 hi,e]⟩
theorem vL{N:BD}{i:Nat}{x}(e:N[i]?=some x):i<N.length:=by
 rcases nw i N.length with h|h
 ·exact h
 ·rw[t5 h] at e;cases e
theorem NmW.ok{N:BD}(W:NmW N):NmOk N where
 len k h e:=by
  obtain⟨i,e⟩:=qP e
  rw[W.vals _ _ _ e];exact CA _
 blank k h e:=by
  obtain⟨i,e⟩:=qP e
  have:=vL e;have:=W.sz
  rw[W.vals _ _ _ e];exact Bd (by omega)
 inj k k' h e e':=by
  obtain⟨i,e⟩:=qP e
  obtain⟨j,e'⟩:=qP e'
  have:=vL e;have:=vL e';have:=W.sz
  have q:=Cu (by omega) (by omega) ((W.vals _ _ _ e).symm.trans (W.vals _ _ _ e'))
  have q:i=j:=by omega
  subst q
  rw[e] at e';cases e';rfl
theorem yq:∀{N:BD},N.lookup x=none→N.put x v=N++[(x,v)]
 |[],_=>rfl
 |(k,u)::N,h=>by
  rw[a8] at h
  by_cases e:x=k
  ·subst e;simp at h
  ·rw[show(x==k)=false from ba.mpr e] at h
   unfold BD.put
   rw[ae λq=>e q.symm,yq h];rfl
theorem mR:∀{N:BD},N.lookup x=none→x ∉ N.map (·.1)
 |[],_=>by simp
 |(k,u)::N,h=>by
  rw[a8] at h
  by_cases e:x=k
  ·subst e;simp at h
  ·rw[show(x==k)=false from ba.mpr e] at h
   rw[bQ,bv]
   rintro(q|q)
   ·exact e q
   ·exact mR h q
theorem kq:∀(N:BD),(N.put x v).length≤N.length+1
 |[]=>aG _
 |(k,u)::N=>by
  unfold BD.put
  split
  ·simp
  ·simp only[bc];have:=kq (x:=x) (v:=v) N;omega
theorem NmW.nil:NmW []:=⟨by simp,by simp,by simp⟩
theorem NmW.add(W:NmW N)(x:By)(hz:N.length<60000):NmW (bO N x)∧BD.Sub N (bO N x)∧(bO N x).lookup x=some (cb N x)∧(bO N x).length≤N.length+1∧N.length≤(bO N x).length:=by
 cases hl:N.lookup x with
 |some b=>
  have e:bO N x=N:=by unfold bO;rw[hl]
  refine⟨by rw[e];exact W,by rw[e];exact .refl N,?_,by rw[e];omega,by rw[e];omega⟩
  unfold cb;rw[e,hl];rfl
 |none=>
  have e:bO N x=N++[(x,dg (N.length+1))]:=by unfold bO;rw[hl];exact yq hl
  refine⟨⟨?_,λi k h q=>?_,by rw[e];simp;omega⟩,λk v q=>?_,?_,by rw[e];simp,by rw[e];simp⟩
  ·rw[e,iV,ui]
   refine⟨W.nd,by simp,λa ha b hb=>?_⟩
   simp at hb;subst hb
   exact λq=>mR hl (q▸ha)
  ·rw[e] at q
   rcases nw i N.length with h'|h'
   ·rw[List.getElem?_append_left h'] at q;exact W.vals _ _ _ q
   ·rw[List.getElem?_append_right h'] at q
    have:i=N.length:=by
     rcases Nat.eq_or_lt_of_le h' with q'|q'
     ·exact q'.symm
     ·rw[t5 (by simp;omega)] at q;cases q
    subst this
    simp at q
    exact q.2.symm
  ·rw[show bO N x=N.put x (dg (N.length+1)) from by unfold bO;rw[hl],BD.put_other λq'=>by subst q';rw[hl] at q;cases q]
   exact q
  ·have:(bO N x).lookup x=some (dg (N.length+1)):=by
    rw[show bO N x=N.put x (dg (N.length+1)) from by unfold bO;rw[hl]];exact BD.put_get
   unfold cb;rw[this];rfl
structure SOk(N D:BD):Prop where
 W:NmW N
 d:gh N D
theorem SOk.save(S:SOk N D)(x:By)(hz:N.length<60000):SOk (bO N x) (D.put (cb N x) x)∧BD.Sub D (D.put (cb N x) x):=by
 obtain⟨w,sub,g,l1,l2⟩:=S.W.add x hz
 refine⟨⟨w,λh y q=>?_⟩,λh y q=>?_⟩
 ·by_cases e:h=cb N x
  ·subst e
   rw[BD.put_get] at q;cases q;exact g
  ·rw[BD.put_other e] at q;exact sub _ _ (S.d _ _ q)
 ·by_cases e:h=cb N x
  ·subst e
   rw[BD.put_get]
   have:=sub _ _ (S.d _ _ q)
   rw[w.ok.inj _ _ _ this g]
  ·rw[BD.put_other e];exact q
theorem yg{N D:BD}{x:By}:(D.put (cb N x) x).lookup (cb N x)=some x:=BD.put_get
def be(i:Nat):Stmt:=((Fd (aD 46))[i]?).getD (.Pass default)
def FnM(X:Cx)(a i:Nat)(qual:Str)(dflt:Value):Prop:=∃code pm,FnAt X a (cP (be i) qual code pm dflt) (cj (be i))
def FnD(X:Cx)(a i:Nat)(qual:Str):Prop:=∃T o v n,FnM X a i qual (.ref T)∧X.B T=some o∧o.data=.seq #[v] n
def FnF(X:Cx)(a i:Nat)(qual:Str):Prop:=∃T o n,FnM X a i qual (.ref T)∧X.B T=some o∧o.data=.seq #[.bool false] n
structure Base5(X:Cx):Prop extends Base4 X where
 m_init:FnD X 292 0 "BinaryTrie.__init__"
 m_get:FnM X 299 1 "BinaryTrie.get" .none
 m__get:FnM X 306 2 "BinaryTrie._get" .none
 m_set:FnM X 313 3 "BinaryTrie.set" .none
 m__set:FnF X 321 4 "BinaryTrie._set"
 m_kv:FnF X 329 5 "BinaryTrie._set_kv_node"
 m_br:FnF X 337 6 "BinaryTrie._set_branch_node"
 m_exists:FnM X 344 7 "BinaryTrie.exists" .none
 m_delete:FnM X 351 8 "BinaryTrie.delete" .none
 m_has:FnM X 373 11 "BinaryTrie._hash_and_save" .none
theorem nE{X:Cx}{fd:FuncData}{l l':List AV}{σ:St}{T:Addr}{o:Obj}{items:Array Value}{n:Nat}(xs:List Str)(hd:fd.defaults=.ref T)(ho:X.B T=some o)(hs:o.data=.seq items n)
  (h:∀vs:List Value,vs.length=l.length→∃(k:Option (Array Value)→Sem (List (Str×Value))) (vs':List Value),bindArgs fd ⟨vs,[]⟩=seqItems? fd.defaults>>= k∧k (some items)=pure (xs.zip vs')∧∀g,RepL g l vs→RepL g l' vs'):
  ∀g s vs,Sat X g σ s→RepL g l vs→∃vs',RepL g l' vs'∧BindsTo s fd ⟨vs,[]⟩ (xs.zip vs'):=λg s vs S r=>by
 obtain⟨k,vs',h1,h2,h3⟩:=h vs r.length
 exact⟨vs',h3 g r,BindsTo.of_defaults hd (S.in_ _ _ (S.le _ _ ho)) hs h1 h2⟩
structure Tri(z:Nat)(σ:St)(a dx f d db:Addr)(r:By)(N D:BD):Prop where
 i:∃l,Inst σ a dx l∧l.length≤z∧l.lookup ("db":Str)=some (.ref db)∧l.lookup ("hash_of":Str)=some (.ref f)∧l.lookup ("root_hash":Str)=some (.bytes r)∧∀p∈b8,l.lookup p.1=none
 nm:NmF σ f d N
 dbt:σ db=some (.dict D)
 db1:db≠1
 ne:db≠d
def Only(σ σ':St)(L:List Addr):Prop:=∀b,b ∉ L→σ' b=σ b
theorem Only.refl{L}:Only σ σ L:=λ_ _=>rfl
theorem Only.trans{L}(x:Only σ σ' L)(y:Only σ' σ'' L):Only σ σ'' L:=λb h=>(y b h).trans (x b h)
theorem Only.at(h:Only σ σ' [d,db])(hd:σ d=some (.dict N))(hb:σ db=some (.dict D))(hx:σ x=some t)(ht:∀l,t≠.dict l):σ' x=some t:=by
 rw[h x ?_,hx]
 simp only[bv,fL,fU]
 rintro(rfl|rfl)
 ·rw[hd] at hx;cases hx;exact ht _ rfl
 ·rw[hb] at hx;cases hx;exact ht _ rfl
theorem NmF.upd(F:NmF σ f d N)(hb:σ db=some (.dict D))(h:Only σ σ' [d,db])(h':σ' d=some (.dict N')):NmF σ' f d N':=by
 obtain⟨⟨o,c,co,cc,oc,code,pm,ct,doc,vs,t,e1,e2,e3,e4,e5,e6,e7,e8⟩,hd,d1⟩:=F
 exact⟨⟨o,c,co,cc,oc,code,pm,ct,doc,vs,t,h.at hd hb e1 (λ_ q=>by cases q),e2,h.at hd hb e3 (λ_ q=>by cases q),e4,e5,h.at hd hb e6 (λ_ q=>by cases q),e7,e8⟩,h',d1⟩
theorem Tri.upd(T:Tri z σ a dx f d db r N D)(h:Only σ σ' [d,db])(h1:σ' d=some (.dict N'))(h2:σ' db=some (.dict D')):Tri z σ' a dx f d db r N' D':=by
 obtain⟨⟨l,I,i1,i2,i3,i4,i5⟩,nm,dbt,db1,ne⟩:=T
 exact⟨⟨l,⟨h.at nm.dict dbt I.obj (λ_ q=>by cases q),h.at nm.dict dbt I.ns (λ_ q=>by cases q)⟩,i1,i2,i3,i4,i5⟩,nm.upd dbt h h1,h2,db1,ne⟩
theorem NmF.keep(F:NmF σ f d N):aV X σ (.ref f):=by
 obtain⟨⟨o,c,co,cc,oc,code,pm,ct,doc,vs,t,e1,e2,_⟩,_⟩:=F
 exact .inl ⟨o,_,.inr e1,e2⟩
theorem FnM.keep(F:FnM X a i q dv):aV X σ (.ref a):=by
 obtain⟨_,_,F⟩:=F;exact F.keep
theorem FnD.keep(F:FnD X a i q):aV X σ (.ref a):=by
 obtain⟨_,_,_,_,F,_⟩:=F;exact FnM.keep F
theorem FnF.keep(F:FnF X a i q):aV X σ (.ref a):=by
 obtain⟨_,_,_,F,_⟩:=F;exact FnM.keep F
theorem yl(r:Rep g (.ref a) v):handedIn v=true:=by unfold Rep at r;subst r;rfl
theorem xF(r:Rep g (.bytes b) v):handedIn v=true:=by unfold Rep at r;obtain⟨t,rfl⟩:=r;rfl
section
variable {X:Cx} {A:Around} {E:Value→Shared→Prop} {P:Pv} {env:Env} {m:Mp} {σ:St} {Q:AV→St→Prop} {z:Nat} {a dx f d db:Addr} {r:By} {N D:BD} (hX:Base5 X)
include hX
theorem dq(T:Tri z σ a dx f d db r N D)(hm:m "self"=some (.ref a))(h:Q (.ref db) σ):Ev X A E env m (.Attribute (.Name "self" p1) "db" p2) σ Q:=by
 obtain⟨l,I,i1,i2,i3,i4,i5⟩:=T.i
 exact rE hX.toBase4 I hm (by simp[atts]) i2 (λ_ _ r=>yl r) h
theorem Bs(T:Tri z σ a dx f d db r N D)(hm:m "self"=some (.ref a))(h:Q (.ref f) σ):Ev X A E env m (.Attribute (.Name "self" p1) "hash_of" p2) σ Q:=by
 obtain⟨l,I,i1,i2,i3,i4,i5⟩:=T.i
 exact rE hX.toBase4 I hm (by simp[atts]) i3 (λ_ _ r=>yl r) h
theorem qM(T:Tri z σ a dx f d db r N D)(hm:m "self"=some (.ref a))(h:Q (.bytes r) σ):Ev X A E env m (.Attribute (.Name "self" p1) "root_hash" p2) σ Q:=by
 obtain⟨l,I,i1,i2,i3,i4,i5⟩:=T.i
 exact rE hX.toBase4 I hm (by simp[atts]) i4 (λ_ _ r=>xF r) h
theorem cD(T:Tri z σ a dx f d db r N D)(hn:(name,g)∈b8)(h:Q (.ref g) σ):iu X A E name (.ref a) σ Q:=by
 obtain⟨l,I,i1,i2,i3,i4,i5⟩:=T.i
 exact Fo hX.toBase4 I hn (i5 _ hn) h
theorem EL(T:Tri z σ a dx f d db r N D)(hx:c=0∨c=1∨c=2)(hz:x.length≤4096)(hN:N.length<60000)(hD:D.length≤65536)
  (h:∀σ',Only σ σ' [d,db]→Tri z σ' a dx f d db r (bO N (c::x)) (D.put (cb N (c::x)) (c::x))→Q (.bytes (cb N (c::x))) σ'):CallOk X 4 (.ref 373) [.ref a,.bytes (c::x)] σ Q:=by
 obtain⟨code,pm,F⟩:=hX.m_has
 refine bG F ["self","node"] (bk ["self","node"] λvs hv=>?_) (by rfl) λA L hA=>?_
 ·match vs,hv with|[v,w],_=>rfl
 have kv:aV X σ (.ref 214):=by obtain⟨_,_,F'⟩:=hX.f_vbn;exact F'.keep
 have fin:∀σ₁,Only σ σ₁ [d,db]→σ₁ d=some (.dict (bO N (c::x)))→σ₁ db=some (.dict D)→
   Exs X A ai (ax L (callEnvC (cP (be 11) "BinaryTrie._hash_and_save" code pm .none) L 373)) (callEnvC (cP (be 11) "BinaryTrie._hash_and_save" code pm .none) L 373) (((cF ["self","node"] [.ref a,.bytes (c::x)] Mp.nil).upd "keccak" (.ref f)).upd "node_hash" (.bytes (cb N (c::x)))) ((cj (be 11)).drop 3) σ₁ (λFl _ σ'=>match Fl with|.ret V=>Q V σ'|.next=>Q .none σ'|_=>False):=λσ₁ o1 e1 e2=>by
  have T1:=T.upd o1 e1 e2
  refine ag<|aE<|ab (.bytes (c::x))<|ko<|dq hX T1 (by rfl) ⟨rfl,ap (V:=.bytes (cb N (c::x))) (by rfl) ⟨rfl,D,e2,hD,?_⟩⟩
  refine ag<|aZ<|ap (V:=.bytes (cb N (c::x))) (by rfl)<|?_
  refine h _ ?_ (T1.upd ?_ ?_ ?_)
  ·intro b hb
   simp only[bv,fL,fU,not_or] at hb
   unfold St.set;rw[ae hb.2]
   exact o1 b (by simp[hb.1,hb.2])
  ·intro b hb
   simp only[bv,fL,fU,not_or] at hb
   unfold St.set;rw[ae hb.2]
  ·unfold St.set;rw[ae λe=>T.ne e.symm];exact e1
  ·unfold St.set;rw[ah rfl]
 refine ag<|cV<|au<|eg hX.g_vbn<|ad<|ab (.bytes (c::x))<|ak ⟨kv,aw (Eh hX.toBase hz hx ?_) (hA.mono (by decide))⟩
 refine ag<|aE<|Bs hX T (by rfl)<|aq ?_
 refine ag<|aE<|au<|ab (.ref f)<|ad<|ab (.bytes (c::x))<|ak ⟨T.nm.keep,aw (yO hX.toBase4 T.nm hN ?_ λhl=>?_) (hA.mono (by decide))⟩
 ·refine aq<|fin _ (λb hb=>?_) (by unfold St.set;rw[ah rfl]) (by unfold St.set;rw[ae T.ne];exact T.dbt)
  simp only[bv,fL,fU,not_or] at hb
  unfold St.set;rw[ae hb.1]
 ·refine aq<|fin _ .refl ?_ T.dbt
  have e:bO N (c::x)=N:=by
   unfold bO
   cases hh:N.lookup (c::x) with
   |none=>exact absurd hh hl
   |some _=>rfl
  rw[e];exact T.nm.dict
end
def bz(N D:BD):T→By→Option (Option By)
 |.leaf v,p=>if (D.lookup (nm N (.leaf v))).isSome then some (if p=[] then some v else none) else none
 |.kv b t,p=>if (D.lookup (nm N (.kv b t))).isSome then (if p=[] then some none else if p.take b.length=b then bz N D t (p.drop b.length) else some none) else none
 |.br l r,p=>if (D.lookup (nm N (.br l r))).isSome then (if p=[] then some none else if p.take 1=[0] then bz N D l (p.drop 1) else bz N D r (p.drop 1)) else none
def cz:Option By→AV|some b=>.bytes b|none=>.none
theorem oE(hN:NmOk N)(hD:gh N D)(hn:Named N t h)(hs:(D.lookup (nm N t)).isSome=true):D.lookup h=some (tx N t):=by
 rw[hn.nm] at hs
 obtain⟨x,e⟩:=wz.mp hs
 rw[e,hN.inj _ _ _ (hD _ _ e) hn.ltx]
theorem uZ(h:bz N D t p=some o):(D.lookup (nm N t)).isSome=true:=by
 cases t<;>(unfold bz at h;split at h<;>first|assumption|cases h)
section
variable {X:Cx} {A:Around} {E:Value→Shared→Prop} {env:Env} {m:Mp} {σ:St} {Q:AV→St→Prop}
theorem vu(hX:Base X)(hm:m x=some (.bytes p))(hmy:m y=some (.bytes b))(hzp:p.length≤65536)(hz:b.length≤65536)(hk:env.kindOf "len"=some .globalImplicit)(hg:env.globals=mainGlobals)(hb:env.builtins=builtinsNs)(h:Q (.bytes (p.drop b.length)) σ)
  (hd:(x==("__debug__":Str))=false:=by rfl)(hc:(x==("__classdict__":Str))=false:=by rfl)(hd':(y==("__debug__":Str))=false:=by rfl)(hc':(y==("__classdict__":Str))=false:=by rfl):
  Ev X A E env m (.Subscript (.Name x p1) (.Slice (some (.Call (.Name "len" p2) [.Name y p3] [] p4)) none none p5) p6) σ Q:=by
 refine aC<|ap (hd:=hd) (hc:=hc) hm<|bP (lower:=some _) (upper:=none)<|fY hX (hd:=hd') (hc:=hc') hmy (by omega) hk hg hb ⟨_,rfl,cr (by omega) ?_⟩
 rw[dp];exact h
theorem n8(hX:Base X)(hm:m x=some (.bytes p))(hmy:m y=some (.bytes b))(hzp:p.length≤65536)(hz:b.length≤65536)(hk:env.kindOf "len"=some .globalImplicit)(hg:env.globals=mainGlobals)(hb:env.builtins=builtinsNs)(h:Q (.bytes (p.take b.length)) σ)
  (hd:(x==("__debug__":Str))=false:=by rfl)(hc:(x==("__classdict__":Str))=false:=by rfl)(hd':(y==("__debug__":Str))=false:=by rfl)(hc':(y==("__classdict__":Str))=false:=by rfl):
  Ev X A E env m (.Subscript (.Name x p1) (.Slice none (some (.Call (.Name "len" p2) [.Name y p3] [] p4)) none p5) p6) σ Q:=by
 refine aC<|ap (hd:=hd) (hc:=hc) hm<|bP (lower:=none) (upper:=some _)<|fY hX (hd:=hd') (hc:=hc') hmy (by omega) hk hg hb ⟨_,rfl,cr (by omega) ?_⟩
 rw[gA];exact h
theorem kG(hm:m x=some (.bytes p))(hzp:p.length≤65536)(h:Q (.bytes (p.drop 1)) σ)
  (hd:(x==("__debug__":Str))=false:=by rfl)(hc:(x==("__classdict__":Str))=false:=by rfl):
  Ev X A E env m (.Subscript (.Name x p1) (.Slice (some (.Constant (.int 1) k1 p7)) none none p5) p6) σ Q:=by
 refine aC<|ap (hd:=hd) (hc:=hc) hm<|bP (lower:=some _) (upper:=none)<|av ⟨_,rfl,cr (by omega) ?_⟩
 have:=dp (l:=p) 1
 rw[show((1:Nat):Int)=1 from rfl] at this
 rw[this];exact h
theorem nX(hm:m x=some (.bytes p))(hzp:p.length≤65536)(h:Q (.bytes (p.take 1)) σ)
  (hd:(x==("__debug__":Str))=false:=by rfl)(hc:(x==("__classdict__":Str))=false:=by rfl):
  Ev X A E env m (.Subscript (.Name x p1) (.Slice none (some (.Constant (.int 1) k1 p7)) none p5) p6) σ Q:=by
 refine aC<|ap (hd:=hd) (hc:=hc) hm<|bP (lower:=none) (upper:=some _)<|av ⟨_,rfl,cr (by omega) ?_⟩
 have:=gA (l:=p) 1
 rw[show((1:Nat):Int)=1 from rfl] at this
 rw[this];exact h
theorem dU(hX:Base X):aV X σ (.ref 228):=by obtain⟨_,_,F'⟩:=hX.f_parse;exact F'.keep
end
section
variable {X:Cx} {σ:St} {z:Nat} {a dx f d db:Addr} {r:By} {N D:BD} (hX:Base5 X)
include hX
theorem rD(T0:Tri z σ a dx f d db r N D)(hN:NmOk N)(hD:gh N D):∀{t:T} {n:Nat} {h p:By} {o:Option By} {Q:AV→St→Prop},WF n t→n≤64→ck t→p.length≤n→Named N t h→bz N D t p=some o→Q (cz o) σ→CallOk X (20+n) (.ref 306) [.ref a,.bytes h,.bytes p] σ Q
 |.leaf v,n,h,p,o,Q,hw,hn,hs,hp,hh,hg,hq=>by
  have hdb:=oE hN hD hh (uZ hg)
  have hbl:(h==blank)=false:=ba.mpr (hN.blank _ _ hh.ltx)
  have hv:v.length≤16:=hs
  obtain⟨code,pm,F⟩:=hX.m__get
  refine CallOk.deep (bG (k:=17+2) F ["self","node_hash","keypath"] (bk ["self","node_hash","keypath"] λvs hv=>?_) (by rfl) λA L hA=>?_) (by omega)
  ·match vs,hv with|[v,w,u],_=>rfl
  refine ag<|az<|ar<|ab (.bytes h)<|eg hX.g_BLANK<|bJ ⟨_,rfl,?_⟩
  rw[hbl]
  refine aB<|ag<|aE<|au<|eg hX.g_parse<|ad<|aC<|dq hX T0 (by rfl)<|ab (.bytes h)<|cg T0.dbt hdb<|ak ⟨dU hX.toBase,aw (km hX.toBase (by omega) hw.2 ?_) hA.mo⟩
  refine bV hA.handled (by rfl) (by rfl)<|aF<|aq<|aF<|aq<|aF<|aq<|bW ?_
  refine ag<|az<|ar<|ab (.int 2)<|eg hX.g_LEAF<|aU ⟨_,rfl,?_⟩
  refine ag<|az<|cJ (ab (.bytes p)<|dP (by omega) ?_) (by rfl)
  unfold bz at hg
  rw[ah (by rw[hh.nm,hdb];rfl)] at hg
  cases p with
  |nil=>
   rw[ah rfl] at hg;cases hg
   exact aB<|ag<|aZ<|ab (.bytes v) hq
  |cons c p=>
   rw[ae (by simp)] at hg;cases hg
   exact ag<|aZ<|dJ hq
 |.kv b t,n,h,p,o,Q,hw,hn,hs,hp,hh,hg,hq=>by
  have hdb:=oE hN hD hh (uZ hg)
  have hbl:(h==blank)=false:=ba.mpr (hN.blank _ _ hh.ltx)
  obtain⟨h',hh',hl⟩:=id hh
  have etx:tx N (.kv b t)=aM b h':=by show aM b (nm N t)=_;rw[hh'.nm]
  rw[etx] at hdb
  obtain⟨hb,hbits,hk,n',en,hw'⟩:=id hw
  have hb1:1≤b.length:=by cases b with|nil=>exact absurd rfl hb|cons _ _=>simp
  obtain⟨code,pm,F⟩:=hX.m__get
  refine CallOk.deep (bG (k:=19+n) F ["self","node_hash","keypath"] (bk ["self","node_hash","keypath"] λvs hv=>?_) (by rfl) λA L hA=>?_) (by omega)
  ·match vs,hv with|[v,w,u],_=>rfl
  refine ag<|az<|ar<|ab (.bytes h)<|eg hX.g_BLANK<|bJ ⟨_,rfl,?_⟩
  rw[hbl]
  refine aB<|ag<|aE<|au<|eg hX.g_parse<|ad<|aC<|dq hX T0 (by rfl)<|ab (.bytes h)<|cg T0.dbt hdb<|ak ⟨dU hX.toBase,aw (i6 hX.toBase (by omega) hbits (hN.len _ _ hh'.ltx) ?_) hA.mo⟩
  refine bV hA.handled (by rfl) (by rfl)<|aF<|aq<|aF<|aq<|aF<|aq<|bW ?_
  refine ag<|az<|ar<|ab (.int 0)<|eg hX.g_LEAF<|aU ⟨_,rfl,?_⟩
  refine ag<|az<|ar<|ab (.int 0)<|eg hX.g_KV<|aU ⟨_,rfl,?_⟩
  refine ag<|az<|fE<|cJ (ab (.bytes p)<|dP (by omega) ?_) (by rfl)
  unfold bz at hg
  rw[ah (by rw[hh.nm,hdb];rfl)] at hg
  cases hp0:p with
  |nil=>
   subst hp0
   rw[ah rfl] at hg;cases hg
   exact ag<|aZ<|dJ hq
  |cons c p1=>
   rw[ae (by rw[hp0];simp)] at hg
   rw[←hp0]
   rw[show(!!p.isEmpty)=false from by rw[hp0];rfl]
   refine aB<|ag<|az<|ar<|n8 hX.toBase (p:=p) (b:=b) (by rfl) (by rfl) (by omega) (by omega) (by rfl) rfl rfl<|ab (.bytes b)<|bJ ⟨_,rfl,?_⟩
   by_cases hc:p.take b.length=b
   ·rw[show(List.take b.length p==b)=true from bd.mpr hc,ah rfl]
    rw[ah hc] at hg
    refine ag<|aZ<|cy (ab (.ref a)<|cD hX T0 (by simp[b8])<|ad<|ab (.bytes h')<|ad<|vu hX.toBase (p:=p) (b:=b) (by rfl) (by rfl) (by omega) (by omega) (by rfl) rfl rfl<|ak ⟨hX.m__get.keep,aw (rD T0 hN hD hw' (by omega) hs (by rw[bA];omega) hh' hg hq) hA.mo⟩) (by rfl)
   ·rw[show(List.take b.length p==b)=false from ba.mpr hc,ae aT]
    rw[ae hc] at hg;cases hg
    exact ag<|aZ<|dJ hq
 |.br l rr,n,h,p,o,Q,hw,hn,hs,hp,hh,hg,hq=>by
  have hdb:=oE hN hD hh (uZ hg)
  have hbl:(h==blank)=false:=ba.mpr (hN.blank _ _ hh.ltx)
  obtain⟨hl,hr,hhl,hhr,hlk⟩:=id hh
  have etx:tx N (.br l rr)=aO hl hr:=by show aO (nm N l) (nm N rr)=_;rw[hhl.nm,hhr.nm]
  rw[etx] at hdb
  obtain⟨n',en,hwl,hwr⟩:=id hw
  obtain⟨code,pm,F⟩:=hX.m__get
  refine CallOk.deep (bG (k:=19+n) F ["self","node_hash","keypath"] (bk ["self","node_hash","keypath"] λvs hv=>?_) (by rfl) λA L hA=>?_) (by omega)
  ·match vs,hv with|[v,w,u],_=>rfl
  refine ag<|az<|ar<|ab (.bytes h)<|eg hX.g_BLANK<|bJ ⟨_,rfl,?_⟩
  rw[hbl]
  refine aB<|ag<|aE<|au<|eg hX.g_parse<|ad<|aC<|dq hX T0 (by rfl)<|ab (.bytes h)<|cg T0.dbt hdb<|ak ⟨dU hX.toBase,aw (i7 hX.toBase (hN.len _ _ hhl.ltx) (hN.len _ _ hhr.ltx) ?_) hA.mo⟩
  refine bV hA.handled (by rfl) (by rfl)<|aF<|aq<|aF<|aq<|aF<|aq<|bW ?_
  refine ag<|az<|ar<|ab (.int 1)<|eg hX.g_LEAF<|aU ⟨_,rfl,?_⟩
  refine ag<|az<|ar<|ab (.int 1)<|eg hX.g_KV<|aU ⟨_,rfl,?_⟩
  refine ag<|az<|ar<|ab (.int 1)<|eg hX.g_BR<|aU ⟨_,rfl,?_⟩
  refine ag<|az<|fE<|cJ (ab (.bytes p)<|dP (by omega) ?_) (by rfl)
  unfold bz at hg
  rw[ah (by rw[hh.nm,hdb];rfl)] at hg
  cases hp0:p with
  |nil=>
   subst hp0
   rw[ah rfl] at hg;cases hg
   exact ag<|aZ<|dJ hq
  |cons c p1=>
   rw[ae (by rw[hp0];simp)] at hg
   rw[←hp0]
   rw[show(!!p.isEmpty)=false from by rw[hp0];rfl]
   refine aB<|ag<|az<|ar<|nX (p:=p) (by rfl) (by omega)<|eg hX.g_B0<|bJ ⟨_,rfl,?_⟩
   by_cases hc:p.take 1=[0]
   ·rw[show(List.take 1 p==[0])=true from bd.mpr hc,ah rfl]
    rw[ah hc] at hg
    refine ag<|aZ<|cy (ab (.ref a)<|cD hX T0 (by simp[b8])<|ad<|ab (.bytes hl)<|ad<|kG (p:=p) (by rfl) (by omega)<|ak ⟨hX.m__get.keep,aw (rD T0 hN hD hwl (by omega) hs.1 (by rw[bA];omega) hhl hg hq) hA.mo⟩) (by rfl)
   ·rw[show(List.take 1 p==[0])=false from ba.mpr hc,ae aT]
    rw[ae hc] at hg
    refine ag<|aZ<|cy (ab (.ref a)<|cD hX T0 (by simp[b8])<|ad<|ab (.bytes hr)<|ad<|kG (p:=p) (by rfl) (by omega)<|ak ⟨hX.m__get.keep,aw (rD T0 hN hD hwr (by omega) hs.2 (by rw[bA];omega) hhr hg hq) hA.mo⟩) (by rfl)
theorem y4(T0:Tri z σ a dx f d db r N D)(hN:NmOk N)(hD:gh N D)(hw:WF n t)(hn:n≤64)(hs:ck t)(hp:8 * x.length≤n)(hh:Named N t r)(hg:bz N D t (aA x)=some o)(hq:Q (cz o) σ):CallOk X (21+n) (.ref 299) [.ref a,.bytes x] σ Q:=by
 obtain⟨code,pm,F⟩:=hX.m_get
 have ke:aV X σ (.ref 172):=by obtain⟨_,_,F'⟩:=hX.f_etb;exact F'.keep
 have kv:aV X σ (.ref 200):=by obtain⟨_,_,F'⟩:=hX.f_vib;exact F'.keep
 have hl:(aA x).length=8 * x.length:=by unfold aA;rw[bB,nz]
 refine CallOk.deep (bG (k:=20+n) F ["self","key"] (bk ["self","key"] λvs hv=>?_) (by rfl) λA L hA=>?_) (by omega)
 ·match vs,hv with|[v,w],_=>rfl
 refine ag<|cV<|au<|eg hX.g_vib<|ad<|ab (.bytes x)<|ak ⟨kv,aw (eE hX.toBase ?_) hA.mo⟩
 exact ag<|aZ<|cy (ab (.ref a)<|cD hX T0 (by simp[b8])<|ad<|qM hX T0 (by rfl)<|ad<|au<|eg hX.g_etb<|ad<|ab (.bytes x)<|ak ⟨ke,aw (kL hX.toBase (by omega)<|ak ⟨hX.m__get.keep,aw (rD hX T0 hN hD hw hn hs (by omega) hh hg hq) hA.mo⟩) hA.mo⟩) (by rfl)
end
def KA(n:Nat)(N D:BD)(t:T)(h q:By):Prop:=∀p',p'.length=n→aQ p'→p'.take q.length=q→K N D t h p'
theorem KA.mono(x:KA n N D t h q)(s:BD.Sub N N')(d:BD.Sub D D'):KA n N' D' t h q:=λp' a b c=>(x p' a b c).mono s d
theorem fR{p q:By}(k:Nat)(h:p.take q.length=q):(p.drop k).take (q.drop k).length=q.drop k:=by
 rw[bA,←List.drop_take,h]
theorem yF{p q b p2:By}(hb:p.take b.length=b)(h:p.take q.length=q)(h2:p2.take (q.drop b.length).length=q.drop b.length):(b++p2).take q.length=q:=by
 rcases iZ q.length b.length with l|l
 ·rw[List.take_append_of_le_length l]
  have:(p.take b.length).take q.length=b.take q.length:=by rw[hb]
  rw[←this,hU,eu l,h]
 ·rw[List.take_append,iP l]
  rw[bA] at h2
  rw[h2]
  have:(p.take q.length).take b.length=q.take b.length:=by rw[h]
  rw[hU,eu l,hb] at this
  rw (occs:=.pos [1]) [this]
  exact dC _ _
theorem eU(h:aQ b)(k:Nat):aQ (b.drop k):=λc hc=>h c (mN hc)
theorem qR(h:aQ b)(k:Nat):aQ (b.take k):=λc hc=>h c (wM hc)
structure SPre(n:Nat)(N D:BD)(t:T)(h p v q:By):Prop where
 wf:WF n t
 n64:n≤64
 short:ck t
 len:p.length=n
 bits:aQ p
 vz:v.length≤16
 ka:KA n N D t h q
 pre:p.take q.length=q
 oth:v=[]→q=[]∨∃p2,p2.length=n∧aQ p2∧p2≠p∧p2.take q.length=q∧look t p2≠none
theorem SPre.k{n N D t h p v q}(S:SPre n N D t h p v q):K N D t h p:=S.ka p S.len S.bits S.pre
theorem SPre.some_{n N D t h p v q}(S:SPre n N D t h p v q)(hq:q≠[]):upd t p v≠none:=λe=>by
 have:=fC S.wf S.len S.bits (v:=v)
 rw[e] at this
 obtain⟨hv,hall⟩:=this
 rcases S.oth hv with h|⟨p2,a,b,c,_,e⟩
 ·exact hq h
 ·exact e (hall p2 a b c)
theorem SPre.kv{n N D b t h p v q}(S:SPre n N D (.kv b t) h p v q)(hm:p.take b.length=b):
  ∃h' n',n=b.length+n'∧Named N t h'∧N.lookup (aM b h')=some h∧D.lookup h=some (aM b h')∧SPre n' N D t h' (p.drop b.length) v (q.drop b.length):=by
 obtain⟨h',k1,k2,k3,k4⟩:=S.k
 obtain⟨hb,hbits,hk,n',en,hw'⟩:=id S.wf
 have h64:=S.n64
 have hl:=S.len
 refine⟨h',n',en,k1,k2,k3,⟨hw',by omega,S.short,by rw[bA];omega,eU S.bits _,S.vz,λp' a b' c=>?_,fR _ S.pre,λhv=>?_⟩⟩
 ·obtain⟨h2,j1,j2,j3,j4⟩:=S.ka (b++p') (by rw[bg];omega) (fT hbits b') (yF hm S.pre c)
  have:=k1.fn j1;subst this
  have:=j4 (uu rfl)
  rwa [mY rfl] at this
 ·rcases S.oth hv with h0|⟨p2,a,b',c,d,e⟩
  ·left;rw[h0,List.drop_nil]
  ·right
   rw[eX] at e
   by_cases hm2:p2.take b.length=b
   ·rw[ah hm2] at e
    refine⟨p2.drop b.length,by rw[bA];omega,eU b' _,λq'=>c ?_,fR _ d,e⟩
    rw[←dC b.length p2,←dC b.length p,hm,hm2,q']
   ·rw[ae hm2] at e;exact absurd rfl e
theorem SPre.br{n N D l r h p v q}(S:SPre n N D (.br l r) h p v q):
  ∃hl hr n',n=n'+1∧Named N l hl∧Named N r hr∧N.lookup (aO hl hr)=some h∧D.lookup h=some (aO hl hr)∧
   (if p.take 1=[0] then SPre n' N D l hl (p.drop 1) v (q.drop 1) else SPre n' N D r hr (p.drop 1) v (q.drop 1))∧
   (∀p',p'.length=n→aQ p'→p'.take q.length=q→if p'.take 1=[0] then K N D l hl (p'.drop 1) else K N D r hr (p'.drop 1)):=by
 obtain⟨hl,hr,k1,k2,k3,k4,k5⟩:=S.k
 obtain⟨n',en,hwl,hwr⟩:=id S.wf
 have h64:=S.n64
 have hlen:=S.len
 have all:∀p',p'.length=n→aQ p'→p'.take q.length=q→if p'.take 1=[0] then K N D l hl (p'.drop 1) else K N D r hr (p'.drop 1):=λp' a b c=>by
  obtain⟨hl',hr',j1,j2,j3,j4,j5⟩:=S.ka p' a b c
  have:=k1.fn j1;subst this
  have:=k2.fn j2;subst this
  exact j5
 refine⟨hl,hr,n',en,k1,k2,k3,k4,?_,all⟩
 obtain⟨x,p1,hp⟩:∃x p1,p=x::p1:=by
  cases p with
  |nil=>simp at hlen;omega
  |cons x p1=>exact⟨x,p1,rfl⟩
 have hx:p.take [x].length=[x]:=by rw[hp];rfl
 have ext:∀p',p'.take (q.drop 1).length=q.drop 1→([x]++p').take q.length=q:=λp' c=>yF hx S.pre c
 have lk:∀(p2:By),look (.br l r) (x::p2)=if x=0 then look l p2 else look r p2:=λp2=>rfl
 have oth':v=[]→q.drop 1=[]∨∃p2:By,p2.length=n'∧aQ p2∧p2≠p1∧p2.take (q.drop 1).length=q.drop 1∧look (.br l r) (x::p2)≠none:=λhv=>by
  rcases S.oth hv with h0|⟨p2,a,b',c,d,e⟩
  ·left;rw[h0];rfl
  ·cases hq:q with
   |nil=>left;rfl
   |cons y q1=>
    right
    cases p2 with
    |nil=>simp at a;omega
    |cons y2 p2=>
     have e1:=S.pre
     rw[hq,hp] at e1
     rw[hq] at d
     simp only[bc,gj,gv] at e1 d
     have:y2=x:=d.1.trans e1.1.symm
     subst this
     refine⟨p2,by simp at a;omega,λc hc=>b' c (aR _ hc),λq'=>c (by rw[hp,q']),by simpa using d.2,e⟩
 have bp1:aQ p1:=λc hc=>S.bits c (by rw[hp];exact aR _ hc)
 have bx:x=0∨x=1:=S.bits x (by rw[hp];exact bj)
 have hl1:p1.length=n':=by rw[hp] at hlen;simp at hlen;omega
 have pd:p.drop 1=p1:=by rw[hp];rfl
 have pt:p.take 1=[x]:=by rw[hp];rfl
 rw[pd,pt]
 split
 ·rename_i e;cases e
  refine⟨hwl,by omega,S.short.1,hl1,bp1,S.vz,λp' a b c=>?_,by have:=fR 1 S.pre;rwa [pd] at this,λhv=>?_⟩
  ·have:=all ([0]++p') (by simp;omega) (il (.inl rfl) b) (ext p' c)
   rwa [ah (by rfl)] at this
  ·rcases oth' hv with h0|⟨p2,a,b,c,d,e⟩
   ·exact .inl h0
   ·rw[lk,ah rfl] at e;exact .inr ⟨p2,a,b,c,d,e⟩
 ·rename_i e
  have hx0:x≠0:=λq=>e (by rw[q])
  refine⟨hwr,by omega,S.short.2,hl1,bp1,S.vz,λp' a b c=>?_,by have:=fR 1 S.pre;rwa [pd] at this,λhv=>?_⟩
  ·have:=all ([x]++p') (by simp;omega) (il bx b) (ext p' c)
   rwa [ae (by show ¬[x]=[0];exact e)] at this
  ·rcases oth' hv with h0|⟨p2,a,b,c,d,e⟩
   ·exact .inl h0
   ·rw[lk,ae hx0] at e;exact .inr ⟨p2,a,b,c,d,e⟩
def vX(N1 N2 D2:BD)(b h1 h2:By):T→Prop
 |.kv b1 t2=>∃h3,Named N1 t2 h3∧N2.lookup (aM (b++b1) h3)=some h2∧D2.lookup h2=some (aM (b++b1) h3)
 |_=>N2.lookup (aM b h1)=some h2∧D2.lookup h2=some (aM b h1)
theorem uL(h:ck t):ck (fZ b t):=by cases t<;>exact h
theorem kB:∀{t:T} {p v:By} {t':T},ck t→v.length≤16→upd t p v=some t'→ck t'
 |.leaf _,p,v,t',hs,hv,h=>by
  unfold upd at h;split at h
  ·cases h
  ·cases h;exact hv
 |.kv b t,p,v,t',hs,hv,h=>by
  unfold upd at h;split at h
  ·cases hu:upd t (p.drop b.length) v with
   |none=>rw[hu] at h;cases h
   |some t1=>rw[hu] at h;cases h;exact uL (kB (t:=t) hs hv hu)
  ·split at h
   ·cases h;exact hs
   ·cases h
    have hvl:ck (eL p v (aN b p)):=by unfold eL;split<;>exact hv
    have hol:ck (dO b t (aN b p)):=by unfold dO;split<;>exact hs
    have hsub:ck (eK b t p v (aN b p)):=by
     unfold eK;split
     ·exact⟨hol,hvl⟩
     ·exact⟨hvl,hol⟩
    unfold fX;split<;>exact hsub
 |.br l r,p,v,t',hs,hv,h=>by
  unfold upd at h;split at h
  ·split at h
   ·rename_i l' hu;cases h;exact⟨kB (t:=l) hs.1 hv hu,hs.2⟩
   ·cases h;exact uL hs.2
  ·split at h
   ·rename_i l' hu;cases h;exact⟨hs.1,kB (t:=r) hs.2 hv hu⟩
   ·cases h;exact uL hs.1
theorem vM(s:BD.Sub N N')(d:BD.Sub D D')(hk:p'.take b.length=b→K N D t1 h1 (p'.drop b.length))
  (hn:Named N t1 h1)(hw:vX N N' D' b h1 h2 t1):
  K N' D' (fZ b t1) h2 p':=by
 cases t1 with
 |kv b1 t2=>
  obtain⟨h3,a1,a2,a3⟩:=hw
  refine⟨h3,a1.mono s,a2,a3,λe=>?_⟩
  have e1:p'.take b.length=b:=by
   have:=dl (List.take b.length) e
   rw[hU,eu (by simp),uu rfl] at this
   exact this
  have e2:(p'.drop b.length).take b1.length=b1:=by
   have:=dl (List.drop b.length) e
   rw[List.drop_take,mY rfl,bg,Nat.add_sub_cancel_left] at this
   exact this
  obtain⟨h4,k1,k2,k3,k4⟩:=hk e1
  have:=a1.fn k1;subst this
  have:=(k4 e2).mono s d
  rwa [hO,←bg] at this
 |leaf v=>exact⟨h1,hn.mono s,hw.1,hw.2,λe=>(hk e).mono s d⟩
 |br l r=>exact⟨h1,hn.mono s,hw.1,hw.2,λe=>(hk e).mono s d⟩
theorem Db{N D:BD}{n:Nat}{b p v p':By}{t:T}{hv ho hs h2:By}(hb:aQ b)(hpl:p.length=n)(hpb:aQ p)(hp':p'.length=n)(hpb':aQ p')(hc:aN b p<b.length)(hcp:aN b p<p.length)
  (h1:∀p'',K N D (eL p v (aN b p)) hv p'')(h2o:p'.take (aN b p+1)=b.take (aN b p+1)→K N D (dO b t (aN b p)) ho (p'.drop (aN b p+1)))
  (hon:Named N (dO b t (aN b p)) ho)
  (hsn:N.lookup (if (p.drop (aN b p)).take 1=[1] then aO ho hv else aO hv ho)=some hs)(hsd:D.lookup hs=some (if (p.drop (aN b p)).take 1=[1] then aO ho hv else aO hv ho))
  (he:if aN b p=0 then h2=hs else N.lookup (aM (b.take (aN b p)) hs)=some h2∧D.lookup h2=some (aM (b.take (aN b p)) hs)):K N D (fX b t p v (aN b p)) h2 p':=by
 generalize hcc:aN b p=c at *
 have hpart:=vn (a:=b) (b:=p) (by rw[hcc];exact hc) (by rw[hcc];exact hcp)
 rw[hcc] at hpart
 have hvn:=(h1 []).named
 have subN:Named N (eK b t p v c) hs:=by
  unfold eK
  split
  ·rename_i e;rw[ah e] at hsn;exact⟨ho,hv,hon,hvn,hsn⟩
  ·rename_i e;rw[ae e] at hsn;exact⟨hv,ho,hvn,hon,hsn⟩
 have one:∀(w:By) (i:Nat),i<w.length→(w.drop i).take 1=[w.getD i 0]∧w[i]?=some (w.getD i 0):=λw i hi=>by
  have e1:w[i]?=some (w.getD i 0):=by rw[c8 hi,fj,c8 hi];rfl
  refine⟨?_,e1⟩
  rw[wy hi,gj,List.take_zero,fj,c8 hi];rfl
 obtain⟨bo,bo'⟩:=one b c hc
 obtain⟨po,po'⟩:=one p c hcp
 obtain⟨qo,qo'⟩:=one p' c (by omega)
 rw[bo',po'] at hpart
 have memg:∀(w:By) (i:Nat),i<w.length→w.getD i 0∈w:=λw i hi=>wP (one w i hi).2
 have bb:=hb _ (memg b c hc)
 have pb:=hpb _ (memg p c hcp)
 have qb:=hpb' _ (memg p' c (by omega))
 have full:p'.take c=b.take c→p'.getD c 0=b.getD c 0→p'.take (c+1)=b.take (c+1):=λe1 e2=>by
  rw[uj,uj,e1,qo',bo',e2]
 have subK:p'.take c=b.take c→K N D (eK b t p v c) hs (p'.drop c):=λe=>by
  unfold eK
  rw[po] at hsn hsd ⊢
  split
  ·rename_i q
   rw[ah q] at hsn hsd
   refine⟨ho,hv,hon,hvn,hsn,hsd,?_⟩
   rw[qo,hO]
   split
   ·rename_i q2
    refine h2o (full e ?_)
    have e1:p'.getD c 0=0:=by simpa using q2
    have e2:p.getD c 0=1:=by simpa using q
    rw[e1]
    rcases bb with h|h
    ·exact h.symm
    ·exact absurd (by rw[h,e2]) hpart
   ·exact h1 _
  ·rename_i q
   rw[ae q] at hsn hsd
   refine⟨hv,ho,hvn,hon,hsn,hsd,?_⟩
   rw[qo,hO]
   split
   ·exact h1 _
   ·rename_i q2
    refine h2o (full e ?_)
    have e1:p'.getD c 0=1:=by
     rcases qb with h|h
     ·exact absurd (by rw[h]) q2
     ·exact h
    have e2:p.getD c 0=0:=by
     rcases pb with h|h
     ·exact h
     ·exact absurd (by rw[h]) q
    rw[e1]
    rcases bb with h|h
    ·exact absurd (by rw[h,e2]) hpart
    ·exact h.symm
 unfold fX
 split
 ·rename_i q
  rw[ah q] at he
  subst he
  have:=subK (by rw[q];rfl)
  rwa [q] at this ⊢
 ·rename_i q
  rw[ae q] at he
  have hl:(b.take c).length=c:=by rw[eq];omega
  exact⟨hs,subN,he.1,he.2,λe=>by rw[hl] at e ⊢;exact subK e⟩
structure Stt(z:Nat)(a dx f d db:Addr)(r:By)(σ0 σ:St)(N D:BD)(c:Nat):Prop where
 tri:Tri z σ a dx f d db r N D
 ok:SOk N D
 only:Only σ0 σ [d,db]
 n:N.length+c≤60000
 m:D.length+c≤60000
theorem Stt.less{z a dx f d db r}(S:Stt z a dx f d db r σ0 σ N D c)(h:c'≤c):Stt z a dx f d db r σ0 σ N D c':=⟨S.tri,S.ok,S.only,by have:=S.n;omega,by have:=S.m;omega⟩
def SP(z:Nat)(a dx f d db:Addr)(r:By)(σ0:St)(n:Nat)(N D:BD)(q:By)(ot:Option T)(c:Nat)(V:AV)(σ':St):Prop:=∃N' D',Stt z a dx f d db r σ0 σ' N' D' c∧BD.Sub N N'∧BD.Sub D D'∧match ot with|none=>V=.bytes blank|some t'=>∃h',V=.bytes h'∧KA n N' D' t' h' q
section
variable {X:Cx} {A:Around} {E:Value→Shared→Prop} {P:Pv} {env:Env} {m:Mp} {σ:St}
theorem Ex.mono{st:Stmt}{Q Q':AFl→Mp→St→Prop}(h:Ex X A E P env m st σ Q)(k:∀F m σ',Q F m σ'→Q' F m σ'):Ex X A E P env m st σ Q':=λg s S F=>
 aj (h g s S F) (λ_ _ ⟨g',Fl,m',σ',G,F',rf,q⟩=>⟨g',Fl,m',σ',G,F',rf,k _ _ _ q⟩) i2
theorem Exs.mono{st:List Stmt}{Q Q':AFl→Mp→St→Prop}(h:Exs X A E P env m st σ Q)(k:∀F m σ',Q F m σ'→Q' F m σ'):Exs X A E P env m st σ Q':=λg s S F=>
 aj (h g s S F) (λ_ _ ⟨g',Fl,m',σ',G,F',rf,q⟩=>⟨g',Fl,m',σ',G,F',rf,k _ _ _ q⟩) i2
variable {Q:AV→St→Prop} {z:Nat} {a dx f d db:Addr} {r:By} {σ0:St} (hX:Base5 X)
include hX
theorem dK(hm:m "self"=some (.ref a))(hA:Room A 4)(T0:Tri z σ a dx f d db r N0 D0)
  (h:Ev X A ai env m arg σ λV σ₁=>∃b x N D c,V=.bytes (b::x)∧(b=0∨b=1∨b=2)∧x.length≤4096∧Stt z a dx f d db r σ0 σ₁ N D (c+1)∧∀σ' N' D' h',Stt z a dx f d db r σ0 σ' N' D' c→BD.Sub N N'→BD.Sub D D'→N'.lookup (b::x)=some h'→D'.lookup h'=some (b::x)→Q (.bytes h') σ')
  (he:starEach [arg] env=(false,eval arg env)::starEach [] env:=by rfl)
  (hc:eval (.Call (.Attribute (.Name "self" p1) "_hash_and_save" p2) [arg] [] p3) env=(do
   let ov ←eval (.Name "self" p1) env
   standAt p2.atName
   let (f,first) ←holding [ov] (getMethod ov "_hash_and_save" pl)
   callWith p3 f first (backTo p3 (starEach [arg] env)) []):=by rfl):Ev X A ai env m (.Call (.Attribute (.Name "self" p1) "_hash_and_save" p2) [arg] [] p3) σ Q:=by
 refine cy (ap (V:=.ref a) hm<|cD hX T0 (by simp[b8])<|ad (Ev.mono h λV σ₁ ⟨b,x,N,D,c,e,hb,hx,S,hq⟩=>ak ⟨hX.m_has.keep,?_⟩) he) hc (by rw[he];rfl)
 subst e
 have h1:=S.n
 have h2:=S.m
 refine aw (EL hX S.tri hb hx (by omega) (by omega) λσ' o t=>?_) hA
 obtain⟨w,sd⟩:=S.ok.save (b::x) (by omega)
 obtain⟨_,sn,g,l1,l2⟩:=S.ok.W.add (b::x) (by omega)
 have l3:=kq (x:=cb N (b::x)) (v:=b::x) D
 exact hq σ' _ _ _ ⟨t,w,S.only.trans o,by omega,by omega⟩ sn sd g yg
theorem uG(hm:m x=some (.bytes v))(hz:v.length≤4096)(hv:v≠[])(hA:Room A 2)(hk:env.kindOf "encode_leaf_node"=some .globalImplicit)(hg:env.globals=mainGlobals)(hb:env.builtins=builtinsNs)(h:Q (.bytes (bZ v)) σ)
  (hd:(x==("__debug__":Str))=false:=by rfl)(hc:(x==("__classdict__":Str))=false:=by rfl):Ev X A ai env m (.Call (.Name "encode_leaf_node" p1) [.Name x p2] [] p3) σ Q:=by
 have kv:aV X σ (.ref 249):=by obtain⟨_,_,F'⟩:=hX.f_elf;exact F'.keep
 exact au<|im hX.g_elf hk hg hb<|ad<|ap (hd:=hd) (hc:=hc) hm<|ak ⟨kv,aw (ET hX.toBase hz hv h) hA⟩
theorem gB:aV X σ (.ref 235):=by obtain⟨_,_,F'⟩:=hX.f_ekv;exact F'.keep
theorem vf:aV X σ (.ref 242):=by obtain⟨_,_,F'⟩:=hX.f_ebr;exact F'.keep
theorem CY:aV X σ (.ref 221):=by obtain⟨_,_,F'⟩:=hX.f_gcp;exact F'.keep
end
def f3(X:Cx)(z:Nat)(a dx f d db:Addr)(r:By)(n:Nat)(t:T):Prop:=∀{p v q:By} {σ0 σ:St} {N D:BD} {h:By} {c:Nat} {Q:AV→St→Prop} (al:List AV),SPre n N D t h p v q→Stt z a dx f d db r σ0 σ N D (c+6 * (n+1))→(al=[]∨al=[.bool false])→
 (∀V σ',SP z a dx f d db r σ0 n N D q (upd t p v) c V σ'→Q V σ')→CallOk X (20+2 * n) (.ref 321) ([.ref a,.bytes h,.bytes p,.bytes v]++al) σ Q
theorem gD(hb:b.length≤64)(hh:h.length=32):(bR b++h).length≤4096:=by
 have:=rC b;rw[bg];omega
section
variable {X:Cx} {σ:St} {z:Nat} {a dx f d db:Addr} {r:By} (hX:Base5 X)
include hX
theorem vI(hal:al=[]∨al=[.bool false])
  (hb:∀code pm dflt A L,Room A k→Exs X A ai (ax L (callEnvC (cP (be 4) "BinaryTrie._set" code pm dflt) L 321)) (callEnvC (cP (be 4) "BinaryTrie._set" code pm dflt) L 321) (cF ["self","node_hash","keypath","value","if_delete_subtrie"] [.ref a,.bytes h,.bytes p,.bytes v,.bool false] Mp.nil) (cj (be 4)) σ λFl _ σ'=>match Fl with|.ret V=>Q V σ'|.next=>Q .none σ'|_=>False):
  CallOk X (k+1) (.ref 321) ([.ref a,.bytes h,.bytes p,.bytes v]++al) σ Q:=by
 obtain⟨T,o,n,⟨code,pm,F⟩,hT,hs⟩:=hX.m__set
 rcases hal with rfl|rfl
 ·refine bG (l':=[.ref a,.bytes h,.bytes p,.bytes v,.bool false]) F ["self","node_hash","keypath","value","if_delete_subtrie"] (nE _ rfl hT hs λvs hv=>?_) (by rfl) λA L hA=>hb _ _ _ A L hA
  match vs,hv with
  |[v1,v2,v3,v4],_=>
   refine⟨_,[v1,v2,v3,v4,.bool false],rfl,rfl,λg r=>?_⟩
   unfold RepL at r;obtain⟨_,_,e,r1,r⟩:=r;cases e
   unfold RepL at r;obtain⟨_,_,e,r2,r⟩:=r;cases e
   unfold RepL at r;obtain⟨_,_,e,r3,r⟩:=r;cases e
   unfold RepL at r;obtain⟨_,_,e,r4,r⟩:=r;cases e
   exact .cons r1<|.cons r2<|.cons r3<|.cons r4<|.cons (by unfold Rep;rfl) .nil
 ·refine bG (l':=[.ref a,.bytes h,.bytes p,.bytes v,.bool false]) F ["self","node_hash","keypath","value","if_delete_subtrie"] (nE _ rfl hT hs λvs hv=>?_) (by rfl) λA L hA=>hb _ _ _ A L hA
  match vs,hv with
  |[v1,v2,v3,v4,v5],_=>exact⟨_,[v1,v2,v3,v4,v5],rfl,rfl,λg r=>r⟩
theorem CD:f3 X z a dx f d db r n (.leaf v0):=λ{p v q σ0 σ N D h c Q} al S T hal hQ=>by
 have hn0:=S.wf.1
 subst hn0
 have hp:p=[]:=gW.mp S.len
 subst hp
 have hdb:D.lookup h=some (bZ v0):=S.k.2
 have hN:=T.ok.W.ok
 have hbl:(h==blank)=false:=ba.mpr (hN.blank _ _ S.k.1)
 have hv0:v0.length≤16:=S.short
 have hvz:=S.vz
 refine CallOk.deep (k:=19+1) (vI hX hal λcode pm dflt A L hA=>?_) (by omega)
 refine ag<|az<|ar<|ab (.bytes h)<|eg hX.g_BLANK<|bJ ⟨_,rfl,?_⟩
 rw[hbl]
 refine aB<|ag<|aE<|au<|eg hX.g_parse<|ad<|aC<|dq hX T.tri (by rfl)<|ab (.bytes h)<|cg T.tri.dbt hdb<|ak ⟨dU hX.toBase,aw (km hX.toBase (by omega) S.wf.2 ?_) hA.mo⟩
 refine bV hA.handled (by rfl) (by rfl)<|aF<|aq<|aF<|aq<|aF<|aq<|bW ?_
 refine ag<|az<|ar<|ab (.int 2)<|eg hX.g_LEAF<|aU ⟨_,rfl,?_⟩
 refine ag<|az<|cJ (ab (.bytes [])<|dP (by simp) ?_) (by rfl)
 refine aB<|ag<|az<|cJ (ab (.bool false)<|kb ?_) (by rfl)
 refine aB<|ag<|aZ<|rK<|cJ (ab (.bytes v)<|dP (by omega) ?_) (by rfl)
 cases hv:v with
 |nil=>
  subst hv
  exact eg hX.g_BLANK (hQ _ _ ⟨N,D,T.less (by omega),.refl _,.refl _,rfl⟩)
 |cons x v1=>
  have hne:v≠[]:=by rw[hv];simp
  rw[←hv,show(!List.isEmpty v)=true from by rw[hv];rfl,ah rfl]
  refine dK hX (by rfl) hA.mo T.tri<|uG hX (by rfl) (by omega) hne hA.mo (by rfl) rfl rfl ⟨2,v,N,D,c,rfl,.inr (.inr rfl),by omega,T.less (by omega),λσ' N' D' h' S' s1 s2 e1 e2=>hQ _ _ ⟨N',D',S',s1,s2,?_⟩⟩
  show match (if v=[] then none else some (Tw.T.leaf v)) with|none=>_|some t'=>_
  rw[ae hne]
  exact⟨h',rfl,λp' _ _ _=>⟨e1,e2⟩⟩
end
section
variable {X:Cx} {σ:St} {z:Nat} {a dx f d db:Addr} {r:By} (hX:Base5 X)
include hX
theorem zh
  (hb:∀code pm dflt A L,Room A k→Exs X A ai (ax L (callEnvC (cP (be 5) "BinaryTrie._set_kv_node" code pm dflt) L 329)) (callEnvC (cP (be 5) "BinaryTrie._set_kv_node" code pm dflt) L 329) (cF ["self","keypath","node_hash","node_type","left_child","right_child","value","if_delete_subtrie"] [.ref a,.bytes p,.bytes h,.int 0,.bytes b,.bytes h',.bytes v,.bool false] Mp.nil) (cj (be 5)) σ λFl _ σ'=>match Fl with|.ret V=>Q V σ'|.next=>Q .none σ'|_=>False):
  CallOk X (k+1) (.ref 329) [.ref a,.bytes p,.bytes h,.int 0,.bytes b,.bytes h',.bytes v,.bool false] σ Q:=by
 obtain⟨T,o,n,⟨code,pm,F⟩,hT,hs⟩:=hX.m_kv
 refine bG (l':=[.ref a,.bytes p,.bytes h,.int 0,.bytes b,.bytes h',.bytes v,.bool false]) F ["self","keypath","node_hash","node_type","left_child","right_child","value","if_delete_subtrie"] (nE _ rfl hT hs λvs hv=>?_) (by rfl) λA L hA=>hb _ _ _ A L hA
 match vs,hv with
 |[v1,v2,v3,v4,v5,v6,v7,v8],_=>exact⟨_,[v1,v2,v3,v4,v5,v6,v7,v8],rfl,rfl,λg r=>r⟩
theorem Dn(ih:∀n,f3 X z a dx f d db r n t)(S:SPre n N D (.kv b t) h p v q)(hm:p.take b.length=b)(hh:Named N t h')(T:Stt z a dx f d db r σ0 σ N D (c+6 * (n+1)))
  (hQ:∀V σ',SP z a dx f d db r σ0 n N D q (upd (.kv b t) p v) c V σ'→Q V σ'):CallOk X (19+2 * n) (.ref 329) [.ref a,.bytes p,.bytes h,.int 0,.bytes b,.bytes h',.bytes v,.bool false] σ Q:=by
 obtain⟨h'',n',en,j1,j2,j3,S'⟩:=S.kv hm
 have:=hh.fn j1;subst this
 have hN:=T.ok.W.ok
 obtain⟨hb,hbits,hk,_,_,hw'⟩:=id S.wf
 have hb1:1≤b.length:=by cases b with|nil=>exact absurd rfl hb|cons _ _=>simp
 have h64:=S.n64
 have hvz:=S.vz
 have hpl:=S.len
 refine CallOk.deep (k:=18+2 * n+1) (zh hX λcode pm dflt A L hA=>?_) (by omega)
 refine ag<|az<|cJ (ab (.bool false)<|kb ?_) (by rfl)
 refine aB<|ag<|az<|ar<|n8 hX.toBase (p:=p) (b:=b) (by rfl) (by rfl) (by omega) (by omega) (by rfl) rfl rfl<|ab (.bytes b)<|bJ ⟨_,rfl,?_⟩
 rw[show(List.take b.length p==b)=true from bd.mpr hm,ah rfl]
 have eupd:upd (.kv b t) p v=(upd t (p.drop b.length) v).map (fZ b):=ah hm
 refine ag<|aE<|cy (ab (.ref a)<|cD hX T.tri (by simp[b8])<|ad<|ab (.bytes h')<|ad<|vu hX.toBase (p:=p) (b:=b) (by rfl) (by rfl) (by omega) (by omega) (by rfl) rfl rfl<|ad<|ab (.bytes v)<|ad<|ab (.bool false)<|ak ⟨hX.m__set.keep,aw (ih n' [.bool false] (σ0:=σ0) (c:=c+6) S' (T.less (by omega)) (.inr rfl) λV σ1 ⟨N1,D1,T1,s1,s2,hV⟩=>?_) hA.mo⟩) (by rfl)
 have hN1:=T1.ok.W.ok
 have law:=fC S'.wf S'.len S'.bits (v:=v)
 cases hu:upd t (p.drop b.length) v with
 |none=>
  rw[hu] at hV
  subst hV
  refine aq<|ag<|az<|ar<|ab (.bytes blank)<|eg hX.g_BLANK<|bJ ⟨_,rfl,?_⟩
  rw[show(blank==blank)=true from by decide,ah rfl]
  refine ag<|aZ<|eg hX.g_BLANK (hQ _ _ ⟨N1,D1,T1.less (by omega),s1,s2,?_⟩)
  rw[eupd,hu];rfl
 |some t1=>
  rw[hu] at hV law
  obtain⟨h1,rfl,ka⟩:=hV
  obtain⟨wf1,_⟩:=law
  have k1:=ka _ S'.len S'.bits S'.pre
  have nm1:=k1.named
  have top:D1.lookup h1=some (tx N1 t1):=by
   cases t1 with
   |leaf v=>exact k1.2
   |kv b1 t2=>obtain⟨h3,a1,a2,a3,_⟩:=k1;rw[a3];show _=some (aM b1 (nm N1 t2));rw[a1.nm]
   |br l2 r2=>obtain⟨hl,hr,a1,a2,a3,a4,_⟩:=k1;rw[a4];show _=some (aO (nm N1 l2) (nm N1 r2));rw[a1.nm,a2.nm]
  have hbl:(h1==blank)=false:=ba.mpr (hN1.blank _ _ nm1.ltx)
  have hl32:=hN1.len _ _ nm1.ltx
  refine aq<|ag<|az<|ar<|ab (.bytes h1)<|eg hX.g_BLANK<|bJ ⟨_,rfl,?_⟩
  rw[hbl]
  have fin:∀{σ2:St} {N2 D2:BD} {h2:By},Stt z a dx f d db r σ0 σ2 N2 D2 c→BD.Sub N1 N2→BD.Sub D1 D2→vX N1 N2 D2 b h1 h2 t1→Q (.bytes h2) σ2:=λT2 u1 u2 hw=>hQ _ _ ⟨_,_,T2,s1.trans u1,s2.trans u2,by
   rw[eupd,hu]
   exact⟨_,rfl,λp' c1 c2 c3=>vM u1 u2 (λe=>ka _ (by rw[bA];omega) (eU c2 _) (fR _ c3)) nm1 hw⟩⟩
  cases t1 with
  |leaf v1=>
   refine aB<|ag<|aE<|au<|eg hX.g_parse<|ad<|aC<|dq hX T1.tri (by rfl)<|ab (.bytes h1)<|cg T1.tri.dbt top<|ak ⟨dU hX.toBase,aw (km hX.toBase ?_ wf1.2 ?_) hA.mo⟩
   ·have:=kB S'.short hvz hu
    have:v1.length≤16:=this
    omega
   refine bV hA.handled (by rfl) (by rfl)<|aF<|aq<|aF<|aq<|aF<|aq<|bW ?_
   refine ag<|az<|ar<|ab (.int 2)<|eg hX.g_KV<|aU ⟨_,rfl,?_⟩
   refine ag<|aZ<|dK hX (σ0:=σ0) (by rfl) hA.mo T1.tri<|au<|eg hX.g_ekv<|ad<|ab (.bytes b)<|ad<|ab (.bytes h1)<|ak ⟨gB hX,aw (gC hX.toBase (by omega) hbits hb hl32 ⟨0,bR b++h1,N1,D1,c,rfl,.inl rfl,gD (by omega) hl32,T1.less (by omega),λσ2 N2 D2 h2 T2 u1 u2 e1 e2=>fin T2 u1 u2 ⟨e1,e2⟩⟩) hA.mo⟩
  |br l2 r2=>
   obtain⟨hl,hr,a1,a2,a3,a4,_⟩:=k1
   refine aB<|ag<|aE<|au<|eg hX.g_parse<|ad<|aC<|dq hX T1.tri (by rfl)<|ab (.bytes h1)<|cg T1.tri.dbt a4<|ak ⟨dU hX.toBase,aw (i7 hX.toBase (hN1.len _ _ a1.ltx) (hN1.len _ _ a2.ltx) ?_) hA.mo⟩
   refine bV hA.handled (by rfl) (by rfl)<|aF<|aq<|aF<|aq<|aF<|aq<|bW ?_
   refine ag<|az<|ar<|ab (.int 1)<|eg hX.g_KV<|aU ⟨_,rfl,?_⟩
   refine ag<|aZ<|dK hX (σ0:=σ0) (by rfl) hA.mo T1.tri<|au<|eg hX.g_ekv<|ad<|ab (.bytes b)<|ad<|ab (.bytes h1)<|ak ⟨gB hX,aw (gC hX.toBase (by omega) hbits hb hl32 ⟨0,bR b++h1,N1,D1,c,rfl,.inl rfl,gD (by omega) hl32,T1.less (by omega),λσ2 N2 D2 h2 T2 u1 u2 e1 e2=>fin T2 u1 u2 ⟨e1,e2⟩⟩) hA.mo⟩
  |kv b1 t2=>
   obtain⟨h3,a1,a2,a3,_⟩:=k1
   obtain⟨hb1',hbits1,hk1,n1,en1,hw1⟩:=id wf1
   have h3l:=hN1.len _ _ a1.ltx
   refine aB<|ag<|aE<|au<|eg hX.g_parse<|ad<|aC<|dq hX T1.tri (by rfl)<|ab (.bytes h1)<|cg T1.tri.dbt a3<|ak ⟨dU hX.toBase,aw (i6 hX.toBase (by omega) hbits1 h3l ?_) hA.mo⟩
   refine bV hA.handled (by rfl) (by rfl)<|aF<|aq<|aF<|aq<|aF<|aq<|bW ?_
   refine ag<|az<|ar<|ab (.int 0)<|eg hX.g_KV<|aU ⟨_,rfl,?_⟩
   refine ag<|aZ<|dK hX (σ0:=σ0) (by rfl) hA.mo T1.tri<|au<|eg hX.g_ekv<|ad<|aK<|ab (.bytes b)<|ab (.bytes b1)<|cB (by omega)<|ad<|ab (.bytes h3)<|ak ⟨gB hX,aw (gC hX.toBase (by rw[bg];omega) (fT hbits hbits1) (by simp[hb]) h3l ⟨0,bR (b++b1)++h3,N1,D1,c,rfl,.inl rfl,gD (by rw[bg];omega) h3l,T1.less (by omega),λσ2 N2 D2 h2 T2 u1 u2 e1 e2=>fin T2 u1 u2 ⟨h3,a1,e1,e2⟩⟩) hA.mo⟩
end
section
variable {X:Cx} {σ:St} {z:Nat} {a dx f d db:Addr} {r:By} (hX:Base5 X)
include hX
theorem C7(S:SPre n N D (.kv b t) h p v q)(hm:p.take b.length≠b)(hh:Named N t h')(T:Stt z a dx f d db r σ0 σ N D (c+6 * (n+1)))
  (hQ:∀V σ',SP z a dx f d db r σ0 n N D q (upd (.kv b t) p v) c V σ'→Q V σ'):CallOk X (19+2 * n) (.ref 329) [.ref a,.bytes p,.bytes h,.int 0,.bytes b,.bytes h',.bytes v,.bool false] σ Q:=by
 have hN:=T.ok.W.ok
 obtain⟨hb,hbits,hk,n',en,hw'⟩:=id S.wf
 have hb1:1≤b.length:=by cases b with|nil=>exact absurd rfl hb|cons _ _=>simp
 have h64:=S.n64
 have hvz:=S.vz
 have hpl:=S.len
 have hpb:=S.bits
 have hlt:(p.take b.length).length=b.length:=by rw[eq];omega
 have hl32:=hN.len _ _ hh.ltx
 have hc:aN b p<b.length:=by
  rcases nw (aN b p) b.length with h|h
  ·exact h
  ·exact absurd (yr (Nat.le_antisymm (rP b p).1 h)) hm
 have eupd:upd (.kv b t) p v=if v=[] then some (.kv b t) else some (fX b t p v (aN b p)):=ae hm
 have hgcp:aN b (p.take b.length)=aN b p:=yk b p
 refine CallOk.deep (k:=18+2 * n+1) (zh hX λcode pm dflt A L hA=>?_) (by omega)
 refine ag<|az<|cJ (ab (.bool false)<|kb ?_) (by rfl)
 refine aB<|ag<|az<|ar<|n8 hX.toBase (p:=p) (b:=b) (by rfl) (by rfl) (by omega) (by omega) (by rfl) rfl rfl<|ab (.bytes b)<|bJ ⟨_,rfl,?_⟩
 rw[show(List.take b.length p==b)=false from ba.mpr hm,ae aT]
 refine ag<|aE<|au<|eg hX.g_gcp<|ad<|ab (.bytes b)<|ad<|n8 hX.toBase (p:=p) (b:=b) (by rfl) (by rfl) (by omega) (by omega) (by rfl) rfl rfl<|ak ⟨CY hX,aw (EW hX.toBase3 hlt.symm (λe=>hm e.symm) ?_) hA.mo⟩
 rw[hgcp]
 have hcp:aN b p<p.length:=by omega
 have hsplit:∀{p':By} {N D:BD} {hv ho hs h2},_:=@λp' N D hv ho hs h2=>@Db N D n b p v p' t hv ho hs h2 hbits hpl hpb
 generalize hcc:aN b p=k at *
 refine aq<|ag<|az<|cW<|fE<|cJ (ab (.bytes v)<|dP (by omega) ?_) (by rfl)
 by_cases hv:v=[]
 ·rw[show(!!v.isEmpty)=true from by rw[hv];rfl,ah rfl]
  refine ag<|aZ<|ab (.bytes h)<|hQ _ _ ⟨N,D,T.less (by omega),.refl _,.refl _,?_⟩
  rw[eupd,ah hv]
  exact⟨h,rfl,S.ka⟩
 have hve:(!!v.isEmpty)=false:=by cases v with|nil=>exact absurd rfl hv|cons _ _=>rfl
 rw[hve,ae aT]
 rw[ae hv] at eupd
 refine cW<|cJ (ab (.bool false)<|kb ?_) (by rfl)
 refine ie<|aB ?_
 refine ag<|Ex.mono (Q:=λF m' σ'=>F=.next∧∃hv N1 D1,m'=Mp.upd ((cF ["self","keypath","node_hash","node_type","left_child","right_child","value","if_delete_subtrie"] [.ref a,.bytes p,.bytes h,.int 0,.bytes b,.bytes h',.bytes v,.bool false] Mp.nil).upd "common_prefix_len" (.int (k:Int))) "valnode" (.bytes hv)∧Stt z a dx f d db r σ0 σ' N1 D1 (c+4)∧BD.Sub N N1∧BD.Sub D D1∧hv.length=32∧∀p',K N1 D1 (eL p v k) hv p') ?_ ?_
 ·refine az<|ar<|fY hX.toBase (b:=p) (by rfl) (by omega) (by rfl) rfl rfl<|aK<|ab (.int (k:Int))<|av<|fN<|aU ⟨_,rfl,?_⟩
  by_cases h1:p.length=k+1
  ·rw[show(((p.length:Nat):Int)==(k:Int)+1)=true from by rw[bd];omega,ah rfl]
   refine ag<|aE<|dK hX (σ0:=σ0) (by rfl) hA.mo T.tri<|uG hX (by rfl) (by omega) hv hA.mo (by rfl) rfl rfl ⟨2,v,N,D,c+4,rfl,.inr (.inr rfl),by omega,T.less (by omega),λσ1 N1 D1 h1' S' s1 s2 e1 e2=>aq<|aB ⟨rfl,h1',N1,D1,rfl,S',s1,s2,S'.ok.W.ok.len _ _ e1,λp'=>?_⟩⟩
   unfold eL
   rw[ah h1]
   exact⟨e1,e2⟩
  ·rw[show(((p.length:Nat):Int)==(k:Int)+1)=false from by rw[ba];omega,ae aT]
   refine ag<|az<|ar<|fY hX.toBase (b:=p) (by rfl) (by omega) (by rfl) rfl rfl<|ab (.int (k:Int))<|xV ⟨_,rfl,?_⟩
   rw[show decide (((p.length:Nat):Int)≤(k:Int))=false from by rw[wA];omega,ae aT]
   refine aB<|ag<|aE<|dK hX (σ0:=σ0) (by rfl) hA.mo T.tri<|au<|eg hX.g_ekv<|ad<|aC<|ab (.bytes p)<|bP (lower:=some _) (upper:=none)<|aK<|ab (.int (k:Int))<|av<|fN ⟨_,rfl,cr (by omega) ?_⟩
   rw[show((k:Int)+1)=((k+1:Nat):Int) from rfl,dp]
   refine ad<|dK hX (σ0:=σ0) (by rfl) hA.mo T.tri<|uG hX (by rfl) (by omega) hv hA.mo (by rfl) rfl rfl ⟨2,v,N,D,c+5,rfl,.inr (.inr rfl),by omega,T.less (by omega),λσ1 N1 D1 h1' S1 s1 s2 e1 e2=>?_⟩
   have l1:=S1.ok.W.ok.len _ _ e1
   have ld:(p.drop (k+1)).length≤64:=by rw[bA];omega
   refine ak ⟨gB hX,aw (gC hX.toBase (by omega) (eU hpb _) (λe=>by have:=dl List.length e;rw[bA] at this;simp at this;omega) l1 ⟨0,bR (p.drop (k+1))++h1',N1,D1,c+4,rfl,.inl rfl,gD ld l1,S1,λσ2 N2 D2 h2 S2 u1 u2 e3 e4=>aq<|aB ⟨rfl,h2,N2,D2,rfl,S2,s1.trans u1,s2.trans u2,S2.ok.W.ok.len _ _ e3,λp'=>?_⟩⟩) hA.mo⟩
   unfold eL
   rw[ae h1]
   exact⟨h1',u1 _ _ e1,e3,e4,λ_=>⟨u1 _ _ e1,u2 _ _ e2⟩⟩
 rintro F m1 σ1 ⟨rfl,hv1,N1,D1,rfl,T1,s1,s2,lv,kval⟩
 refine ag<|Ex.mono (Q:=λF m' σ'=>F=.next∧∃ho N2 D2,m'=Mp.upd (Mp.upd ((cF ["self","keypath","node_hash","node_type","left_child","right_child","value","if_delete_subtrie"] [.ref a,.bytes p,.bytes h,.int 0,.bytes b,.bytes h',.bytes v,.bool false] Mp.nil).upd "common_prefix_len" (.int (k:Int))) "valnode" (.bytes hv1)) "oldnode" (.bytes ho)∧Stt z a dx f d db r σ0 σ' N2 D2 (c+3)∧BD.Sub N1 N2∧BD.Sub D1 D2∧ho.length=32∧Named N2 (dO b t k) ho∧∀p',p'.length=n→aQ p'→p'.take q.length=q→p'.take (k+1)=b.take (k+1)→K N2 D2 (dO b t k) ho (p'.drop (k+1))) ?_ ?_
 ·have kk:∀p',p'.length=n→aQ p'→p'.take q.length=q→p'.take b.length=b→K N D t h' (p'.drop b.length):=λp' c1 c2 c3 c4=>by
   obtain⟨h'',j1,j2,j3,j4⟩:=S.ka p' c1 c2 c3
   have:=hh.fn j1;subst this
   exact j4 c4
  refine az<|ar<|fY hX.toBase (b:=b) (by rfl) (by omega) (by rfl) rfl rfl<|aK<|ab (.int (k:Int))<|av<|fN<|aU ⟨_,rfl,?_⟩
  by_cases h1:b.length=k+1
  ·rw[show(((b.length:Nat):Int)==(k:Int)+1)=true from by rw[bd];omega,ah rfl]
   refine ag<|aE<|ab (.bytes h')<|aq<|aB ⟨rfl,h',N1,D1,rfl,T1.less (by omega),.refl _,.refl _,hl32,?_,λp' c1 c2 c3 c4=>?_⟩
   ·unfold dO;rw[ah h1];exact hh.mono s1
   ·unfold dO;rw[ah h1]
    rw[←h1,List.take_length] at c4
    rw[←h1]
    exact(kk p' c1 c2 c3 c4).mono s1 s2
  ·rw[show(((b.length:Nat):Int)==(k:Int)+1)=false from by rw[ba];omega,ae aT]
   refine ag<|aE<|dK hX (σ0:=σ0) (by rfl) hA.mo T1.tri<|au<|eg hX.g_ekv<|ad<|aC<|ab (.bytes b)<|bP (lower:=some _) (upper:=none)<|aK<|ab (.int (k:Int))<|av<|fN ⟨_,rfl,cr (by omega) ?_⟩
   rw[show((k:Int)+1)=((k+1:Nat):Int) from rfl,dp]
   have ld:(b.drop (k+1)).length≤64:=by rw[bA];omega
   refine ad<|ab (.bytes h')<|ak ⟨gB hX,aw (gC hX.toBase (by omega) (eU hbits _) (λe=>by have:=dl List.length e;rw[bA] at this;simp at this;omega) hl32 ⟨0,bR (b.drop (k+1))++h',N1,D1,c+3,rfl,.inl rfl,gD ld hl32,T1,λσ2 N2 D2 h2 S2 u1 u2 e3 e4=>aq<|aB ⟨rfl,h2,N2,D2,rfl,S2,u1,u2,S2.ok.W.ok.len _ _ e3,?_,λp' c1 c2 c3 c4=>?_⟩⟩) hA.mo⟩
   ·unfold dO;rw[ae h1];exact⟨h',(hh.mono s1).mono u1,e3⟩
   ·unfold dO;rw[ae h1]
    refine⟨h',(hh.mono s1).mono u1,e3,e4,λe=>?_⟩
    have e5:p'.take b.length=b:=by
     rw[bA] at e
     have e6:p'.take b.length=p'.take (k+1)++(p'.drop (k+1)).take (b.length - (k+1)):=by
      rw[←List.take_add];congr 1;omega
     rw[e6,e,c4,dC]
    have:=(((kk p' c1 c2 c3 e5).mono s1 s2).mono u1 u2)
    rw[hO,bA]
    rwa [show k+1+(b.length - (k+1))=b.length from by omega]
 rintro F m2 σ2 ⟨rfl,ho,N2,D2,rfl,T2,u1,u2,lo,hon,kold⟩
 have s1':=s1.trans u1
 have s2':=s2.trans u2
 have kval':∀p',K N2 D2 (eL p v k) hv1 p':=λp'=>(kval p').mono u1 u2
 refine ag<|Ex.mono (Q:=λF m' σ'=>F=.next∧∃hs N3 D3,m'=Mp.upd (Mp.upd (Mp.upd ((cF ["self","keypath","node_hash","node_type","left_child","right_child","value","if_delete_subtrie"] [.ref a,.bytes p,.bytes h,.int 0,.bytes b,.bytes h',.bytes v,.bool false] Mp.nil).upd "common_prefix_len" (.int (k:Int))) "valnode" (.bytes hv1)) "oldnode" (.bytes ho)) "newsub" (.bytes hs)∧Stt z a dx f d db r σ0 σ' N3 D3 (c+2)∧BD.Sub N2 N3∧BD.Sub D2 D3∧hs.length=32∧N3.lookup (if (p.drop k).take 1=[1] then aO ho hv1 else aO hv1 ho)=some hs∧D3.lookup hs=some (if (p.drop k).take 1=[1] then aO ho hv1 else aO hv1 ho)) ?_ ?_
 ·refine az<|ar<|aC<|ab (.bytes p)<|bP (lower:=some _) (upper:=some _)<|ab (.int (k:Int)) ⟨_,rfl,aK<|ab (.int (k:Int))<|av<|fN ⟨_,rfl,cr (by omega) ?_⟩⟩
  rw[show((k:Int)+1)=((k+1:Nat):Int) from rfl,nL,Nat.add_sub_cancel_left]
  refine eg hX.g_B1<|bJ ⟨_,rfl,?_⟩
  by_cases h1:(p.drop k).take 1=[1]
  ·rw[show((p.drop k).take 1==[1])=true from bd.mpr h1,ah rfl]
   refine ag<|aE<|dK hX (σ0:=σ0) (by rfl) hA.mo T2.tri<|au<|eg hX.g_ebr<|ad<|ab (.bytes ho)<|ad<|ab (.bytes hv1)<|ak ⟨vf hX,aw (vH hX.toBase lo lv ⟨1,ho++hv1,N2,D2,c+2,rfl,.inr (.inl rfl),by rw[bg];omega,T2,λσ3 N3 D3 h3 S3 w1 w2 e3 e4=>aq<|aB ⟨rfl,h3,N3,D3,rfl,S3,w1,w2,S3.ok.W.ok.len _ _ e3,?_,?_⟩⟩) hA.mo⟩
   ·rw[ah h1];exact e3
   ·rw[ah h1];exact e4
  ·rw[show((p.drop k).take 1==[1])=false from ba.mpr h1,ae aT]
   refine ag<|aE<|dK hX (σ0:=σ0) (by rfl) hA.mo T2.tri<|au<|eg hX.g_ebr<|ad<|ab (.bytes hv1)<|ad<|ab (.bytes ho)<|ak ⟨vf hX,aw (vH hX.toBase lv lo ⟨1,hv1++ho,N2,D2,c+2,rfl,.inr (.inl rfl),by rw[bg];omega,T2,λσ3 N3 D3 h3 S3 w1 w2 e3 e4=>aq<|aB ⟨rfl,h3,N3,D3,rfl,S3,w1,w2,S3.ok.W.ok.len _ _ e3,?_,?_⟩⟩) hA.mo⟩
   ·rw[ae h1];exact e3
   ·rw[ae h1];exact e4
 rintro F m3 σ3 ⟨rfl,hs,N3,D3,rfl,T3,w1,w2,ls,e3,e4⟩
 have kval3:∀p',K N3 D3 (eL p v k) hv1 p':=λp'=>(kval' p').mono w1 w2
 have fin:∀{σ4:St} {N4 D4:BD} {h4:By},Stt z a dx f d db r σ0 σ4 N4 D4 c→BD.Sub N3 N4→BD.Sub D3 D4→(if k=0 then h4=hs else N4.lookup (aM (b.take k) hs)=some h4∧D4.lookup h4=some (aM (b.take k) hs))→Q (.bytes h4) σ4:=λT4 y1 y2 he=>hQ _ _ ⟨_,_,T4,(s1'.trans w1).trans y1,(s2'.trans w2).trans y2,by
  rw[eupd]
  exact⟨_,rfl,λp' c1 c2 c3=>hsplit c1 c2 hc hcp (λp''=>(kval3 p'').mono y1 y2) (λe=>((kold p' c1 c2 c3 e).mono w1 w2).mono y1 y2) ((hon.mono w1).mono y1) (y1 _ _ e3) (y2 _ _ e4) he⟩⟩
 refine ag<|az<|cJ (ab (.int (k:Int))<|wZ ?_) (by rfl)
 by_cases h0:k=0
 ·rw[show((k:Int) !=0)=false from by rw[h0];rfl,ae aT]
  exact ag<|aZ<|ab (.bytes hs)<|fin (T3.less (by omega)) (.refl _) (.refl _) (by rw[ah h0])
 ·rw[show((k:Int) !=0)=true from by rw[jb];omega,ah rfl]
  refine ag<|aZ<|dK hX (σ0:=σ0) (by rfl) hA.mo T3.tri<|au<|eg hX.g_ekv<|ad<|aC<|ab (.bytes b)<|bP (lower:=none) (upper:=some _)<|ab (.int (k:Int)) ⟨_,rfl,cr (by omega) ?_⟩
  rw[gA]
  have ld:(b.take k).length≤64:=by rw[eq];omega
  exact ad<|ab (.bytes hs)<|ak ⟨gB hX,aw (gC hX.toBase (by omega) (qR hbits _) (λe=>by have:=dl List.length e;rw[eq] at this;have h9:min k b.length=0:=this;omega) ls ⟨0,bR (b.take k)++hs,N3,D3,c,rfl,.inl rfl,gD ld ls,T3.less (by omega),λσ4 N4 D4 h4 S4 y1 y2 e5 e6=>fin S4 y1 y2 (by rw[ae h0];exact⟨e5,e6⟩)⟩) hA.mo⟩
end
def kQ(code pm dflt:Value)(L:Addr):Env:=callEnvC (cP (be 6) "BinaryTrie._set_branch_node" code pm dflt) L 337
theorem y9(k:K N D t h p):D.lookup h=some (tx N t):=by
 cases t with
 |leaf v=>exact k.2
 |kv b1 t2=>obtain⟨h3,a1,a2,a3,_⟩:=k;rw[a3];show _=some (aM b1 (nm N t2));rw[a1.nm]
 |br l2 r2=>obtain⟨hl,hr,a1,a2,a3,a4,_⟩:=k;rw[a4];show _=some (aO (nm N l2) (nm N r2));rw[a1.nm,a2.nm]
section
variable {X:Cx} {σ:St} {z:Nat} {a dx f d db:Addr} {r:By} (hX:Base5 X)
include hX
theorem Fk
  (hb:∀code pm dflt A L,Room A k→Exs X A ai (ax L (kQ code pm dflt L)) (kQ code pm dflt L) (cF ["self","keypath","node_type","left_child","right_child","value","if_delete_subtrie"] [.ref a,.bytes p,.int 1,.bytes hl,.bytes hr,.bytes v,.bool false] Mp.nil) (cj (be 6)) σ λFl _ σ'=>match Fl with|.ret V=>Q V σ'|.next=>Q .none σ'|_=>False):
  CallOk X (k+1) (.ref 337) [.ref a,.bytes p,.int 1,.bytes hl,.bytes hr,.bytes v,.bool false] σ Q:=by
 obtain⟨T,o,n,⟨code,pm,F⟩,hT,hs⟩:=hX.m_br
 refine bG (l':=[.ref a,.bytes p,.int 1,.bytes hl,.bytes hr,.bytes v,.bool false]) F ["self","keypath","node_type","left_child","right_child","value","if_delete_subtrie"] (nE _ rfl hT hs λvs hv=>?_) (by rfl) λA L hA=>hb _ _ _ A L hA
 match vs,hv with
 |[v1,v2,v3,v4,v5,v6,v7],_=>exact⟨_,[v1,v2,v3,v4,v5,v6,v7],rfl,rfl,λg r=>r⟩
section
variable {A:Around} {code pm dflt:Value} {L:Addr} {m:Mp} {σ0:St} {N D:BD} {c:Nat} {Q:AFl→Mp→St→Prop} {nl nr:By}
theorem yP(hA:Room A 17)(h1:m "self"=some (.ref a))(h2:m "new_left_child"=some (.bytes nl))(h3:m "new_right_child"=some (.bytes nr))(hnl:nl≠blank)(hnr:nr≠blank)(ll:nl.length=32)(lr:nr.length=32)(T:Stt z a dx f d db r σ0 σ N D (c+1))
  (hQ:∀σ' N' D' h',Stt z a dx f d db r σ0 σ' N' D' c→BD.Sub N N'→BD.Sub D D'→N'.lookup (aO nl nr)=some h'→D'.lookup h'=some (aO nl nr)→Q (.ret (.bytes h')) m σ'):
  Exs X A ai (ax L (kQ code pm dflt L)) (kQ code pm dflt L) m ((cj (be 6)).drop 1) σ Q:=by
 refine ag<|az<|cW<|ar<|ap (V:=.bytes nl) h2<|eg hX.g_BLANK<|bJ ⟨_,rfl,?_⟩
 rw[show(nl==blank)=false from ba.mpr hnl,ae aT]
 refine cW<|ar<|ap (V:=.bytes nr) h3<|eg hX.g_BLANK<|bJ ⟨_,rfl,?_⟩
 rw[show(nr==blank)=false from ba.mpr hnr,ae aT]
 refine ie ?_
 rw[ae aT]
 exact ag<|aZ<|dK hX (σ0:=σ0) h1 hA.mo T.tri<|au<|eg hX.g_ebr<|ad<|ap (V:=.bytes nl) h2<|ad<|ap (V:=.bytes nr) h3<|ak ⟨vf hX,aw (vH hX.toBase ll lr ⟨1,nl++nr,N,D,c,rfl,.inr (.inl rfl),by rw[bg];omega,T,hQ⟩) hA.mo⟩
theorem yQ(hA:Room A 17)(h1:m "self"=some (.ref a))(h2:m "new_left_child"=some (.bytes nl))(h3:m "new_right_child"=some (.bytes nr))(hside:(nl=blank∧nr=hs∧fb=[1])∨(nr=blank∧nl=hs∧fb=[0]))
  (hn:Named N t2 hs)(htop:D.lookup hs=some (tx N t2))(hw:WF n' t2)(h64:n'≤63)(hsh:ck t2)(T:Stt z a dx f d db r σ0 σ N D (c+1))
  (hQ:∀m' σ' N' D' h',Stt z a dx f d db r σ0 σ' N' D' c→BD.Sub N N'→BD.Sub D D'→vX N N' D' fb hs h' t2→Q (.ret (.bytes h')) m' σ'):
  Exs X A ai (ax L (kQ code pm dflt L)) (kQ code pm dflt L) m ((cj (be 6)).drop 1) σ Q:=by
 have hN:=T.ok.W.ok
 have hsb:=hN.blank _ _ hn.ltx
 have hs32:=hN.len _ _ hn.ltx
 have fb1:fb.length=1:=by rcases hside with ⟨_,_,e⟩|⟨_,_,e⟩<;>rw[e]<;>rfl
 have fbb:aQ fb:=by rcases hside with ⟨_,_,e⟩|⟨_,_,e⟩<;>rw[e]<;>intro c hc<;>simp at hc<;>simp[hc]
 have fb0:fb≠[]:=λe=>by rw[e] at fb1;cases fb1
 have pick:∀{env:Env} {m:Mp} {σ:St} {Q:AV→St→Prop} {p1 p2 p3 p4 p5 p6:Pos},m "new_left_child"=some (.bytes nl)→m "new_right_child"=some (.bytes nr)→env.kindOf "BLANK_HASH"=some .globalImplicit→env.globals=mainGlobals→env.builtins=builtinsNs→Q (.bytes hs) σ→
   Ev X A ai env m (.IfExp (.Compare (.Name "new_left_child" p1) [.NotEq] [.Name "BLANK_HASH" p2] p3) (.Name "new_left_child" p4) (.Name "new_right_child" p5) p6) σ Q:=λ{env m σ Q p1 p2 p3 p4 p5 p6} h2 h3 hk hg hb hq=>by
  refine rK<|ar<|ap (V:=.bytes nl) h2<|im hX.g_BLANK hk hg hb<|ia ⟨_,rfl,?_⟩
  rcases hside with ⟨e1,e2,_⟩|⟨e1,e2,_⟩
  ·rw[e1,show(blank !=blank)=false from by decide,ae aT]
   exact ap (V:=.bytes nr) h3 (by rw[e2];exact hq)
  ·rw[e2,show(hs !=blank)=true from jb.mpr hsb,ah rfl]
   exact ap (V:=.bytes nl) h2 (by rw[e2];exact hq)
 have bit:∀{env:Env} {m:Mp} {σ:St} {Q:AV→St→Prop} {p1 p2 p3 p4 p5 p6:Pos},m "new_right_child"=some (.bytes nr)→env.kindOf "BLANK_HASH"=some .globalImplicit→env.kindOf "BYTE_0"=some .globalImplicit→env.kindOf "BYTE_1"=some .globalImplicit→env.globals=mainGlobals→env.builtins=builtinsNs→Q (.bytes fb) σ→
   Ev X A ai env m (.IfExp (.Compare (.Name "new_right_child" p1) [.NotEq] [.Name "BLANK_HASH" p2] p3) (.Name "BYTE_1" p4) (.Name "BYTE_0" p5) p6) σ Q:=λ{env m σ Q p1 p2 p3 p4 p5 p6} h3 hk hk0 hk1 hg hb hq=>by
  refine rK<|ar<|ap (V:=.bytes nr) h3<|im hX.g_BLANK hk hg hb<|ia ⟨_,rfl,?_⟩
  rcases hside with ⟨e1,e2,e3⟩|⟨e1,e2,e3⟩
  ·rw[e2,show(hs !=blank)=true from jb.mpr hsb,ah rfl]
   exact im hX.g_B1 hk1 hg hb (by rw[←e3];exact hq)
  ·rw[e1,show(blank !=blank)=false from by decide,ae aT]
   exact im hX.g_B0 hk0 hg hb (by rw[←e3];exact hq)
 refine ag<|az<|EvB.mono (Q:=λb σ'=>b=true∧σ'=σ) ?_ ?_
 ·refine cW<|ar<|ap (V:=.bytes nl) h2<|eg hX.g_BLANK<|bJ ⟨_,rfl,?_⟩
  rcases hside with ⟨e1,e2,_⟩|⟨e1,e2,_⟩
  ·rw[e1,show(blank==blank)=true from by decide,ah rfl];exact⟨rfl,rfl⟩
  ·rw[e2,show(hs==blank)=false from ba.mpr hsb,ae aT]
   refine cW<|ar<|ap (V:=.bytes nr) h3<|eg hX.g_BLANK<|bJ ⟨_,rfl,?_⟩
   rw[e1,show(blank==blank)=true from by decide,ah rfl];exact⟨rfl,rfl⟩
 rintro _ _ ⟨rfl,rfl⟩
 rw[ah rfl]
 cases t2 with
 |leaf v1=>
  have hv1:v1.length≤16:=hsh
  refine ag<|aE<|au<|eg hX.g_parse<|ad<|aC<|dq hX T.tri h1<|pick h2 h3 (by rfl) rfl rfl<|cg T.tri.dbt htop<|ak ⟨dU hX.toBase,aw (km hX.toBase (by omega) hw.2 ?_) hA.mo⟩
  refine bV hA.handled (by rfl) (by rfl)<|aF<|aq<|aF<|aq<|aF<|aq<|bW ?_
  refine ag<|aE<|bit h3 (by rfl) (by rfl) (by rfl) rfl rfl<|aq ?_
  refine ag<|az<|ar<|ab (.int 2)<|eg hX.g_KV<|aU ⟨_,rfl,?_⟩
  refine ag<|az<|ar<|ab (.int 2)<|fB<|ad<|eg hX.g_BR<|ad<|eg hX.g_LEAF<|ak ⟨by rw[bn];exact cU rfl,uN (ns:=[1,2]) ⟨_,rfl,?_⟩⟩
  refine ag<|aZ<|dK hX (σ0:=σ0) h1 hA.mo T.tri<|au<|eg hX.g_ekv<|ad<|ab (.bytes fb)<|ad<|pick h2 h3 (by rfl) rfl rfl<|ak ⟨gB hX,aw (gC hX.toBase (by omega) fbb fb0 hs32 ⟨0,bR fb++hs,N,D,c,rfl,.inl rfl,gD (by omega) hs32,T,λσ2 N2 D2 h2 T2 u1 u2 e1 e2=>hQ _ _ _ _ _ T2 u1 u2 ⟨e1,e2⟩⟩) hA.mo⟩
 |br l2 r2=>
  obtain⟨hl,hr,a1,a2,a3⟩:=id hn
  have htop':D.lookup hs=some (aO hl hr):=by rw[htop];show some (aO (nm N l2) (nm N r2))=_;rw[a1.nm,a2.nm]
  refine ag<|aE<|au<|eg hX.g_parse<|ad<|aC<|dq hX T.tri h1<|pick h2 h3 (by rfl) rfl rfl<|cg T.tri.dbt htop'<|ak ⟨dU hX.toBase,aw (i7 hX.toBase (hN.len _ _ a1.ltx) (hN.len _ _ a2.ltx) ?_) hA.mo⟩
  refine bV hA.handled (by rfl) (by rfl)<|aF<|aq<|aF<|aq<|aF<|aq<|bW ?_
  refine ag<|aE<|bit h3 (by rfl) (by rfl) (by rfl) rfl rfl<|aq ?_
  refine ag<|az<|ar<|ab (.int 1)<|eg hX.g_KV<|aU ⟨_,rfl,?_⟩
  refine ag<|az<|ar<|ab (.int 1)<|fB<|ad<|eg hX.g_BR<|ad<|eg hX.g_LEAF<|ak ⟨by rw[bn];exact cU rfl,uN (ns:=[1,2]) ⟨_,rfl,?_⟩⟩
  refine ag<|aZ<|dK hX (σ0:=σ0) h1 hA.mo T.tri<|au<|eg hX.g_ekv<|ad<|ab (.bytes fb)<|ad<|pick h2 h3 (by rfl) rfl rfl<|ak ⟨gB hX,aw (gC hX.toBase (by omega) fbb fb0 hs32 ⟨0,bR fb++hs,N,D,c,rfl,.inl rfl,gD (by omega) hs32,T,λσ2 N2 D2 h2 T2 u1 u2 e1 e2=>hQ _ _ _ _ _ T2 u1 u2 ⟨e1,e2⟩⟩) hA.mo⟩
 |kv b1 t2=>
  obtain⟨h4,a1,a3⟩:=id hn
  obtain⟨hb1',hbits1,hk1,n1,en1,hw1⟩:=id hw
  have h4l:=hN.len _ _ a1.ltx
  have htop':D.lookup hs=some (aM b1 h4):=by rw[htop];show some (aM b1 (nm N t2))=_;rw[a1.nm]
  refine ag<|aE<|au<|eg hX.g_parse<|ad<|aC<|dq hX T.tri h1<|pick h2 h3 (by rfl) rfl rfl<|cg T.tri.dbt htop'<|ak ⟨dU hX.toBase,aw (i6 hX.toBase (by omega) hbits1 h4l ?_) hA.mo⟩
  refine bV hA.handled (by rfl) (by rfl)<|aF<|aq<|aF<|aq<|aF<|aq<|bW ?_
  refine ag<|aE<|bit h3 (by rfl) (by rfl) (by rfl) rfl rfl<|aq ?_
  refine ag<|az<|ar<|ab (.int 0)<|eg hX.g_KV<|aU ⟨_,rfl,?_⟩
  refine ag<|aZ<|dK hX (σ0:=σ0) h1 hA.mo T.tri<|au<|eg hX.g_ekv<|ad<|aK<|ab (.bytes fb)<|ab (.bytes b1)<|cB (by omega)<|ad<|ab (.bytes h4)<|ak ⟨gB hX,aw (gC hX.toBase (by rw[bg];omega) (fT fbb hbits1) (by simp[fb0]) h4l ⟨0,bR (fb++b1)++h4,N,D,c,rfl,.inl rfl,gD (by rw[bg];omega) h4l,T,λσ2 N2 D2 h2 T2 u1 u2 e1 e2=>hQ _ _ _ _ _ T2 u1 u2 ⟨h4,a1,e1,e2⟩⟩) hA.mo⟩
end
theorem E2(ihl:∀n,f3 X z a dx f d db r n l)(ihr:∀n,f3 X z a dx f d db r n rr)(S:SPre n N D (.br l rr) h p v q)(hhl:Named N l hl)(hhr:Named N rr hr)(T:Stt z a dx f d db r σ0 σ N D (c+6 * (n+1)))
  (hQ:∀V σ',SP z a dx f d db r σ0 n N D q (upd (.br l rr) p v) c V σ'→Q V σ'):CallOk X (19+2 * n) (.ref 337) [.ref a,.bytes p,.int 1,.bytes hl,.bytes hr,.bytes v,.bool false] σ Q:=by
 obtain⟨hl',hr',n',en,j1,j2,j3,j4,S',all⟩:=S.br
 have:=hhl.fn j1;subst this
 have:=hhr.fn j2;subst this
 have hN:=T.ok.W.ok
 obtain⟨n'',en',hwl,hwr⟩:=id S.wf
 have:n''=n':=by omega
 subst this
 have h64:=S.n64
 have hvz:=S.vz
 have hpl:=S.len
 refine CallOk.deep (k:=18+2 * n+1) (Fk hX λcode pm dflt A L hA=>?_) (by omega)
 refine ag<|az<|ar<|nX (p:=p) (by rfl) (by omega)<|eg hX.g_B0<|bJ ⟨_,rfl,?_⟩
 by_cases hc:p.take 1=[0]
 ·rw[show(List.take 1 p==[0])=true from bd.mpr hc,ah rfl]
  rw[ah hc] at S'
  have eupd:upd (.br l rr) p v=(match upd l (p.drop 1) v with|some l'=>some (.br l' rr)|none=>some (fZ [1] rr)):=ah hc
  refine ag<|aE<|cy (ab (.ref a)<|cD hX T.tri (by simp[b8])<|ad<|ab (.bytes hl)<|ad<|kG (p:=p) (by rfl) (by omega)<|ad<|ab (.bytes v)<|ad<|ab (.bool false)<|ak ⟨hX.m__set.keep,aw (ihl n'' [.bool false] (σ0:=σ0) (c:=c+6) S' (T.less (by omega)) (.inr rfl) λV σ1 ⟨N1,D1,T1,s1,s2,hV⟩=>?_) hA.mo⟩) (by rfl)
  have hN1:=T1.ok.W.ok
  cases hu:upd l (p.drop 1) v with
  |some l'=>
   rw[hu] at hV eupd
   obtain⟨h1,rfl,ka⟩:=hV
   have nm1:=(ka _ S'.len S'.bits S'.pre).named
   refine aq<|ag<|aE<|ab (.bytes hr)<|aq<|aB ?_
   refine yP hX (σ0:=σ0) (c:=c) hA.mo (by rfl) (by rfl) (by rfl) (hN1.blank _ _ nm1.ltx) (hN.blank _ _ hhr.ltx) (hN1.len _ _ nm1.ltx) (hN.len _ _ hhr.ltx) (T1.less (by omega)) λσ2 N2 D2 h2 T2 u1 u2 e1 e2=>hQ _ _ ⟨N2,D2,T2,s1.trans u1,s2.trans u2,?_⟩
   rw[eupd]
   refine⟨h2,rfl,λp' c1 c2 c3=>⟨h1,hr,nm1.mono u1,(hhr.mono s1).mono u1,e1,e2,?_⟩⟩
   have a1:=all p' c1 c2 c3
   split
   ·exact(ka _ (by rw[bA];omega) (eU c2 _) (fR _ c3)).mono u1 u2
   ·rename_i q';rw[ae q'] at a1;exact(a1.mono s1 s2).mono u1 u2
  |none=>
   rw[hu] at hV eupd
   subst hV
   have hq:q.drop 1=[]:=tZ λhq=>S'.some_ hq hu
   have hq0:∀p':By,p'.take 1=[1]→p'.length=n→p'.take q.length=q:=λp' _ _=>by
    cases q with
    |nil=>rfl
    |cons y q1=>
     exfalso
     rcases S.oth (by have:=fC S'.wf S'.len S'.bits (v:=v);rw[hu] at this;exact this.1) with h0|⟨p2,b1,b2,b3,b4,b5⟩
     ·cases h0
     ·have:=fC S'.wf S'.len S'.bits (v:=v)
      rw[hu] at this
      obtain⟨_,hall⟩:=this
      have e1:=S.pre
      cases p2 with
      |nil=>simp at b1;omega
      |cons x2 p2=>
       cases p with
       |nil=>simp at hpl;omega
       |cons x p1=>
        simp only[bc,gj,gv] at b4 e1
        have hx0:x=0:=by simpa using hc
        have:x2=0:=by rw[b4.1,←e1.1,hx0]
        subst this
        have lk:look (.br l rr) (0::p2)=look l p2:=by rw[dI,ah rfl]
        rw[lk] at b5
        refine b5 (hall p2 (by simp at b1;omega) (λc hc=>b2 c (aR _ hc)) λe=>b3 ?_)
        rw[e,hx0];rfl
   have sib:∀p'':By,p''.length=n''→aQ p''→K N1 D1 rr hr p'':=λp'' c1 c2=>by
    have:=all (1::p'') (by simp;omega) (il (.inr rfl) c2) (hq0 _ rfl (by simp;omega))
    rw[ae (by simp)] at this
    exact this.mono s1 s2
   have nmr:=(hhr.mono s1)
   refine aq<|ag<|aE<|ab (.bytes hr)<|aq<|aB ?_
   refine yQ hX (σ0:=σ0) (c:=c) hA.mo (by rfl) (by rfl) (by rfl) (.inl ⟨rfl,rfl,rfl⟩) nmr (y9 (sib (List.replicate n'' 0) (by simp) (λc hc=>by simp at hc;exact .inl hc.2))) hwr (by omega) S.short.2 (T1.less (by omega)) λm' σ2 N2 D2 h2 T2 u1 u2 hw=>hQ _ _ ⟨N2,D2,T2,s1.trans u1,s2.trans u2,?_⟩
   rw[eupd]
   exact⟨h2,rfl,λp' c1 c2 c3=>vM u1 u2 (λe=>sib _ (by rw[bA];simp;omega) (eU c2 _)) nmr hw⟩
 ·rw[show(List.take 1 p==[0])=false from ba.mpr hc,ae aT]
  rw[ae hc] at S'
  have eupd:upd (.br l rr) p v=(match upd rr (p.drop 1) v with|some r'=>some (.br l r')|none=>some (fZ [0] l)):=ae hc
  refine ag<|aE<|cy (ab (.ref a)<|cD hX T.tri (by simp[b8])<|ad<|ab (.bytes hr)<|ad<|kG (p:=p) (by rfl) (by omega)<|ad<|ab (.bytes v)<|ad<|ab (.bool false)<|ak ⟨hX.m__set.keep,aw (ihr n'' [.bool false] (σ0:=σ0) (c:=c+6) S' (T.less (by omega)) (.inr rfl) λV σ1 ⟨N1,D1,T1,s1,s2,hV⟩=>?_) hA.mo⟩) (by rfl)
  have hN1:=T1.ok.W.ok
  cases hu:upd rr (p.drop 1) v with
  |some l'=>
   rw[hu] at hV eupd
   obtain⟨h1,rfl,ka⟩:=hV
   have nm1:=(ka _ S'.len S'.bits S'.pre).named
   refine aq<|ag<|aE<|ab (.bytes hl)<|aq<|aB ?_
   refine yP hX (σ0:=σ0) (c:=c) hA.mo (by rfl) (by rfl) (by rfl) (hN.blank _ _ hhl.ltx) (hN1.blank _ _ nm1.ltx) (hN.len _ _ hhl.ltx) (hN1.len _ _ nm1.ltx) (T1.less (by omega)) λσ2 N2 D2 h2 T2 u1 u2 e1 e2=>hQ _ _ ⟨N2,D2,T2,s1.trans u1,s2.trans u2,?_⟩
   rw[eupd]
   refine⟨h2,rfl,λp' c1 c2 c3=>⟨hl,h1,(hhl.mono s1).mono u1,nm1.mono u1,e1,e2,?_⟩⟩
   have a1:=all p' c1 c2 c3
   split
   ·rename_i q';rw[ah q'] at a1;exact(a1.mono s1 s2).mono u1 u2
   ·exact(ka _ (by rw[bA];omega) (eU c2 _) (fR _ c3)).mono u1 u2
  |none=>
   rw[hu] at hV eupd
   subst hV
   have hq0:∀p':By,p'.take 1=[0]→p'.length=n→p'.take q.length=q:=λp' _ _=>by
    cases q with
    |nil=>rfl
    |cons y q1=>
     exfalso
     rcases S.oth (by have:=fC S'.wf S'.len S'.bits (v:=v);rw[hu] at this;exact this.1) with h0|⟨p2,b1,b2,b3,b4,b5⟩
     ·cases h0
     ·have:=fC S'.wf S'.len S'.bits (v:=v)
      rw[hu] at this
      obtain⟨_,hall⟩:=this
      have e1:=S.pre
      cases p2 with
      |nil=>simp at b1;omega
      |cons x2 p2=>
       cases p with
       |nil=>simp at hpl;omega
       |cons x p1=>
        simp only[bc,gj,gv] at b4 e1
        have hx0:x≠0:=by simpa using hc
        have hxx:x2=x:=by rw[b4.1,←e1.1]
        subst hxx
        have lk:look (.br l rr) (x2::p2)=look rr p2:=by rw[dI,ae hx0]
        rw[lk] at b5
        refine b5 (hall p2 (by simp at b1;omega) (λc hc=>b2 c (aR _ hc)) λe=>b3 ?_)
        rw[e];rfl
   have sib:∀p'':By,p''.length=n''→aQ p''→K N1 D1 l hl p'':=λp'' c1 c2=>by
    have:=all (0::p'') (by simp;omega) (il (.inl rfl) c2) (hq0 _ rfl (by simp;omega))
    rw[ah (by rfl)] at this
    exact this.mono s1 s2
   have nmr:=(hhl.mono s1)
   refine aq<|ag<|aE<|ab (.bytes hl)<|aq<|aB ?_
   refine yQ hX (σ0:=σ0) (c:=c) hA.mo (by rfl) (by rfl) (by rfl) (.inr ⟨rfl,rfl,rfl⟩) nmr (y9 (sib (List.replicate n'' 0) (by simp) (λc hc=>by simp at hc;exact .inl hc.2))) hwl (by omega) S.short.1 (T1.less (by omega)) λm' σ2 N2 D2 h2 T2 u1 u2 hw=>hQ _ _ ⟨N2,D2,T2,s1.trans u1,s2.trans u2,?_⟩
   rw[eupd]
   exact⟨h2,rfl,λp' c1 c2 c3=>vM u1 u2 (λe=>sib _ (by rw[bA];simp;omega) (eU c2 _)) nmr hw⟩
end
section
variable {X:Cx} {σ:St} {z:Nat} {a dx f d db:Addr} {r:By} (hX:Base5 X)
include hX
theorem Eo(ih:∀n,f3 X z a dx f d db r n t):f3 X z a dx f d db r n (.kv b t):=λ{p v q σ0 σ N D h c Q} al S T hal hQ=>by
 obtain⟨h',j1,j2,j3,_⟩:=S.k
 have hN:=T.ok.W.ok
 obtain⟨hb,hbits,hk,n',en,hw'⟩:=id S.wf
 have hb1:1≤b.length:=by cases b with|nil=>exact absurd rfl hb|cons _ _=>simp
 have h64:=S.n64
 have hpl:=S.len
 have hbl:(h==blank)=false:=ba.mpr (hN.blank _ _ j2)
 refine CallOk.deep (k:=19+2 * n+1) (vI hX hal λcode pm dflt A L hA=>?_) (by omega)
 refine ag<|az<|ar<|ab (.bytes h)<|eg hX.g_BLANK<|bJ ⟨_,rfl,?_⟩
 rw[hbl]
 refine aB<|ag<|aE<|au<|eg hX.g_parse<|ad<|aC<|dq hX T.tri (by rfl)<|ab (.bytes h)<|cg T.tri.dbt j3<|ak ⟨dU hX.toBase,aw (i6 hX.toBase (by omega) hbits (hN.len _ _ j1.ltx) ?_) hA.mo⟩
 refine bV hA.handled (by rfl) (by rfl)<|aF<|aq<|aF<|aq<|aF<|aq<|bW ?_
 refine ag<|az<|ar<|ab (.int 0)<|eg hX.g_LEAF<|aU ⟨_,rfl,?_⟩
 refine ag<|az<|ar<|ab (.int 0)<|eg hX.g_KV<|aU ⟨_,rfl,?_⟩
 refine ag<|az<|fE<|cJ (ab (.bytes p)<|dP (by omega) ?_) (by rfl)
 rw[show(!!p.isEmpty)=false from by cases p with|nil=>(simp at hpl;omega)|cons _ _=>rfl,ae aT]
 have hcall:CallOk X (19+2 * n) (.ref 329) [.ref a,.bytes p,.bytes h,.int 0,.bytes b,.bytes h',.bytes v,.bool false] σ Q:=by
  by_cases hm:p.take b.length=b
  ·exact Dn hX ih S hm j1 T hQ
  ·exact C7 hX S hm j1 T hQ
 exact aB<|ag<|aZ<|cy (ab (.ref a)<|cD hX T.tri (by simp[b8])<|ad<|ab (.bytes p)<|ad<|ab (.bytes h)<|ad<|ab (.int 0)<|ad<|ab (.bytes b)<|ad<|ab (.bytes h')<|ad<|ab (.bytes v)<|ad<|ab (.bool false)<|ak ⟨hX.m_kv.keep,aw hcall hA⟩) (by rfl)
theorem Ec(ihl:∀n,f3 X z a dx f d db r n l)(ihr:∀n,f3 X z a dx f d db r n rr):f3 X z a dx f d db r n (.br l rr):=λ{p v q σ0 σ N D h c Q} al S T hal hQ=>by
 obtain⟨hl,hr,j1,j2,j3,j4,_⟩:=S.k
 have hN:=T.ok.W.ok
 obtain⟨n',en,hwl,hwr⟩:=id S.wf
 have h64:=S.n64
 have hpl:=S.len
 have hbl:(h==blank)=false:=ba.mpr (hN.blank _ _ j3)
 refine CallOk.deep (k:=19+2 * n+1) (vI hX hal λcode pm dflt A L hA=>?_) (by omega)
 refine ag<|az<|ar<|ab (.bytes h)<|eg hX.g_BLANK<|bJ ⟨_,rfl,?_⟩
 rw[hbl]
 refine aB<|ag<|aE<|au<|eg hX.g_parse<|ad<|aC<|dq hX T.tri (by rfl)<|ab (.bytes h)<|cg T.tri.dbt j4<|ak ⟨dU hX.toBase,aw (i7 hX.toBase (hN.len _ _ j1.ltx) (hN.len _ _ j2.ltx) ?_) hA.mo⟩
 refine bV hA.handled (by rfl) (by rfl)<|aF<|aq<|aF<|aq<|aF<|aq<|bW ?_
 refine ag<|az<|ar<|ab (.int 1)<|eg hX.g_LEAF<|aU ⟨_,rfl,?_⟩
 refine ag<|az<|ar<|ab (.int 1)<|eg hX.g_KV<|aU ⟨_,rfl,?_⟩
 refine ag<|az<|ar<|ab (.int 1)<|eg hX.g_BR<|aU ⟨_,rfl,?_⟩
 refine ag<|az<|fE<|cJ (ab (.bytes p)<|dP (by omega) ?_) (by rfl)
 rw[show(!!p.isEmpty)=false from by cases p with|nil=>(simp at hpl;omega)|cons _ _=>rfl,ae aT]
 exact aB<|ag<|aZ<|cy (ab (.ref a)<|cD hX T.tri (by simp[b8])<|ad<|ab (.bytes p)<|ad<|ab (.int 1)<|ad<|ab (.bytes hl)<|ad<|ab (.bytes hr)<|ad<|ab (.bytes v)<|ad<|ab (.bool false)<|ak ⟨hX.m_br.keep,aw (E2 hX ihl ihr S j1 j2 T hQ) hA⟩) (by rfl)
theorem ow:∀(t:T) (n:Nat),f3 X z a dx f d db r n t
 |.leaf v,n=>CD hX
 |.kv b t,n=>Eo hX (λn=>ow t n)
 |.br l rr,n=>Ec hX (λn=>ow l n) (λn=>ow rr n)
theorem Tri.root(T:Tri z σ a dx f d db r N D)(I:Inst σ a dx l)(i1:l.length≤z)(i2:l.lookup ("db":Str)=some (.ref db))(i3:l.lookup ("hash_of":Str)=some (.ref f))(i5:∀p∈b8,l.lookup p.1=none):
  Tri (z+1) (σ.set dx (.ns (("root_hash",.bytes r')::l))) a dx f d db r' N D:=by
 have hx:∀{x:Addr} {tr:Trk},σ x=some tr→(∀l,tr≠.ns l)→(σ.set dx (.ns (("root_hash",.bytes r')::l))) x=some tr:=λ{x tr} h1 h2=>by
  unfold St.set
  rw[ae]
  ·exact h1
  ·intro e;rw[e,I.ns] at h1;cases h1;exact h2 _ rfl
 obtain⟨⟨o,c,co,cc,oc,code,pm,ct,doc,vs,t,e1,e2,e3,e4,e5,e6,e7,e8⟩,hd,d1⟩:=T.nm
 refine⟨⟨_,⟨hx I.obj (λ_ q=>by cases q),by unfold St.set;rw[ah rfl]⟩,by simp;omega,?_,?_,?_,λp hp=>?_⟩,⟨⟨o,c,co,cc,oc,code,pm,ct,doc,vs,t,hx e1 (λ_ q=>by cases q),e2,hx e3 (λ_ q=>by cases q),e4,e5,hx e6 (λ_ q=>by cases q),e7,e8⟩,hx hd (λ_ q=>by cases q),d1⟩,hx T.dbt (λ_ q=>by cases q),T.db1,T.ne⟩
 ·rw[a8,show(("db":Str)==("root_hash":Str))=false from by decide];exact i2
 ·rw[a8,show(("hash_of":Str)==("root_hash":Str))=false from by decide];exact i3
 ·rw[a8];simp
 ·rw[a8]
  have:(p.1==("root_hash":Str))=false:=by
   revert p;decide
  rw[this];exact i5 p hp
end
theorem eT(x:By):aQ (aA x):=λc hc=>by
 unfold aA at hc
 obtain⟨b,_,rfl⟩:=aP.mp hc
 cases b
 ·exact .inl rfl
 ·exact .inr rfl
theorem eW(x:By):(aA x).length=8 * x.length:=by unfold aA;rw[bB,nz]
section
variable {X:Cx} {σ:St} {z:Nat} {a dx f d db:Addr} {r:By} (hX:Base5 X)
include hX
theorem ky:aV X σ (.ref 200):=by obtain⟨_,_,F'⟩:=hX.f_vib;exact F'.keep
theorem uX:aV X σ (.ref 172):=by obtain⟨_,_,F'⟩:=hX.f_etb;exact F'.keep
structure Deed(z:Nat)(a dx f d db:Addr)(nn:Nat)(N D:BD)(q:By)(t':T)(c:Nat)(σ σ':St)(r':By)(N' D':BD):Prop where
 tri:Tri (z+1) σ' a dx f d db r' N' D'
 ok:SOk N' D'
 n:N'.length+c≤60000
 m:D'.length+c≤60000
 sn:BD.Sub N N'
 sd:BD.Sub D D'
 ka:KA nn N' D' t' r' q
 only:Only σ σ' [d,db,dx]
theorem yI{n:Nat}{N D:BD}{q:By}{t':T}{c:Nat}{σ1:St}{N' D':BD}{r':By}{Q:St→Prop}(T1:Stt z a dx f d db r σ σ1 N' D' c)(s1:BD.Sub N N')(s2:BD.Sub D D')(ka:KA n N' D' t' r' q)
  (hQ:∀σ' N' D' r',Deed z a dx f d db n N D q t' c σ σ' r' N' D'→Q σ'):∃l,Inst σ1 a dx l∧l.length≤z∧Q (σ1.set dx (.ns (("root_hash",.bytes r')::l))):=by
 obtain⟨l,I,i1,i2,i3,i4,i5⟩:=T1.tri.i
 refine⟨l,I,i1,hQ _ N' D' r' ⟨Tri.root hX T1.tri I i1 i2 i3 i5,T1.ok,T1.n,T1.m,s1,s2,ka,λb hb=>?_⟩⟩
 simp only[bv,fL,fU,not_or] at hb
 unfold St.set
 rw[ae hb.2.2]
 exact T1.only b (by simp[hb.1,hb.2.1])
theorem EM{x v q:By}{n:Nat}{t t':T}{N D:BD}{c:Nat}{Q:AV→St→Prop}(hx:x.length≤8)(S:SPre n N D t r (aA x) v q)(T:Stt z a dx f d db r σ σ N D (c+6 * (n+1)))(hz:z≤40)(hu:upd t (aA x) v=some t')
  (hQ:∀σ' N' D' r',Deed z a dx f d db n N D q t' c σ σ' r' N' D'→Q .none σ'):CallOk X (22+2 * n) (.ref 313) [.ref a,.bytes x,.bytes v] σ Q:=by
 obtain⟨code,pm,F⟩:=hX.m_set
 refine CallOk.deep (bG (k:=20+2 * n) F ["self","key","value"] (bk ["self","key","value"] λvs hv=>?_) (by rfl) λA L hA=>?_) (by omega)
 ·match vs,hv with|[v,w,u],_=>rfl
 refine ag<|cV<|au<|eg hX.g_vib<|ad<|ab (.bytes x)<|ak ⟨ky hX,aw (eE hX.toBase ?_) hA.mo⟩
 refine ag<|cV<|au<|eg hX.g_vib<|ad<|ab (.bytes v)<|ak ⟨ky hX,aw (eE hX.toBase ?_) hA.mo⟩
 refine ag<|aE<|cy (ab (.ref a)<|cD hX T.tri (by simp[b8])<|ad<|qM hX T.tri (by rfl)<|ad<|au<|eg hX.g_etb<|ad<|ab (.bytes x)<|ak ⟨uX hX,aw (kL hX.toBase (by omega)<|ad<|ab (.bytes v)<|ak ⟨hX.m__set.keep,aw (ow hX t n [] S T (.inl rfl) λV σ1 ⟨N1,D1,T1,s1,s2,hV⟩=>?_) hA⟩) hA.mo⟩) (by rfl)
 rw[hu] at hV
 obtain⟨r',rfl,ka⟩:=hV
 obtain⟨l,I,i1,q'⟩:=yI hX T1 s1 s2 ka hQ
 exact om hX.toBase4 I (by rfl) (by simp[atts]) (by omega) (aB q')
theorem B3{x q:By}{n:Nat}{t t':T}{N D:BD}{c:Nat}{Q:AV→St→Prop}(hx:x.length≤8)(S:SPre n N D t r (aA x) [] q)(T:Stt z a dx f d db r σ σ N D (c+6 * (n+1)))(hz:z≤40)(hu:upd t (aA x) []=some t')
  (hQ:∀σ' N' D' r',Deed z a dx f d db n N D q t' c σ σ' r' N' D'→Q .none σ'):CallOk X (22+2 * n) (.ref 351) [.ref a,.bytes x] σ Q:=by
 obtain⟨code,pm,F⟩:=hX.m_delete
 refine CallOk.deep (bG (k:=20+2 * n) F ["self","key"] (bk ["self","key"] λvs hv=>?_) (by rfl) λA L hA=>?_) (by omega)
 ·match vs,hv with|[v,w],_=>rfl
 refine ag<|cV<|au<|eg hX.g_vib<|ad<|ab (.bytes x)<|ak ⟨ky hX,aw (eE hX.toBase ?_) hA.mo⟩
 refine ag<|aE<|cy (ab (.ref a)<|cD hX T.tri (by simp[b8])<|ad<|qM hX T.tri (by rfl)<|ad<|au<|eg hX.g_etb<|ad<|ab (.bytes x)<|ak ⟨uX hX,aw (kL hX.toBase (by omega)<|ad<|da<|ak ⟨hX.m__set.keep,aw (ow hX t n [] S T (.inl rfl) λV σ1 ⟨N1,D1,T1,s1,s2,hV⟩=>?_) hA⟩) hA.mo⟩) (by rfl)
 rw[hu] at hV
 obtain⟨r',rfl,ka⟩:=hV
 obtain⟨l,I,i1,q'⟩:=yI hX T1 s1 s2 ka hQ
 exact om hX.toBase4 I (by rfl) (by simp[atts]) (by omega) (aB q')
theorem Ca(T0:Tri z σ a dx f d db r N D)(hN:NmOk N)(hD:gh N D)(hw:WF n t)(hn:n≤64)(hs:ck t)(hp:8 * x.length≤n)(hh:Named N t r)(hg:bz N D t (aA x)=some o)(hq:Q (.bool o.isSome) σ):CallOk X (22+n) (.ref 344) [.ref a,.bytes x] σ Q:=by
 obtain⟨code,pm,F⟩:=hX.m_exists
 refine CallOk.deep (bG (k:=21+n) F ["self","key"] (bk ["self","key"] λvs hv=>?_) (by rfl) λA L hA=>?_) (by omega)
 ·match vs,hv with|[v,w],_=>rfl
 refine ag<|cV<|au<|eg hX.g_vib<|ad<|ab (.bytes x)<|ak ⟨ky hX,aw (eE hX.toBase ?_) hA.mo⟩
 refine ag<|aZ<|rL<|cy (ab (.ref a)<|cD hX T0 (by simp[b8])<|ad<|ab (.bytes x)<|ak ⟨hX.m_get.keep,aw (y4 hX T0 hN hD hw hn hs hp hh hg<|dJ<|Ah ?_) hA⟩) (by rfl)
 rw[show(!(cz o).isNone)=o.isSome from by cases o<;>rfl]
 exact hq
theorem DN(I:Inst σ a dx [])(hQ:∀σ',(∀b,b≠dx→σ' b=σ b)→σ' dx=some (.ns [("root_hash",.bytes r),("hash_of",.ref f),("db",.ref db)])→Q .none σ'):CallOk X 2 (.ref 292) [.ref a,.ref db,.ref f,.bytes r] σ Q:=by
 obtain⟨T,o,v,n,⟨code,pm,F⟩,hT,hs⟩:=hX.m_init
 refine bG (k:=1) (l':=[.ref a,.ref db,.ref f,.bytes r]) F ["self","db","hash_of","root_hash"] (nE _ rfl hT hs λvs hv=>?_) (by rfl) λA L hA=>?_
 ·match vs,hv with
  |[v1,v2,v3,v4],_=>exact⟨_,[v1,v2,v3,v4],rfl,rfl,λg r=>r⟩
 have step:∀{σ:St} {l:List (Str×AV)} {y:Str} {V:AV},Inst σ a dx l→Inst (σ.set dx (.ns ((y,V)::l))) a dx ((y,V)::l):=λ{σ l y V} I=>⟨by unfold St.set;rw[ae I.ne];exact I.obj,by unfold St.set;rw[ah rfl]⟩
 refine ag<|aE<|ab (.ref db)<|om hX.toBase4 I (by rfl) (by simp[atts]) (by simp) ?_
 refine ag<|aE<|ab (.ref f)<|om hX.toBase4 (step I) (by rfl) (by simp[atts]) (by simp) ?_
 refine ag<|cV<|au<|eg hX.g_vib<|ad<|ab (.bytes r)<|ak ⟨ky hX,aw (eE hX.toBase ?_) hA.mo⟩
 refine ag<|aE<|ab (.bytes r)<|om hX.toBase4 (step (step I)) (by rfl) (by simp[atts]) (by simp)<|aB ?_
 refine hQ _ (λb hb=>?_) (by unfold St.set;rw[ah rfl])
 unfold St.set;rw[ae hb,ae hb,ae hb]
theorem Dw:aV X σ (.ref 404):=by
 obtain⟨K,hK,C⟩:=hX.cls
 exact .inr ⟨K,hK,C.keep⟩
theorem DM(hA:Room A 3)(nmf:NmF σ f d N)(hdb:σ db=some (.dict D))(db1:db≠1)(ne:db≠d)
  (hQ:∀a dx σ',σ a=none→σ dx=none→(∀b,b≠a→b≠dx→σ' b=σ b)→Tri 3 σ' a dx f d db r N D→Q (.ref a) σ'):cn X A ai (.ref 404) [.ref db,.ref f,.bytes r] σ Q:=by
 refine BP hX.toBase4 hA λa dx ha hdx hne=>?_
 have I:Inst ((σ.set dx (.ns [])).set a (.obj (instObj 404 dx))) a dx []:=⟨by unfold St.set;rw[ah rfl],by unfold St.set;rw[ae hne.symm,ah rfl]⟩
 refine DN hX I λσ' h1 h2=>⟨rfl,?_⟩
 have old:∀b,b≠a→b≠dx→σ' b=σ b:=λb e1 e2=>by
  rw[h1 b e2];unfold St.set;rw[ae e1,ae e2]
 have kp:∀{x:Addr} {tr:Trk},σ x=some tr→σ' x=some tr:=λ{x tr} h=>by
  rw[old x (λe=>by rw[e,ha] at h;cases h) (λe=>by rw[e,hdx] at h;cases h)];exact h
 obtain⟨⟨o,c,co,cc,oc,code,pm,ct,doc,vs,t,e1,e2,e3,e4,e5,e6,e7,e8⟩,hd,d1⟩:=nmf
 refine hQ a dx σ' ha hdx old ⟨⟨_,⟨?_,h2⟩,aG _,by rfl,by rfl,by rfl,λp hp=>?_⟩,⟨⟨o,c,co,cc,oc,code,pm,ct,doc,vs,t,kp e1,e2,kp e3,e4,e5,kp e6,e7,e8⟩,kp hd,d1⟩,kp hdb,db1,ne⟩
 ·rw[h1 a hne];exact I.obj
 ·have hs:p.1≠("root_hash":Str)∧p.1≠("hash_of":Str)∧p.1≠("db":Str):=by revert p;decide
  rw[a8,show(p.1==("root_hash":Str))=false from ba.mpr hs.1,a8,show(p.1==("hash_of":Str))=false from ba.mpr hs.2.1,a8,show(p.1==("db":Str))=false from ba.mpr hs.2.2]
  rfl
end
theorem Go.extOn(S:Sat X g σ s)(I:Addr→Prop)(hI:∀a,I a→Free X g σ a)(k:∀a o,s.heap.get? a=some o→¬I a→s'.heap.get? a=some o)
  (kf:∀a o,s.heap.get? a=some o→I a→P.a a∨KeptAs o (s'.heap.get? a))(hos:s'.os=s.os)(hg:s'.gens=s.gens):Go X P g σ s g σ s':=by
 have tk:∀{a t},TrkAt X.w g s.heap a t→¬I a→TrkAt X.w g s'.heap a t:=λ{a t} x hab=>by
  cases t with
  |dict l=>obtain⟨kvs,d,r⟩:=x;exact⟨kvs,d.at λo e=>k a o e hab,r⟩
  |ns l=>obtain⟨m,d,r⟩:=x;exact⟨m,d.at λo e=>k a o e hab,r⟩
  |obj o=>exact k a o x hab
 have gI:∀a o,g a=some o→¬I a:=λa o e q=>by rw[(hI a q).1] at e;cases e
 refine⟨⟨S.le,λa o e=>k a o (S.in_ a o e) (gI a o e),λa t e=>⟨(S.trk a t e).1,tk (S.trk a t e).2 λq=>?_⟩,λp hp=>?_⟩,.refl g,λ_ _ _ _=>rfl,λ_ _ _ _=>eD,
  hos,λa o e hp=>?_,λa o e h1 h2 hp=>?_,λp hp o vs e hd=>⟨#[],?_⟩,by rw[hg];exact aG _,λi x e _=>by rw[hg];exact e,λi x e=>.inl (by rw[hg] at e;exact e)⟩
 ·rw[(hI a q).2.1] at e;cases e
 ·obtain⟨e1,e2,e3,ps,e4⟩:=S.tab p hp
  refine⟨e1,e2,e3,ps,jj e4 (λo e=>k _ o e ?_) (λo e=>k _ o e λq=>(hI _ q).2.2 p hp rfl)⟩
  cases q:g p.1 with
  |none=>exact absurd q e3
  |some o=>exact gI _ o q
 ·by_cases q:I a
  ·rcases kf a o e q with h|h
   ·exact absurd h hp
   ·rcases h with h|⟨_,sl,h⟩
    ·exact⟨_,h⟩
    ·exact⟨_,h⟩
  ·exact⟨o,k a o e q⟩
 ·by_cases q:I a
  ·rcases kf a o e q with h|h
   ·exact absurd h hp
   ·exact h
  ·exact .inl (k a o e q)
 ·rw[k _ _ e λq=>(hI _ q).2.2 p hp rfl];congr 1;obtain⟨c,d,dt,sl⟩:=o;subst hd;simp
def FrOk(X:Cx)(l:List Env)(g:View)(σ:St)(h:Heap):Prop:=∀env∈l,env.scope.kind=.function∧∃L o es ep,env.frame=some L∧h.get? L=some o∧o.data=.dict es ep∧Free X g σ L
def lD(l:List Env)(N:Addr):Prop:=∀env∈l,∀L,env.frame=some L→L<N
theorem FrOk.go(F:FrOk X l g σ s.heap)(G:Go X P g σ s g' σ' s')(hp:∀env∈l,∀L,env.frame=some L→¬P.a L):FrOk X l g' σ' s'.heap:=λenv he=>by
 obtain⟨h1,L,o,es,ep,h2,h3,h4,h5⟩:=F env he
 refine⟨h1,L,?_⟩
 have nP:=hp env he L h2
 rcases G.run.keep L o h3 h5.2.1 h5.2.2 nP with q|⟨_,sl,q⟩
 ·exact⟨o,es,ep,h2,q,h4,h5.go G h3 nP⟩
 ·exact⟨_,es,ep,h2,q,h4,h5.go G h3 nP⟩
theorem FrOk.lt{X:Cx}{l:List Env}{g:View}{σ:St}{s:Shared}(F:FrOk X l g σ s.heap):lD l s.heap.objs.size:=λenv he L hL=>by
 obtain⟨h1,L',o,es,ep,h2,h3,h4,h5⟩:=F env he
 rw[hL] at h2;cases h2
 exact aY h3
theorem FrOk.cons(F:FrOk X l g σ s.heap)(Fr:Frm X env m g σ s)(hf:env.frame=some env.locals):FrOk X (env::l) g σ s.heap:=λe he=>by
 rcases bv.mp he with rfl|he
 ·obtain⟨mC,⟨o,es,ep,ho,hd,_⟩,_⟩:=Fr.ns
  exact⟨Fr.kind,_,o,es,ep,hf,ho,hd,Fr.free⟩
 ·exact F e he
def ExcIn(X:Cx)(g:View)(σ:St)(h:Heap)(e:Addr)(t:Option Addr):Prop:=
 ∃oe vs a0,h.get? e=some oe∧oe.cls=.type "KeyError"∧oe.data=.fields vs∧vs[0]?=some a0∧match t with
  |none=>vs[1]?=some .none
  |some T=>vs[1]?=some (.ref T)∧T≠e∧Free X g σ T∧∃oT ts,h.get? T=some oT∧oT.data=.fields ts∧ts[3]?=some .none
def hid(l:List Env)(e:Addr)(t:Option Addr):List Addr:=l.filterMap (·.frame)++(e::t.toList)
def tT(e:Addr)(t:Option Addr):Pv:=⟨λa=>a=e∨t=some a,λ_=>False⟩
theorem vJ(S:Sat X g σ s)(F:FrOk X l g σ s.heap)(fe:Free X g σ e)(ft:∀T,t=some T→Free X g σ T)
  (k:(hideAll s.heap (hid l e t)).StaysIn s'.heap)(u:s.heap.UpToSlots s'.heap)(hos:s'.os=s.os)(hg:s'.gens=s.gens):Go X (tT e t) g σ s g σ s':=by
 have fr:∀a,a∈l.filterMap (·.frame)→Free X g σ a∧∀o,s.heap.get? a=some o→∃es ep,o.data=.dict es ep:=λa ha=>by
  obtain⟨env,he,hf⟩:=qg.mp ha
  obtain⟨_,L,o,es,ep,h2,h3,h4,h5⟩:=F env he
  rw[hf] at h2;cases h2
  exact⟨h5,λo' q=>by rw[h3] at q;cases q;exact⟨es,ep,h4⟩⟩
 refine Go.extOn S (λa=>a∈hid l e t) (λa ha=>?_) (λa o ho hn=>k a o (hideAll_get _ ho hn)) (λa o ho ha=>?_) hos hg
 ·rcases dQ.mp ha with h|h
  ·exact(fr a h).1
  ·rcases bv.mp h with rfl|h
   ·exact fe
   ·exact ft a (by simpa using h)
 ·rcases dQ.mp ha with h|h
  ·obtain⟨es,ep,hd⟩:=(fr a h).2 o ho
   obtain⟨sl,q⟩:=u a o ho λvs q=>by rw[hd] at q;cases q
   exact .inr (.inr ⟨⟨es,ep,hd⟩,sl,q⟩)
  ·rcases bv.mp h with rfl|h
   ·exact .inl (.inl rfl)
   ·exact .inl (.inr (by simpa using h))
theorem uM:∀{l:List Env},FrOk X l g σ h→(∀a∈l.filterMap (·.frame),base.get? a=none)→h.FunFrames base l
 |[],_,_=>trivial
 |env::l,F,hb=>by
  obtain⟨h1,L,o,es,ep,h2,h3,h4,h5⟩:=F env (bj)
  refine⟨by rw[h1];simp,⟨L,o,h2,hb L (qg.mpr ⟨env,bj,h2⟩),h3,λvs q=>by rw[h4] at q;cases q⟩,uM (λe he=>F e (aR _ he)) λa ha=>hb a ?_⟩
  obtain⟨e,he,hf⟩:=qg.mp ha
  exact qg.mpr ⟨e,aR _ he,hf⟩
theorem Eb{X:Cx}{l:List Env}{g:View}{σ:St}{s s':Shared}{e:Addr}{t:Option Addr}{a0:Value}(S:Sat X g σ s)(F:FrOk X l g σ s.heap)(ft:∀T,t=some T→Free X g σ T)(u:s.heap.UpToSlots s'.heap)
  (x:s'.heap.TracedW (hideAll s.heap (hid l e t)) e (.type "KeyError") a0):∃T',ExcIn X g σ s'.heap e (some T')∧(s.heap.get? T'=none∨t=some T'):=by
 obtain⟨oe,vs,T',oT,ts,h1,⟨h2,h3⟩,h4,h5,h6,h7,h8,h9,h10⟩:=x
 have nf:T' ∉ l.filterMap (·.frame):=λha=>by
  obtain⟨env,he,hf⟩:=qg.mp ha
  obtain⟨_,L,o,es,ep,q2,q3,q4,q5⟩:=F env he
  rw[hf] at q2;cases q2
  obtain⟨sl,q⟩:=u T' o q3 λvs q=>by rw[q4] at q;cases q
  rw[h8] at q;cases q
  rw[q4] at h9;cases h9
 have cases_:s.heap.get? T'=none∨t=some T':=by
  cases q:s.heap.get? T' with
  |none=>exact .inl rfl
  |some o=>
   right
   by_cases hm:T'∈hid l e t
   ·rcases dQ.mp hm with h|h
    ·exact absurd h nf
    ·rcases bv.mp h with rfl|h
     ·exact absurd rfl h7
     ·simpa using h
   ·rw[hideAll_get _ q hm] at h6;cases h6
 refine⟨T',⟨oe,vs,a0,h1,h2,h4,h3,h5,h7,?_,oT,ts,h8,h9,h10⟩,cases_⟩
 rcases cases_ with q|q
 ·refine⟨View.none_of S.in_ q,?_,λp hp r=>?_⟩
  ·cases w:σ T' with
   |none=>rfl
   |some tr=>obtain⟨o,r⟩:=(S.trk T' tr w).2.at;rw[q] at r;cases r
  ·obtain⟨_,_,_,ps,e4⟩:=S.tab p hp
   obtain⟨o,r',_⟩:=nQ e4
   rw[r,q] at r';cases r'
 ·exact ft T' q
theorem ExcIn.base{X:Cx}{g:View}{σ:St}{s:Shared}{e:Addr}{T:Addr}{l:List Env}(x:ExcIn X g σ s.heap e (some T)):∃a0,s.heap.TracedW (hideAll s.heap (hid l e (some T))) e (.type "KeyError") a0:=by
 obtain⟨oe,vs,a0,h1,h2,h3,h4,h5,h6,h7,oT,ts,h8,h9,h10⟩:=x
 exact⟨a0,oe,vs,T,oT,ts,h1,⟨h2,h4⟩,h3,h5,qB _ (by simp[hid]),h6,h8,h9,h10⟩
theorem qL(h:Heap)(l:List Addr):(hideAll h l).StaysIn h:=λb o q=>of_hideAll _ q
section
variable {X:Cx} {A:Around} {env:Env} {outer:List Env} {g:View} {σ:St} {s:Shared} {e:Addr} {t:Option Addr} {E:Value→Shared→Prop}
theorem CX{Q:Unit→Shared→Prop}(hfr:A.frames=some (env::outer))(hf:env.frame=some env.locals)(S:Sat X g σ s)(F:FrOk X (env::outer) g σ s.heap)(fe:Free X g σ e)(x:ExcIn X g σ s.heap e t)
  (h:∀h' T',Go X (tT e t) g σ s g σ {s with heap:=h'}→ExcIn X g σ h' e (some T')→(s.heap.get? T'=none∨t=some T')→Q () {s with heap:=h'}):wpAny (model P0 X.w) A (leaving env (.ref e)) Q E s:=by
 have ft:∀T,t=some T→Free X g σ T:=λT q=>by subst q;obtain⟨_,_,_,_,_,_,_,_,_,f,_⟩:=x;exact f
 have ff:s.heap.FunFrames (hideAll s.heap (hid (env::outer) e t)) (env::outer):=uM F λa ha=>qB _ (j0 _ ha)
 have en:(hideAll s.heap (hid (env::outer) e t)).get? e=none:=qB _ (by simp[hid])
 have fin:∀{cls a0 h'},cls=.type "KeyError"→Heap.LeftW (hideAll s.heap (hid (env::outer) e t)) (env::outer) e cls a0 s.heap h'→Q () {s with heap:=h'}:=λ{cls a0 h'} hc L=>by
  subst hc
  obtain⟨k1,k2,k3,k4⟩:=L
  obtain⟨T',x',c⟩:=Eb (s':={s with heap:=h'}) S F ft k4 k3
  exact h h' T' (vJ (s':={s with heap:=h'}) S F fe ft k1 k4 rfl rfl) x' c
 cases t with
 |none=>
  obtain⟨oe,vs,a0,h1,h2,h3,h4,h5⟩:=x
  exact wpAny_leaving_firstW hfr ff hf h1 (qL _ _) en h3 h5 h4 λh' L=>fin h2 L
 |some T=>
  obtain⟨a0,tr⟩:=x.base (l:=env::outer)
  exact wpAny_leaving_nextW hfr ff hf tr (qL _ _) en λh' L=>fin rfl L
end
def Ex0(s s₁:Shared):Prop:=∀a o,s.heap.get? a=some o→∃o',s₁.heap.get? a=some o'
theorem Ex0.none(x:Ex0 s s₁)(h:s₁.heap.get? a=none):s.heap.get? a=none:=by
 cases q:s.heap.get? a with
 |none=>rfl
 |some o=>obtain⟨o',q'⟩:=x a o q;rw[h] at q';cases q'
theorem Go.ex0(G:Go X am g σ s g' σ' s'):Ex0 s s':=λa o e=>G.dom e λh=>h
theorem Frm.ex0(F:Frm X env m' g' σ' s')(G:Go X (ax N env) g σ s g' σ' s'):Ex0 s s':=λa o e=>by
 by_cases hp:(ax N env).a a
 ·rcases hp.2 with q|⟨x,q⟩
  ·rw[q];exact F.atL
  ·exact F.csz x a q
 ·exact G.dom e hp
def PR(X:Cx)(P:Pv)(env:Env)(g:View)(σ:St)(s:Shared):Value→Shared→Prop:=λv s'=>∃e t g' m',v=.ref e∧Go X P g σ s g' σ s'∧Frm X env m' g' σ s'∧Free X g' σ e∧s.heap.get? e=none∧ExcIn X g' σ s'.heap e t∧(∀T,t=some T→s.heap.get? T=none)
def PC(X:Cx)(g:View)(σ:St)(s:Shared):Value→Shared→Prop:=λv s'=>∃e t g',v=.ref e∧Go X am g σ s g' σ s'∧Free X g' σ e∧s.heap.get? e=none∧ExcIn X g' σ s'.heap e t∧(∀T,t=some T→s.heap.get? T=none)
theorem PR.after(h:PR X P env g₁ σ s₁ v s')(G:Go X P g σ s g₁ σ s₁)(x:Ex0 s s₁):PR X P env g σ s v s':=by
 obtain⟨e,t,g',m',h1,h2,h3,h4,h5,h6,h7⟩:=h
 exact⟨e,t,g',m',h1,G.trans h2,h3,h4,x.none h5,h6,λT q=>x.none (h7 T q)⟩
theorem PC.after(h:PC X g₁ σ s₁ v s')(G:Go X am g σ s g₁ σ s₁):PC X g σ s v s':=by
 obtain⟨e,t,g',h1,h2,h4,h5,h6,h7⟩:=h
 exact⟨e,t,g',h1,G.trans h2,h4,G.ex0.none h5,h6,λT q=>G.ex0.none (h7 T q)⟩
theorem PC.pr(h:PC X g σ s v s')(F:Frm X env m g σ s):PR X P env g σ s v s':=by
 obtain⟨e,t,g',h1,h2,h4,h5,h6,h7⟩:=h
 exact⟨e,t,g',m,h1,h2.any,F.go h2,h4,h5,h6,h7⟩
abbrev gU{α:Type}:α→Shared→Prop:=λ_ _=>False
section
variable (X:Cx) (A:Around) (outer:List Env)
def mI(env:Env)(m:Mp)(e:Expr)(σ:St):Prop:=∀g s,Sat X g σ s→Frm X env m g σ s→FrOk X (env::outer) g σ s.heap→wpAny (model P0 X.w) A (eval e env) gU (PC X g σ s) s
def tP(N:Addr)(env:Env)(m:Mp)(st:Stmt)(σ:St):Prop:=∀g s,Sat X g σ s→Frm X env m g σ s→FrOk X (env::outer) g σ s.heap→wpAny (model P0 X.w) A (exec st env) gU (PR X (ax N env) env g σ s) s
def gH(N:Addr)(env:Env)(m:Mp)(st:List Stmt)(σ:St):Prop:=∀g s,Sat X g σ s→Frm X env m g σ s→FrOk X (env::outer) g σ s.heap→wpAny (model P0 X.w) A (execs st env) gU (PR X (ax N env) env g σ s) s
def vC(env:Env)(f:AV)(l:List AV)(σ:St):Prop:=∀g s fv vs,Sat X g σ s→FrOk X (env::outer) g σ s.heap→Rep g f fv→RepL g l vs→wpAny (model P0 X.w) A (call fv vs []) gU (PC X g σ s) s
end
def oG(X:Cx)(k:Nat)(f:AV)(l:List AV)(σ:St):Prop:=∀A g s fv vs outer,Room A k→A.frames=some outer→FrOk X outer g σ s.heap→Sat X g σ s→Rep g f fv→RepL g l vs→codeAny (model P0 X.w) A (.call fv ⟨vs,[]⟩) (λr s'=>∃v,r=.error v∧PC X g σ s v s') s
section
variable {X:Cx} {A:Around} {outer:List Env} {env:Env} {m:Mp} {σ:St} {N:Addr}
theorem nM(h:oG X k f l σ)(hA:Room A k)(hfr:A.frames=some (env::outer)):vC X A outer env f l σ:=λg s fv vs S F r rl=>
 ku (cI (h A g s fv vs _ hA hfr F S r rl) λ_ _ ⟨v,e,p⟩=>by subst e;exact p)
theorem eB{st:Stmt}{rest:List Stmt}(h:tP X A outer N env m st σ):gH X A outer N env m (st::rest) σ:=λg s S F K=>
 uk (aj (h g s S F K) (λ_ _ x=>x.elim) i2)
theorem Cf{st:Stmt}{rest:List Stmt}(hf:env.frame=some env.locals)(ho:lD outer N)(hN:N≤env.locals)(hl:∀e∈outer,∀L,e.frame=some L→¬(ax N env).a L)
  (h:Ex X A ai (ax N env) env m st σ λFl m₁ σ₁=>Fl=.next∧σ₁=σ∧gH X A outer N env m₁ rest σ):gH X A outer N env m (st::rest) σ:=λg s S F K=>
 uk (aj (h g s S F) (λf s₁ ⟨g₁,Fl,m₁,σ₁,G₁,F₁,r₁,e1,e2,h₁⟩=>by
  subst e1 e2
  cases r₁
  have K₁:FrOk X (env::outer) g₁ σ₁ s₁.heap:=FrOk.cons (FrOk.go (λe he=>K e (aR _ he)) G₁ hl) F₁ hf
  exact aj (h₁ g₁ s₁ G₁.sat F₁ K₁) i2 λ_ _ x=>x.after G₁ (F₁.ex0 G₁)) λ_ _ x=>x.elim)
theorem oq(K:FrOk X (env::outer) g σ s.heap)(G:Go X am g σ s g' σ s'):FrOk X (env::outer) g' σ s'.heap:=K.go G λ_ _ _ _ h=>h
theorem jk{pos}(h:EvB X A ai env m t σ λc σ₁=>σ₁=σ∧if c then gH X A outer N env m a σ else gH X A outer N env m b σ):tP X A outer N env m (.If t a b pos) σ:=λg s S F K=>
 wpAny_If (aj (h g s S F) (λc s₁ ⟨g₁,σ₁,G₁,e1,h₁⟩=>by
  subst e1
  cases c
  ·exact aj (h₁ g₁ s₁ G₁.sat (F.go G₁) (oq K G₁)) (λ_ _ x=>x.elim) λ_ _ x=>x.after G₁.any G₁.ex0
  ·exact aj (h₁ g₁ s₁ G₁.sat (F.go G₁) (oq K G₁)) (λ_ _ x=>x.elim) λ_ _ x=>x.after G₁.any G₁.ex0) λ_ _ x=>x.elim)
theorem nF{pos}(h:mI X A outer env m e σ):tP X A outer N env m (.Return (some e) pos) σ:=λg s S F K=>
 wpAny_Return_some (aj (h g s S F K) (λ_ _ x=>x.elim) λ_ _ x=>x.pr F)
theorem A4{pos}(h:mI X A outer env m value σ)(hs:swapsWithSole [t] value pos.line env=pure false:=by rfl):tP X A outer N env m (.Assign [t] value pos) σ:=λg s S F K=>by
 rw[exec_Assign]
 refine ac (bL ?_)
 rw[hs]
 refine ac (ao ?_)
 rw[ae (by decide)]
 exact ac (aj (h g s S F K) (λ_ _ x=>x.elim) λ_ _ x=>x.pr F)
theorem C6{pos}(hh:A.handled=none)(ha:a≠1)(hσ:σ a=some (.dict l))(hl:l.lookup k=none)(h:Ev X A ai env m value σ λV σ₁=>V=.ref a∧σ₁=σ∧Ev X A ai env m slice σ λW σ₂=>W=.bytes k∧σ₂=σ):
  mI X A outer env m (.Subscript value slice pos) σ:=λg s S F K=>
 Subscript_ (aj (h g s S F) (λa s₁ ⟨g₁,V,σ₁,G₁,r₁,e1,e2,h₁⟩=>by
  subst e1 e2
  exact aj (h₁ g₁ s₁ G₁.sat (F.go G₁)) (λb s₂ ⟨g₂,W,σ₂,G₂,r₂,e1,e2⟩=>by
   subst e1 e2
   have r₁':=r₁.le G₂.le
   unfold Rep at r₁' r₂;obtain⟨t,rfl⟩:=r₂;subst r₁'
   obtain⟨kvs,hd,hk⟩:=dX G₂.sat hσ
   have e:=(hk.value (k:=k)).2 hl
   refine aj (ji hd.typeIs slot_dict_getitem.lookup (wpAny_getItem_missing_of (Q:=gU) (E:=PC X g₂ σ₂ s₂) (knd:=bytesKind P0 X.w) (k:=k) (i0 P0 X.w k t) (by simpa [sysModules] using ha) hh hd.mapOf e λh' ea x=>?_)) (λ_ _ x=>x.elim) λ_ _ x=>x.after (G₁.trans G₂)
   obtain⟨ob,t0,h1,h2,h3⟩:=x.there
   have G:Go X am g₂ σ₂ s₂ g₂ σ₂ {s₂ with heap:=h',toks:=s₂.toks+1}:=Go.keeps G₂.sat x.keeps
   refine⟨ea,none,g₂,rfl,G,?_,x.new,⟨ob,_,t0,h1,h2,h3,rfl,rfl⟩,λ_ q=>by cases q⟩
   refine⟨View.none_of G₂.sat.in_ x.new,?_,λp hp r=>?_⟩
   ·cases w:σ₂ ea with
    |none=>rfl
    |some tr=>obtain⟨o,r⟩:=(G₂.sat.trk ea tr w).2.at;rw[x.new] at r;cases r
   ·obtain⟨_,_,_,ps,e4⟩:=G₂.sat.tab p hp
    obtain⟨o,r',_⟩:=nQ e4
    rw[r,x.new] at r';cases r') λ_ _ x=>x.elim) λ_ _ x=>x.elim)
theorem zV(h:wpAny (model P0 X.w) A (evalArgs fv true args []) gU E s):wpAny (model P0 X.w) A (callWith pos fv first args []) R E s:=by
 unfold callWith
 exact ac (bT (aj h (λ_ _ x=>x.elim) i2))
theorem BM(h:Ev X A ai env m fe σ λ_ σ₁=>σ₁=σ)(ha:mI X A outer env m arg σ)
  (he:eval (.Call fe [arg] [] pos) env=(do callWith pos (←eval fe env) [] (backTo pos (starEach [arg] env)) (backToKw pos (keywordEach [] env))):=by rfl)
  (hst:starEach [arg] env=[(false,eval arg env)]:=by rfl):mI X A outer env m (.Call fe [arg] [] pos) σ:=λg s S F K=>
 Call_ (aj (h g s S F) (λfv s₁ ⟨g₁,f,σ₁,G₁,r₁,e1⟩=>by
  subst e1
  rw[hst]
  refine zV (X:=X) (mM ?_)
  refine aj (E:=PC X g₁ σ₁ s₁) (Q:=gU) ?_ i2 λ_ _ x=>x.after G₁
  unfold spliced
  exact ac (aj (ha g₁ s₁ G₁.sat (F.go G₁) (oq K G₁)) (λ_ _ x=>x.elim) i2)) λ_ _ x=>x.elim) he
end
section
variable {X:Cx} {A:Around} {outer:List Env} {env:Env} {m:Mp} {σ:St} {N:Addr}
theorem Bk(S:Sat X g σ s)(F:Frm X env m g σ s)(K:FrOk X (env::outer) g σ s.heap)(r:Rep g f fv)(rf:RepL g first fvs)
  (h:dz X A ai env m args pos σ λl σ₂=>σ₂=σ∧aV X σ f∧vC X A outer env f (first++l) σ)
  (hst:(starEach args env).all (λx=> !x.1)=true):wpAny (model P0 X.w) A (callWith pos fv fvs (backTo pos (starEach args env)) []) gU (PC X g σ s) s:=by
 have hpl:(backTo pos (starEach args env)).any (·.1)=false:=by
  rw[kt,qd];simp only[hst];rfl
 refine qF (args:=backTo pos (starEach args env)) r hpl ?_
 have fin:wpAny (model P0 X.w) A (spliced (backTo pos (starEach args env))) (λvs s₁=>(∃g₁ σ₁,Sat X g₁ σ₁ s₁∧aV X σ₁ f)∧wpAny (model P0 X.w) A (call fv (fvs++vs) []) gU (PC X g σ s) s₁) (PC X g σ s) s:=
  aj (h g s S F) (λvs s₁ ⟨g₁,l,σ₁,G₁,r₁,e,Kf,c⟩=>by
   subst e
   exact⟨⟨g₁,_,G₁.sat,Kf⟩,aj (c g₁ s₁ fv (fvs++vs) G₁.sat (oq K G₁) (r.le G₁.le) ((rf.le G₁.le).append r₁)) i2 λ_ _ x=>x.after G₁⟩) λ_ _ x=>x.elim
 cases hl:backTo pos (starEach args env) with
 |nil=>
  rw[hl] at fin
  unfold evalArgs
  show wpAny _ A (spliced []>>= _) _ _ s
  refine ac (aj fin (λvs s₁ h₁=>ac (ao ?_)) i2)
  refine bT ?_
  exact ac (ao (ac (ao (ao h₁))))
 |cons x rest=>
  obtain⟨b,t⟩:=x
  rw[hl] at fin hpl
  have:b=false:=by
   cases b
   ·rfl
   ·simp at hpl
  subst this
  exact mM fin
theorem nU
  (h:Ev X A ai env m o σ λV σ₁=>σ₁=σ∧iu X A ai name V σ λF σ₂=>σ₂=σ∧dz X A ai env m args pos σ λl σ₃=>σ₃=σ∧aV X σ F∧vC X A outer env F (V::l) σ)
  (he:eval (.Call (.Attribute o name apos) args [] pos) env=(do
   let ov ←eval o env
   standAt apos.atName
   let (f,first) ←holding [ov] (getMethod ov name pl)
   callWith pos f first (backTo pos (starEach args env)) []))
  (hst:(starEach args env).all (λx=> !x.1)=true:=by rfl):mI X A outer env m (.Call (.Attribute o name apos) args [] pos) σ:=λg s S F K=>
 MethodCall_ (pl:=pl) (aj (h g s S F) (λov s₁ ⟨g₁,V,σ₁,G₁,r₁,e1,h₁⟩=>by
  subst e1
  exact aj (h₁ g₁ s₁ ov pl G₁.sat r₁) (λfx s₂ ⟨g₂,f,σ₂,G₂,r₂,e,e2,h₂⟩=>by
   subst e2
   rw[e]
   exact aj (Bk (first:=[V]) (fvs:=[ov]) G₂.sat (F.go (G₁.trans G₂)) (oq K (G₁.trans G₂)) r₂ (.cons (r₁.le G₂.le) .nil) h₂ hst) i2 λ_ _ x=>x.after (G₁.trans G₂)) λ_ _ x=>x.elim) λ_ _ x=>x.elim) he
theorem rM(F:FnAt X a fd body)(xs:List Str)
  (hbind:∀g s vs,Sat X g σ s→RepL g l vs→∃vs',RepL g l' vs'∧BindsTo s fd ⟨vs,[]⟩ (xs.zip vs'))
  (hx:xs.all (λx=>fd.scope.names.lookup x==some .local||fd.scope.names.lookup x==some .cell)=true)
  (h:∀A L outer,Room A k→A.frames=some (callEnvC fd L a::outer)→lD outer L→gH X A outer L (callEnvC fd L a) (cF xs l' Mp.nil) body σ)
  (hclo:fd.closure=[]:=by rfl)(hco:fd.scope.isCoroutine=false:=by rfl)(hgen:fd.scope.isGenerator=false:=by rfl)(hk:fd.scope.kind=.function:=by rfl):
  oG X (k+1) (.ref a) l σ:=λA g s fv vs outer hA hfr K S hf r=>by
 unfold Rep at hf
 subst hf
 obtain⟨o,ho,hd⟩:=F.obj S
 obtain⟨vs',r',hb⟩:=hbind g s vs S r
 refine t4 (by have:=hA.depth;omega) ho hd hco hgen F.body (F.cdRec S) (hb _ _ _ _ ?_)
 rw[hclo]
 refine jY hk (λy hy=>?_) λenv he s' x=>?_
 ·have hm:y.1∈xs:=(mV hy).1
  have:=gq.mp hx y.1 hm
  rw[iS,bd,bd] at this
  rcases this with q|q
  ·exact .inl q
  ·exact .inr ⟨q,let ⟨c,hc⟩:=gx fd.scope.names (s.heap.objs.size+1) [] q;by rw[hc];rfl⟩
 ·have he':env=callEnvC fd s.heap.objs.size a:=he
  subst he'
  have Fr:=iY (a:=a) S r' hk hx x
  have G:=jf S x (P:=am)
  have hfr':(A.deeper (callEnvC fd s.heap.objs.size a)).frames=some (callEnvC fd s.heap.objs.size a::outer):=wQ hfr
  have K':FrOk X (callEnvC fd s.heap.objs.size a::outer) g σ s'.heap:=FrOk.cons (frok_go' K G) Fr rfl
  refine⟨(F.noLimit S).keeps x.toInCall.keep,codeAny_func (aj (h (A.deeper _) s.heap.objs.size outer (Room.deeper hA) hfr' K.lt g s' G.sat Fr K') (λf s'' x=>x.elim) λv s'' ⟨e,t,g',m',h1,h2,h3,h4,h5,h6,h7⟩=>?_)⟩
  subst h1
  have Pnew:∀b,(ax s.heap.objs.size (callEnvC fd s.heap.objs.size a)).a b→s.heap.objs.size≤b:=λb hb=>hb.1
  have G1:Go X am g σ s g' σ s'':=Go.weaken (Go.trans (G.any) h2) (io (aG _))
  have K'':FrOk X (callEnvC fd s.heap.objs.size a::outer) g' σ s''.heap:=FrOk.cons (frok_go' K G1) h3 rfl
  refine CX hfr' rfl h2.sat K'' h4 h6 λh' T' G3 x3 c3=>?_
  have x0:Ex0 s s'':=G1.ex0
  have en:s.heap.get? e=none:=G.ex0.none h5
  have tn:∀T,t=some T→s.heap.get? T=none:=λT q=>G.ex0.none (h7 T q)
  have G4:Go X am g σ s g' σ {s'' with heap:=h'}:=by
   refine Go.comp G1 G3 ⟨λb o q hb=>?_,λ_ _ q=>q⟩
   rcases hb with hb|hb
   ·rw[hb,en] at q;cases q
   ·rw[tn b hb] at q;cases q
  have fe:Free X g' σ e:=h4
  refine⟨.ref e,rfl,e,some T',g',rfl,G4,h4,en,x3,λT q=>?_⟩
  cases q
  rcases c3 with q|q
  ·exact x0.none q
  ·exact tn _ q
where
 frok_go' {outer:List Env} {g g':View} {σ:St} {s s':Shared} (K:FrOk X outer g σ s.heap) (G:Go X am g σ s g' σ s'):FrOk X outer g' σ s'.heap:=K.go G λ_ _ _ _ h=>h
end
section
variable {X:Cx} {A:Around} {env:Env} {outer:List Env} {g:View} {σ:St} {s:Shared} {e:Addr} {t:Option Addr} {E:Value→Shared→Prop}
theorem DE(hfr:A.frames=some (env::outer))(hf:env.frame=some env.locals)(S:Sat X g σ s)(F:FrOk X (env::outer) g σ s.heap)(fe:Free X g σ e)(x:ExcIn X g σ s.heap e t)
  (h:∀h' a0,Heap.HeldW (hideAll s.heap (hid (env::outer) e t)) (env::outer) e (.type "KeyError") a0 env.locals h'→s.heap.UpToSlots h'→Q () {s with heap:=h'}):wpAny (model P0 X.w) A (noteFrame (.ref e) env) Q E s:=by
 have ff:s.heap.FunFrames (hideAll s.heap (hid (env::outer) e t)) (env::outer):=uM F λa ha=>qB _ (j0 _ ha)
 have en:(hideAll s.heap (hid (env::outer) e t)).get? e=none:=qB _ (by simp[hid])
 cases t with
 |none=>
  obtain⟨oe,vs,a0,h1,h2,h3,h4,h5⟩:=x
  unfold noteFrame
  simp only[hf]
  refine ac (bM h1 h3 h5 ?_)
  rw[ae (by decide)]
  refine wpAny_entryW hfr ff hf h1 (qL _ _) en h3 (Array.getElem?_eq_some_iff.mp h5).1 h4 λh' hN=>?_
  obtain⟨k1,k2,k3,k4⟩:=hN
  rw[h2] at k3
  exact h h' a0 ⟨k1,en,k2,k3⟩ k4
 |some T=>
  obtain⟨a0,tr⟩:=x.base (l:=env::outer)
  exact wpAny_looks_onW hfr hf ⟨qL _ _,en,ff,tr⟩ λh' hH hu=>h h' a0 hH hu
theorem B5(hX:aL X "KeyError" (.typ "KeyError"))(hfr:A.frames=some (env::outer))(hf:env.frame=some env.locals)(ho:lD outer N)(hcl:env.cells=[])
  (hk:env.kindOf "KeyError"=some .globalImplicit)(hg:env.globals=mainGlobals)(hb:env.builtins=builtinsNs)
  (h:gH X A outer N env m body σ)(hs:∀A' m',Exs X A' ai (ax N env) env m' (b₀::suite) σ Q)
  (S:Sat X g σ s)(F:Frm X env m g σ s)(K:FrOk X (env::outer) g σ s.heap):
  wpAny (model P0 X.w) A (exec (.Try body [.ExceptHandler (some (.Name "KeyError" np)) none (b₀::suite) hp] [] [] pos) env) (PostX X (ax N env) env g σ s Q) ai s:=by
 refine wpAny_Try_except (aj (h g s S F K) (λ_ _ x=>x.elim) λv s1 ⟨e,t,g',m',h1,h2,h3,h4,h5,h6,h7⟩=>?_)
 subst h1
 have K1:FrOk X (env::outer) g' σ s1.heap:=FrOk.cons (FrOk.go (λe he=>K e (aR _ he)) h2 λe he L hL q=>absurd (ho e he L hL) (i9.mpr q.1)) h3 hf
 have ft:∀T,t=some T→Free X g' σ T:=λT q=>by subst q;obtain⟨_,_,_,_,_,_,_,_,_,f,_⟩:=h6;exact f
 refine DE hfr hf h2.sat K1 h4 h6 λhp1 a0 hH u1=>wpAny_landsW hH λhp2 hF u2=>?_
 have u12:s1.heap.UpToSlots hp2:=u1.trans u2
 have G2:Go X (tT e t) g' σ s1 g' σ {s1 with heap:=hp2}:=vJ h2.sat K1 h4 ft hF.1 u12 rfl rfl
 obtain⟨ob,hob,hobc⟩:=hF.there
 refine wpAny_handleBy_builtin (X:="KeyError") (T:="KeyError") (b:=true) kr_isExc_KeyError kr_notTuple_KeyError (by rw[qv];kernel_rfl) ?_
 have neL:∀a,(a=e∨t=some a)→a≠env.locals:=λa ha q=>by
  obtain⟨mC,⟨o,es,ep,hL,hd,_⟩,_⟩:=h3.ns
  obtain⟨oe,vs,a0,q1,q2,q3,q4,q5⟩:=h6
  rcases ha with rfl|ha
  ·rw[q,hL] at q1;cases q1;rw[hd] at q3;cases q3
  ·subst ha
   obtain⟨_,_,_,oT,ts,r1,r2,_⟩:=q5
   rw[q,hL] at r1;cases r1;rw[hd] at r2;cases r2
 have F2:Frm X env m' g' σ {s1 with heap:=hp2}:=h3.goP G2 (λq=>neL _ q rfl) λx c hc=>by rw[hcl] at hc;cases hc
 obtain⟨cv,hgl,rcv⟩:=hX
 unfold Rep at rcv;subst rcv
 obtain⟨mg,mb,q1,q2,q3⟩:=hgl hp2 (G2.sat.in_.le G2.sat.le)
 have ldname:∀{A':Around} {E':Value→Shared→Prop} {Q':Value→Shared→Prop},Q' (.type "KeyError") {s1 with heap:=hp2}→wpAny (model P0 X.w) A' (eval (.Name "KeyError" np) env) Q' E' {s1 with heap:=hp2}:=λ{A' E' Q'} fin=>by
  rcases q3 with q3|⟨q3,q4⟩
  ·exact tX F2.kind hk (Calls.loadGlobal_global (by rw[hg];exact q1) q3 fin) (by decide)
  ·exact tX F2.kind hk (Calls.loadGlobal_builtin (by rw[hg];exact q1) q3 (by rw[hb];exact q2) q4 fin) (by decide)
 refine ldname ⟨rfl,⟨ob,hob,hobc⟩,?_⟩
 rw[ah rfl]
 refine lands_againW hF λhp3 hF3 u3=>?_
 have u13:s1.heap.UpToSlots hp3:=u12.trans u3
 have G3:Go X (tT e t) g' σ s1 g' σ {s1 with heap:=hp3}:=vJ h2.sat K1 h4 ft hF3.1 u13 rfl rfl
 have F3:Frm X env m' g' σ {s1 with heap:=hp3}:=h3.goP G3 (λq=>neL _ q rfl) λx c hc=>by rw[hcl] at hc;cases hc
 have G4:Go X (ax N env) g σ s g' σ {s1 with heap:=hp3}:=by
  refine Go.comp h2 G3 ⟨λb o q hb=>?_,λ_ _ q=>q.elim⟩
  rcases hb with hb|hb
  ·rw[hb,h5] at q;cases q
  ·rw[h7 b hb] at q;cases q
 exact aj (hs _ _ g' _ G3.sat F3) (λf s4 x=>x.after G4) λ_ _ x=>x.elim
end
structure Base6(X:Cx):Prop extends Base5 X where
 f_told:Fn X 445 54 "_law_told" .none
 g_told:aL X "_law_told" (.ref 445)
 g_KeyError:aL X "KeyError" (.typ "KeyError")
theorem ik{X:Cx}{A:Around}{outer:List Env}{env:Env}{m:Mp}{σ:St}{N:Addr}{st:Stmt}{rest:List Stmt}(ho:lD outer N)(hf:env.frame=some env.locals)(hN:N≤env.locals)
  (h:Ex X A ai (ax N env) env m st σ λFl m₁ σ₁=>Fl=.next∧σ₁=σ∧gH X A outer N env m₁ rest σ):gH X A outer N env m (st::rest) σ:=
 Cf hf ho hN (λe he L hL q=>absurd (ho e he L hL) (i9.mpr q.1)) h
section
variable {X:Cx} {σ:St} {z:Nat} {a dx f d db:Addr} {r:By} {N D:BD} (hX:Base5 X)
include hX
theorem uS(T0:Tri z σ a dx f d db r N D){h p:By}{k:Nat}(hbl:h≠blank)(hl:D.lookup h=none):oG X (k+1) (.ref 306) [.ref a,.bytes h,.bytes p] σ:=by
 obtain⟨code,pm,F⟩:=hX.m__get
 refine rM F ["self","node_hash","keypath"] (bk ["self","node_hash","keypath"] λvs hv=>?_) (by rfl) λA L outer hA hfr ho=>?_
 ·match vs,hv with|[v,w,u],_=>rfl
 refine ik ho rfl (aG _)<|az<|ar<|ab (.bytes h)<|eg hX.g_BLANK<|bJ ⟨_,rfl,?_⟩
 rw[show(h==blank)=false from ba.mpr hbl]
 refine aB ⟨rfl,rfl,eB<|A4<|BM (eg hX.g_parse rfl)<|C6 hA.handled T0.db1 T0.dbt hl<|dq hX T0 (by rfl) ⟨rfl,rfl,ab (.bytes h) ⟨rfl,rfl⟩⟩⟩
theorem qN(T0:Tri z σ a dx f d db r N D)(hN:NmOk N)(hD:gh N D):∀{t:T} {n:Nat} {h p:By},WF n t→n≤64→ck t→p.length≤n→Named N t h→bz N D t p=none→oG X (20+n) (.ref 306) [.ref a,.bytes h,.bytes p] σ
 |.leaf v,n,h,p,hw,hn,hs,hp,hh,hg=>by
  have hl:D.lookup h=none:=by
   unfold bz at hg
   split at hg
   ·cases hg
   ·rename_i q;rw[hh.nm] at q;cases e:D.lookup h with
    |none=>rfl
    |some _=>rw[e] at q;exact absurd rfl q
  rw[show 20+n=(19+n)+1 from by omega]
  exact uS hX T0 (hN.blank _ _ hh.ltx) hl
 |.kv b t,n,h,p,hw,hn,hs,hp,hh,hg=>by
  rw[show 20+n=(19+n)+1 from by omega]
  by_cases hsm:(D.lookup (nm N (.kv b t))).isSome=true
  case neg=>
   rw[hh.nm] at hsm
   refine uS hX T0 (hN.blank _ _ hh.ltx) ?_
   cases e:D.lookup h with
   |none=>rfl
   |some _=>rw[e] at hsm;exact absurd rfl hsm
  unfold bz at hg
  rw[ah hsm] at hg
  have hdb:=oE hN hD hh hsm
  have hbl:(h==blank)=false:=ba.mpr (hN.blank _ _ hh.ltx)
  obtain⟨h',hh',hl⟩:=id hh
  have etx:tx N (.kv b t)=aM b h':=by show aM b (nm N t)=_;rw[hh'.nm]
  rw[etx] at hdb
  obtain⟨hb,hbits,hk,n',en,hw'⟩:=id hw
  have hb1:1≤b.length:=by cases b with|nil=>exact absurd rfl hb|cons _ _=>simp
  have hp0:p≠[]:=λe=>by rw[ah e] at hg;cases hg
  rw[ae hp0] at hg
  have hc:p.take b.length=b:=tZ λe=>by rw[ae e] at hg;cases hg
  rw[ah hc] at hg
  obtain⟨code,pm,F⟩:=hX.m__get
  refine rM F ["self","node_hash","keypath"] (bk ["self","node_hash","keypath"] λvs hv=>?_) (by rfl) λA L outer hA hfr ho=>?_
  ·match vs,hv with|[v,w,u],_=>rfl
  refine ik ho rfl (aG _)<|az<|ar<|ab (.bytes h)<|eg hX.g_BLANK<|bJ ⟨_,rfl,?_⟩
  rw[hbl]
  refine aB ⟨rfl,rfl,ik ho rfl (aG _)<|aE<|au<|eg hX.g_parse<|ad<|aC<|dq hX T0 (by rfl)<|ab (.bytes h)<|cg T0.dbt hdb<|ak ⟨dU hX.toBase,aw (i6 hX.toBase (by omega) hbits (hN.len _ _ hh'.ltx) ?_) hA.mo⟩⟩
  refine bV hA.handled (by rfl) (by rfl)<|aF<|aq<|aF<|aq<|aF<|aq<|bW ⟨rfl,rfl,?_⟩
  refine eB<|jk<|ar<|ab (.int 0)<|eg hX.g_LEAF<|aU ⟨_,rfl,rfl,?_⟩
  refine eB<|jk<|ar<|ab (.int 0)<|eg hX.g_KV<|aU ⟨_,rfl,rfl,?_⟩
  refine ik ho rfl (aG _)<|az<|fE<|cJ (ab (.bytes p)<|dP (by omega) ?_) (by rfl)
  rw[show(!!p.isEmpty)=false from by cases p with|nil=>exact absurd rfl hp0|cons _ _=>rfl]
  refine aB ⟨rfl,rfl,eB<|jk<|ar<|n8 hX.toBase (p:=p) (b:=b) (by rfl) (by rfl) (by omega) (by omega) (by rfl) rfl rfl<|ab (.bytes b)<|bJ ⟨_,rfl,rfl,?_⟩⟩
  rw[show(List.take b.length p==b)=true from bd.mpr hc,ah rfl]
  exact eB<|nF<|nU (ab (.ref a) ⟨rfl,cD hX T0 (by simp[b8]) ⟨rfl,ad<|ab (.bytes h')<|ad<|vu hX.toBase (p:=p) (b:=b) (by rfl) (by rfl) (by omega) (by omega) (by rfl) rfl rfl<|ak ⟨rfl,hX.m__get.keep,nM (qN T0 hN hD hw' (by omega) hs (by rw[bA];omega) hh' hg) hA.mo hfr⟩⟩⟩) (by rfl)
 |.br l rr,n,h,p,hw,hn,hs,hp,hh,hg=>by
  rw[show 20+n=(19+n)+1 from by omega]
  by_cases hsm:(D.lookup (nm N (.br l rr))).isSome=true
  case neg=>
   rw[hh.nm] at hsm
   refine uS hX T0 (hN.blank _ _ hh.ltx) ?_
   cases e:D.lookup h with
   |none=>rfl
   |some _=>rw[e] at hsm;exact absurd rfl hsm
  unfold bz at hg
  rw[ah hsm] at hg
  have hdb:=oE hN hD hh hsm
  have hbl:(h==blank)=false:=ba.mpr (hN.blank _ _ hh.ltx)
  obtain⟨hl,hr,hhl,hhr,hlk⟩:=id hh
  have etx:tx N (.br l rr)=aO hl hr:=by show aO (nm N l) (nm N rr)=_;rw[hhl.nm,hhr.nm]
  rw[etx] at hdb
  obtain⟨n',en,hwl,hwr⟩:=id hw
  have hp0:p≠[]:=λe=>by rw[ah e] at hg;cases hg
  rw[ae hp0] at hg
  obtain⟨code,pm,F⟩:=hX.m__get
  refine rM F ["self","node_hash","keypath"] (bk ["self","node_hash","keypath"] λvs hv=>?_) (by rfl) λA L outer hA hfr ho=>?_
  ·match vs,hv with|[v,w,u],_=>rfl
  refine ik ho rfl (aG _)<|az<|ar<|ab (.bytes h)<|eg hX.g_BLANK<|bJ ⟨_,rfl,?_⟩
  rw[hbl]
  refine aB ⟨rfl,rfl,ik ho rfl (aG _)<|aE<|au<|eg hX.g_parse<|ad<|aC<|dq hX T0 (by rfl)<|ab (.bytes h)<|cg T0.dbt hdb<|ak ⟨dU hX.toBase,aw (i7 hX.toBase (hN.len _ _ hhl.ltx) (hN.len _ _ hhr.ltx) ?_) hA.mo⟩⟩
  refine bV hA.handled (by rfl) (by rfl)<|aF<|aq<|aF<|aq<|aF<|aq<|bW ⟨rfl,rfl,?_⟩
  refine eB<|jk<|ar<|ab (.int 1)<|eg hX.g_LEAF<|aU ⟨_,rfl,rfl,?_⟩
  refine eB<|jk<|ar<|ab (.int 1)<|eg hX.g_KV<|aU ⟨_,rfl,rfl,?_⟩
  refine eB<|jk<|ar<|ab (.int 1)<|eg hX.g_BR<|aU ⟨_,rfl,rfl,?_⟩
  refine ik ho rfl (aG _)<|az<|fE<|cJ (ab (.bytes p)<|dP (by omega) ?_) (by rfl)
  rw[show(!!p.isEmpty)=false from by cases p with|nil=>exact absurd rfl hp0|cons _ _=>rfl]
  refine aB ⟨rfl,rfl,eB<|jk<|ar<|nX (p:=p) (by rfl) (by omega)<|eg hX.g_B0<|bJ ⟨_,rfl,rfl,?_⟩⟩
  by_cases hc:p.take 1=[0]
  ·rw[show(List.take 1 p==[0])=true from bd.mpr hc,ah rfl]
   rw[ah hc] at hg
   exact eB<|nF<|nU (ab (.ref a) ⟨rfl,cD hX T0 (by simp[b8]) ⟨rfl,ad<|ab (.bytes hl)<|ad<|kG (p:=p) (by rfl) (by omega)<|ak ⟨rfl,hX.m__get.keep,nM (qN T0 hN hD hwl (by omega) hs.1 (by rw[bA];omega) hhl hg) hA.mo hfr⟩⟩⟩) (by rfl)
  ·rw[show(List.take 1 p==[0])=false from ba.mpr hc,ae aT]
   rw[ae hc] at hg
   exact eB<|nF<|nU (ab (.ref a) ⟨rfl,cD hX T0 (by simp[b8]) ⟨rfl,ad<|ab (.bytes hr)<|ad<|kG (p:=p) (by rfl) (by omega)<|ak ⟨rfl,hX.m__get.keep,nM (qN T0 hN hD hwr (by omega) hs.2 (by rw[bA];omega) hhr hg) hA.mo hfr⟩⟩⟩) (by rfl)
theorem Cp(T0:Tri z σ a dx f d db r N D)(hN:NmOk N)(hD:gh N D){t:T}{n:Nat}{x:By}(hw:WF n t)(hn:n≤64)(hs:ck t)(hp:8 * x.length≤n)(hh:Named N t r)(hg:bz N D t (aA x)=none):oG X (21+n) (.ref 299) [.ref a,.bytes x] σ:=by
 obtain⟨code,pm,F⟩:=hX.m_get
 have hl:(aA x).length=8 * x.length:=by unfold aA;rw[bB,nz]
 rw[show 21+n=(20+n)+1 from by omega]
 refine rM F ["self","key"] (bk ["self","key"] λvs hv=>?_) (by rfl) λA L outer hA hfr ho=>?_
 ·match vs,hv with|[v,w],_=>rfl
 refine ik ho rfl (aG _)<|cV<|au<|eg hX.g_vib<|ad<|ab (.bytes x)<|ak ⟨ky hX,aw (eE hX.toBase ⟨rfl,rfl,?_⟩) hA.mo⟩
 exact eB<|nF<|nU (ab (.ref a) ⟨rfl,cD hX T0 (by simp[b8]) ⟨rfl,ad<|qM hX T0 (by rfl)<|ad<|au<|eg hX.g_etb<|ad<|ab (.bytes x)<|ak ⟨uX hX,aw (kL hX.toBase (by omega)<|ak ⟨rfl,hX.m__get.keep,nM (qN hX T0 hN hD hw hn hs (by omega) hh hg) hA.mo hfr⟩) hA.mo⟩⟩⟩) (by rfl)
end
theorem B6
  (h:Exs X A ai P env m body σ λF m₁ σ₁=>match F with|.next=>Exs X A ai P env m₁ orelse σ₁ Q|F=>Q F m₁ σ₁):Ex X A ai P env m (.Try body (h₀::hs) orelse [] pos) σ Q:=λg s S F=>
 wpAny_Try_except (aj (h g s S F) (λf s₁ ⟨g₁,Fl,m₁,σ₁,G₁,F₁,r₁,h₁⟩=>by
  cases Fl with
  |next=>cases r₁;exact aj (h₁ g₁ s₁ G₁.sat F₁) (λf s₂ h₂=>h₂.after G₁) i2
  |brk=>cases r₁;exact⟨g₁,.brk,m₁,σ₁,G₁,F₁,rfl,h₁⟩
  |cont=>cases r₁;exact⟨g₁,.cont,m₁,σ₁,G₁,F₁,rfl,h₁⟩
  |ret V=>obtain⟨v,rfl,r⟩:=r₁;exact⟨g₁,.ret V,m₁,σ₁,G₁,F₁,⟨v,rfl,r⟩,h₁⟩) λ_ _ x=>x.elim)
def CallF(X:Cx)(k:Nat)(f:AV)(l:List AV)(σ:St)(Q:AV→St→Prop):Prop:=∀A g s fv vs outer,Room A k→A.frames=some outer→FrOk X outer g σ s.heap→Sat X g σ s→Rep g f fv→RepL g l vs→
 codeAny (model P0 X.w) A (.call fv ⟨vs,[]⟩) (λr s'=>∃v,r=.ok (.ret v)∧Post X am g σ s Q v s') s
theorem CallOk.f{f l σ}(h:CallOk X k f l σ Q):CallF X k f l σ Q:=λA g s fv vs _ hA _ _ S r rl=>h A g s fv vs hA S r rl
theorem CallF.mono{f l σ}(h:CallF X k f l σ Q)(hq:∀V σ',Q V σ'→Q' V σ'):CallF X k f l σ Q':=λA g s fv vs outer hA hfr K S hf r=>
 cI (h A g s fv vs outer hA hfr K S hf r) λ_ _ ⟨v,e,g',V,σ',G,rv,q⟩=>⟨v,e,g',V,σ',G,rv,hq _ _ q⟩
theorem EP(F:FnAt X a fd body)(xs:List Str)
  (hbind:∀g s vs,Sat X g σ s→RepL g l vs→∃vs',RepL g l' vs'∧BindsTo s fd ⟨vs,[]⟩ (xs.zip vs'))
  (hx:xs.all (λx=>fd.scope.names.lookup x==some .local||fd.scope.names.lookup x==some .cell)=true)
  (h:∀A L outer,Room A k→A.frames=some (callEnvC fd L a::outer)→lD outer L→∀g s,Sat X g σ s→Frm X (callEnvC fd L a) (cF xs l' Mp.nil) g σ s→FrOk X (callEnvC fd L a::outer) g σ s.heap→
   wpAny (model P0 X.w) A (execs body (callEnvC fd L a)) (PostX X (ax L (callEnvC fd L a)) (callEnvC fd L a) g σ s λFl _ σ'=>match Fl with|.ret V=>Q V σ'|.next=>Q .none σ'|_=>False) ai s)
  (hclo:fd.closure=[]:=by rfl)(hco:fd.scope.isCoroutine=false:=by rfl)(hgen:fd.scope.isGenerator=false:=by rfl)(hk:fd.scope.kind=.function:=by rfl):
  CallF X (k+1) (.ref a) l σ Q:=λA g s fv vs outer hA hfr K S hf r=>by
 unfold Rep at hf
 subst hf
 obtain⟨o,ho,hd⟩:=F.obj S
 obtain⟨vs',r',hb⟩:=hbind g s vs S r
 refine t4 (by have:=hA.depth;omega) ho hd hco hgen F.body (F.cdRec S) (hb _ _ _ _ ?_)
 rw[hclo]
 refine jY hk (λy hy=>?_) λenv he s' x=>?_
 ·have hm:y.1∈xs:=(mV hy).1
  have:=gq.mp hx y.1 hm
  rw[iS,bd,bd] at this
  rcases this with q|q
  ·exact .inl q
  ·exact .inr ⟨q,let ⟨c,hc⟩:=gx fd.scope.names (s.heap.objs.size+1) [] q;by rw[hc];rfl⟩
 ·have he':env=callEnvC fd s.heap.objs.size a:=he
  subst he'
  have Fr:=iY (a:=a) S r' hk hx x
  have G:=jf S x (P:=am)
  have hfr':(A.deeper (callEnvC fd s.heap.objs.size a)).frames=some (callEnvC fd s.heap.objs.size a::outer):=wQ hfr
  have K':FrOk X (callEnvC fd s.heap.objs.size a::outer) g σ s'.heap:=FrOk.cons (K.go G λ_ _ _ _ h=>h) Fr rfl
  refine⟨(F.noLimit S).keeps x.toInCall.keep,codeAny_func (aj (h (A.deeper _) s.heap.objs.size outer (Room.deeper hA) hfr' K.lt g s' G.sat Fr K') (λf s'' ⟨g',Fl,m',σ',G',_,rf,q⟩=>?_) λ_ _ x=>x.elim)⟩
  have G'':Go X am g σ s g' σ' s'':=Go.weaken (Go.trans (G.any) G') (io (aG _))
  cases Fl with
  |next=>cases rf;exact⟨_,rfl,g',.none,σ',G'',by unfold Rep;rfl,q⟩
  |ret V=>obtain⟨v,rfl,rv⟩:=rf;exact⟨v,rfl,g',V,σ',G'',rv,q⟩
  |brk=>exact q.elim
  |cont=>exact q.elim
def vG(X:Cx)(A:Around)(env:Env)(f:AV)(l:List AV)(σ:St)(Q:AV→St→Prop):Prop:=∀g s fv vs,Sat X g σ s→FrOk X [env] g σ s.heap→Rep g f fv→RepL g l vs→wpAny (model P0 X.w) A (call fv vs []) (Post X am g σ s Q) ai s
section
variable {X:Cx} {A:Around} {env:Env} {m:Mp} {σ:St} {Q:AV→St→Prop}
theorem BH(h:CallF X k f l σ Q)(hA:Room A k)(hfr:A.frames=some [env]):vG X A env f l σ Q:=λg s fv vs S K r rl=>
 ku (cI (h A g s fv vs _ hA hfr K S r rl) λ_ _ ⟨v,e,p⟩=>by subst e;exact p)
theorem Bg(hf:env.frame=some env.locals)(S:Sat X g σ s)(F:Frm X env m g σ s)(r:Rep g f fv)(rf:RepL g first fvs)
  (h:dz X A ai env m args pos σ λl σ₂=>aV X σ₂ f∧vG X A env f (first++l) σ₂ Q)
  (hst:(starEach args env).all (λx=> !x.1)=true):wpAny (model P0 X.w) A (callWith pos fv fvs (backTo pos (starEach args env)) []) (Post X am g σ s Q) ai s:=by
 have hpl:(backTo pos (starEach args env)).any (·.1)=false:=by
  rw[kt,qd];simp only[hst];rfl
 refine qF (args:=backTo pos (starEach args env)) r hpl ?_
 have fin:wpAny (model P0 X.w) A (spliced (backTo pos (starEach args env))) (λvs s₁=>(∃g₁ σ₁,Sat X g₁ σ₁ s₁∧aV X σ₁ f)∧wpAny (model P0 X.w) A (call fv (fvs++vs) []) (Post X am g σ s Q) ai s₁) ai s:=
  aj (h g s S F) (λvs s₁ ⟨g₁,l,σ₁,G₁,r₁,K,c⟩=>⟨⟨g₁,σ₁,G₁.sat,K⟩,aj (c g₁ s₁ fv (fvs++vs) G₁.sat (FrOk.cons (l:=[]) (λ_ q=>by cases q) (F.go G₁) hf) (r.le G₁.le) ((rf.le G₁.le).append r₁)) (λ_ _ x=>x.after G₁) i2⟩) i2
 cases hl:backTo pos (starEach args env) with
 |nil=>
  rw[hl] at fin
  unfold evalArgs
  show wpAny _ A (spliced []>>= _) _ _ s
  refine ac (aj fin (λvs s₁ h₁=>ac (ao ?_)) i2)
  refine bT ?_
  exact ac (ao (ac (ao (ao h₁))))
 |cons x rest=>
  obtain⟨b,t⟩:=x
  rw[hl] at fin hpl
  have:b=false:=by
   cases b
   ·rfl
   ·simp at hpl
  subst this
  exact mM fin
theorem Cq(hf:env.frame=some env.locals)(h:Ev X A ai env m fe σ λF σ₁=>dz X A ai env m args pos σ₁ λl σ₂=>aV X σ₂ F∧vG X A env F l σ₂ Q)
  (he:eval (.Call fe args [] pos) env=(do callWith pos (←eval fe env) [] (backTo pos (starEach args env)) (backToKw pos (keywordEach [] env))):=by rfl)
  (hst:(starEach args env).all (λx=> !x.1)=true:=by rfl):Ev X A ai env m (.Call fe args [] pos) σ Q:=λg s S F=>
 Call_ (aj (h g s S F) (λfv s₁ ⟨g₁,f,σ₁,G₁,r₁,h₁⟩=>aj (Bg (first:=[]) (fvs:=[]) hf G₁.sat (F.go G₁) r₁ .nil h₁ hst) (λ_ _ x=>x.after G₁) i2) i2) he
end
section
variable {X:Cx} {σ:St} {z:Nat} {a dx f d db:Addr} {r:By} {N D:BD} (hX:Base6 X)
include hX
theorem uT:aV X σ (.ref 445):=by obtain⟨_,_,F'⟩:=hX.f_told;exact F'.keep
theorem vy(T0:Tri z σ a dx f d db r N D)(hN:NmOk N)(hD:gh N D)(hw:WF n t)(hn:n≤64)(hs:ck t)(hp:8 * x.length≤n)(hh:Named N t r)(hg:bz N D t (aA x)=some o)(hq:Q (cz o) σ):CallOk X (22+n) (.ref 445) [.ref a,.bytes x] σ Q:=by
 obtain⟨code,pm,F⟩:=hX.f_told
 refine CallOk.deep (bG (k:=21+n) F ["trie","key"] (bk ["trie","key"] λvs hv=>?_) (by rfl) λA L hA=>?_) (by omega)
 ·match vs,hv with|[v,w],_=>rfl
 exact ag<|B6<|ag<|aZ<|cy (ab (.ref a)<|cD hX.toBase5 T0 (by simp[b8])<|ad<|ab (.bytes x)<|ak ⟨hX.m_get.keep,aw (y4 hX.toBase5 T0 hN hD hw hn hs hp hh hg hq) hA⟩) (by rfl)
theorem BF(T0:Tri z σ a dx f d db r N D)(hN:NmOk N)(hD:gh N D)(hw:WF n t)(hn:n≤64)(hs:ck t)(hp:8 * x.length≤n)(hh:Named N t r)(hg:bz N D t (aA x)=none)(hq:Q (.str "lacks") σ):CallF X (22+n) (.ref 445) [.ref a,.bytes x] σ Q:=by
 obtain⟨code,pm,F⟩:=hX.f_told
 rw[show 22+n=(21+n)+1 from by omega]
 refine EP F ["trie","key"] (bk ["trie","key"] λvs hv=>?_) (by rfl) λA L outer hA hfr ho g s S Fr K=>?_
 ·match vs,hv with|[v,w],_=>rfl
 refine uk (aj (B5 (Q:=λFl _ σ'=>match Fl with|.ret V=>Q V σ'|.next=>Q .none σ'|_=>False) hX.g_KeyError hfr rfl ho rfl (by rfl) rfl rfl (eB<|nF<|nU (ab (.ref a) ⟨rfl,cD hX.toBase5 T0 (by simp[b8]) ⟨rfl,ad<|ab (.bytes x)<|ak ⟨rfl,hX.m_get.keep,nM (Cp hX.toBase5 T0 hN hD hw hn hs hp hh hg) hA hfr⟩⟩⟩) (by rfl)) (λA' m'=>ag<|aZ<|kN hq) S Fr K) (λfl s₁ ⟨g₁,Fl,m₁,σ₁,G₁,F₁,r₁,h₁⟩=>?_) i2)
 cases Fl with
 |next=>cases r₁;exact aj (aB (Q:=λFl _ σ'=>match Fl with|.ret V=>Q V σ'|.next=>Q .none σ'|_=>False) h₁ g₁ s₁ G₁.sat F₁) (λ_ _ x=>x.after G₁) i2
 |ret V=>obtain⟨v,rfl,r⟩:=r₁;exact⟨g₁,.ret V,m₁,σ₁,G₁,F₁,⟨v,rfl,r⟩,h₁⟩
 |brk=>exact h₁.elim
 |cont=>exact h₁.elim
end
theorem wY:Slot "bytes" (cmpInfo .Lt).2.1 "bytes.__lt__":=
 .of (owner:="bytes") (n:="__lt__") (by rw[ur,t7];kernel_rfl) (by decide+kernel) (by decide+kernel) (by decide+kernel)
  (by first|exact .inl (by decide+kernel)|exact .inr (by decide+kernel)) (by rw[qv];kernel_rfl)
theorem Ae:entryFor table "bytes.__lt__"=some Builtin.«bytes.__lt__»:=entryFor_of_tree (by kernel_rfl)
theorem zN(a b:Value):argsOk "bytes.__lt__" ⟨[a,b],[]⟩:=by
 unfold argsOk;rw[signature?_of (id:="bytes.__lt__") (n:=['_','_','t','l','_','_']) (o:=['s','e','t','y','b']) (by kernel_rfl) PySem.W.FB.owner_bytes];kernel_rfl
def fG(b:By):List Nat:=b.map (·.toNat)
theorem ye:∀(a b:By),(Builtin.Bytes.order a b==.lt)=decide (fG a<fG b)
 |[],[]=>by decide
 |[],_::_=>by simp[Builtin.Bytes.order,fG]
 |_::_,[]=>by simp[Builtin.Bytes.order,fG]
 |x::a,y::b=>by
  unfold Builtin.Bytes.order
  have ih:=ye a b
  simp only[fG,bQ] at ih ⊢
  by_cases h1:x<y
  ·have h1':x.toNat<y.toNat:=h1
   rw[ah h1,kc (wI.mpr (.inl h1'))];rfl
  ·by_cases h2:x>y
   ·have h2':y.toNat<x.toNat:=h2
    rw[ae h1,ah h2,iW]
    ·rfl
    ·rw[wI];omega
   ·have:x=y:=UInt8.le_antisymm (UInt8.not_lt.mp h2) (UInt8.not_lt.mp h1)
    subst this
    rw[ae h1,ae h2,ih]
    congr 1
    rw[wI]
    simp
@[reducible] def vD:PyProof.Rows.KeyKind where
 α:=List Nat
 blt a b:=decide (a<b)
 irrefl a:=by simp
 trans a b c h1 h2:=by simp only[g6] at *;exact List.lt_trans h1 h2
 negTrans a b c h:=by
  simp only[g6] at *
  by_cases hab:a<b
  ·exact .inl hab
  ·exact .inr (List.lt_of_le_of_lt (List.not_lt.mp hab) h)
 total a b h1 h2:=by simp only[wA] at *;exact List.le_antisymm (List.not_lt.mp h2) (List.not_lt.mp h1)
 keyOf v:=match v with|.bytes b _=>some (fG b.toList)|_=>none
 dflt:=[]
section
variable {prog:Program} {w:World} {A:Around} {E:Value→Shared→Prop} {s:Shared}
theorem Aq(h:Q (.bool (decide (fG a.toList<fG b.toList))) s):wpAny (model prog w) A (call (.builtin "bytes.__lt__") [.bytes a t,.bytes b u]) Q E s:=by
 refine dE wY (dS s a t) Ae ?_ (zN _ _)
 show wpAny _ _ (isInstance (.bytes b u) (.type "bytes")>>= λr=>_) _ _ s
 refine ac (fw (dS s b u) PySem.F.sub_bytes_bytes ?_)
 refine ao ⟨_,rfl,?_⟩
 rw[←ye] at h
 exact h
theorem CN(h:Q (decide (fG a.toList<fG b.toList)) s):wpAny (model prog w) A (oneLt' true (.bytes a t) (.bytes b u)) Q E s:=by
 rw[oneLt'_eq]
 simp only[if_true]
 refine ac (wpAny_cRoomFor_byValue rfl ?_)
 refine ac (wpAny_callSpecialIfBound?_slot (dS s a t) wY (Aq ?_))
 exact wpAny_truthy_bool h
end
theorem AH:vD.OneLt:=by
 intro prog w A E s x y a b Q ha hb h
 cases x<;>simp only[vD,reduceCtorEq,Option.some.injEq] at ha
 cases y<;>simp only[vD,reduceCtorEq,Option.some.injEq] at hb
 cases ha;cases hb
 exact CN h
def gJ:Value→By
 |.bytes b _=>b.toList
 |_=>[]
def ix(v:Value):Prop:=∃b t,v=.bytes b t
theorem w3:∀{vs:List Value},(∀v∈vs,ix v)→vs.mapM firstOfTuple'=pure (vs.map λ_=>none)
 |[],_=>by simp
 |v::vs,h=>by
  obtain⟨b,t,rfl⟩:=h v bj
  rw[List.mapM_cons,show firstOfTuple' (.bytes b t)=pure none from rfl,w3 λu hu=>h u (aR _ hu)];simp
theorem xe:∀{vs:List Value},(∀v∈vs,ix v)→vs.mapM typeOf=pure (vs.map λ_=>Value.type "bytes")
 |[],_=>by simp
 |v::vs,h=>by
  obtain⟨b,t,rfl⟩:=h v bj
  rw[List.mapM_cons,xe λu hu=>h u (aR _ hu)]
  show(pure (Value.type "bytes")>>= λb=>pure _>>= λbs=>pure (b::bs))=_
  simp
theorem Br(hS:∀v∈(v₁::v₂::vs),ix v):keyKind' (v₁::v₂::vs).toArray=pure oneType':=by
 rw[keyKind'_eq,List.mapM_toArray,w3 hS]
 simp only[map_pure,pure_bind]
 rw[ae (by simp),ae (by simp)]
 rw[oneTypeOnly'_eq,List.mapM_toArray,xe hS]
 simp only[map_pure,pure_bind]
 have hall:((List.map (λ_=>Value.type "bytes") (v₁::v₂::vs)).toArray.all λx=>x==Value.type "bytes")=true:=by
  simp only[List.all_toArray,List.all_map,gq]
  intro _ _
  rfl
 have h0:(List.map (λ_=>Value.type "bytes") (v₁::v₂::vs)).toArray[0]?=some (Value.type "bytes"):=by simp
 rw[h0]
 simp only[hall,if_true,pure_bind,uc]
theorem ER{vs:List Value}(hS:∀v∈vs,ix v){xs:Array Keyed}(hp:xs.Perm (pairsOf vs)):(∀v∈(xs.map (·.2)).toList,ix v)∧((xs.map (·.2)).toList.map gJ).Perm (vs.map gJ):=by
 have hl:xs.toList.Perm (vs.zip vs):=by rw[←pairsOf_toList];exact Array.perm_iff_toList_perm.mp hp
 have e:(xs.map (·.2)).toList.Perm vs:=by
  rw[Array.toList_map]
  have:=hl.map (·.2)
  rwa [show(vs.zip vs).map (·.2)=vs from List.map_snd_zip (aG _)] at this
 exact⟨λv hv=>hS v (e.mem_iff.mp hv),e.map _⟩
theorem yM:∀{vs:List Value},(∀v∈vs,ix v)→RepL g ((vs.map gJ).map .bytes) vs
 |[],_=>.nil
 |v::vs,h=>by
  obtain⟨b,t,rfl⟩:=h v bj
  exact .cons (by unfold Rep;exact⟨t,by simp[gJ]⟩) (yM λu hu=>h u (aR _ hu))
section
variable {X:Cx} {A:Around} {E:Value→Shared→Prop} {σ:St} {Q:AV→St→Prop} {a:Addr} {l:BD}
theorem wT(h:(bytesKind P0 X.w).is k v=true):ix v∧gJ v=k:=by
 obtain⟨t,rfl⟩:=isBytes_shape h
 exact⟨⟨_,_,rfl⟩,by simp[gJ]⟩
set_option maxHeartbeats 1000000 in
theorem wV(hσ:σ a=some (.dict l))(ha:a≠1)(hh:A.handled=none)(h64:l.length<64)(h:∀L:List By,L.Perm (l.map (·.1))→Q (.lst (L.map .bytes)) σ):cn X A E (.blt "sorted") [.ref a] σ Q:=λg s fv vs S r rl=>by
 unfold Rep at r;subst r
 unfold RepL at rl;obtain⟨v,us,rfl,r,rl⟩:=rl;unfold RepL at rl;subst rl
 unfold Rep at r;subst r
 obtain⟨kvs,hd,hk⟩:=dX S hσ
 obtain⟨ep,hat⟩:=hd.dictAt
 have lo:(a==sysModules)=false:=by simpa [sysModules] using ha
 refine Calls.call_function_entry kind_sorted plain_sorted entry_sorted (args_sorted1 _) ?_
 unfold Builtin.«sorted»
 refine ac (m:=checkCount "sorted" 1 1 _) (ao ?_)
 have hn:kvs.length≤sizeLine:=by rw[hk.len,bn];omega
 refine ac (kdu_collect (A:=A.in1) (kdl_dict (knd:=bytesKind P0 X.w) (kvs:=kvs) (ep:=ep) lo) hh hat hn λh' tk acc hkp hacc=>?_)
 have hl:acc.toList.length=kvs.length:=by rw[Array.length_toList];exact hacc.1
 have hby:∀v∈acc.toList,ix v:=λv hv=>by
  obtain⟨i,hi,e⟩:=List.mem_iff_getElem.mp hv
  obtain⟨k,x,_,hkx⟩:=hacc.2 i v (by rw[←Array.getElem?_toList,c8 hi,e])
  exact(wT hkx).1
 have hkeys:acc.toList.map gJ=l.map (·.1):=by
  rw[←hk.keys]
  refine List.ext_getElem? λi=>?_
  rw[eN,eN]
  cases q:acc.toList[i]? with
  |none=>
   rw[iO] at q
   rw[t5 (by omega)];rfl
  |some v=>
   obtain⟨k,x,hx,hkx⟩:=hacc.2 i v (by rw[←Array.getElem?_toList];exact q)
   rw[hx]
   show some (gJ v)=some k
   rw[(wT hkx).2]
 refine ac (wpAny_newList ?_ (by rw[hl];exact hn))
 have hoL:(h'.push (seqObj "list" acc.toList.toArray 0)).get? h'.objs.size=some (seqObj "list" acc.toList.toArray 0):=aX _ rfl
 have h64':acc.toList.length<64:=by rw[hl,hk.len];exact h64
 have h0:KeysOf vD (pairsOf acc.toList):=by
  intro p hp
  rw[pairsOf_toList] at hp
  obtain⟨b,t,e⟩:=hby _ (mem_zip_self hp).2
  exact⟨fG b.toList,by rw[e]⟩
 refine ac (bT (dE slot_list_sort ⟨_,hoL,rfl⟩ entry_list_sort (list_sort_treeK AH hoL h0 (λv₁ v₂ rest e=>Br (by rw[←e];exact hby)) h64' λst' a1 a2=>⟨_,rfl,?_⟩) (args_list_sort _)))
 refine ao ⟨_,rfl,?_⟩
 obtain⟨o1,o2⟩:=ER hby a1
 obtain⟨e,he⟩:=sortedHeap_at (n:=0) (out:=(arrOf st').map (·.2)) hoL
 have fresh:s.heap.get? h'.objs.size=none:=by
  cases q:s.heap.get? h'.objs.size with
  |none=>rfl
  |some o=>exact absurd (aY (hkp _ o q)) (bt _)
 have keep:∀b o,s.heap.get? b=some o→(sortedHeap (h'.push (seqObj "list" acc.toList.toArray 0)) h'.objs.size acc.toList ((arrOf st').map (·.2))).get? b=some o:=λb o q=>by
  have q':=hkp b o q
  have ql:=aY q'
  rw[sortedHeap_old (fz ql) (by rw[size_push'];exact qh ql)]
  exact aJ _ q'
 have hg:g h'.objs.size=none:=View.none_of S.in_ fresh
 refine Post.to (Go.keeps_add S keep fresh he) ⟨_,?_,h ((((arrOf st').map (·.2)).toList).map gJ) (by rw[←hkeys];exact o2)⟩
 unfold Rep
 exact⟨_,((arrOf st').map (·.2)).toList,rfl,⟨_,e,by unfold View.add;rw[ah rfl],rfl,by show Data.seq ((arrOf st').map (·.2)) e=_;rw[Array.toArray_toList]⟩,yM o1⟩
end
end
section
open PySem.W.X PySem.SeqAt
section
open AutoSeq1 (wpAny_loadPart')
theorem Cb(l:Addr)(items:Array Value)(n:Nat)(x:Int)(u:Tok)(dd:Option Addr)(sl:Array (Option Value))(hc0:¬(!Builtin.List.listFitsIndex x)=true)(hc1:¬items.size * x.toNat>(2 ^ 63 - 1) / 8)(hc2:¬Builtin.List.listTooLong (items.size * x.toNat)=true):
  Meets (Builtin.«list.__mul__» ⟨[.ref l,.int x u],[]⟩) (λ_ R s=>s.heap.get? l=some {cls:=.type "list",dict:=dd,data:=.seq items n,slots:=sl}∧R (.ok (.ret (Value.ref s.heap.objs.size))) {s with heap:=s.heap.push {cls:=Value.type "list",data:=Data.seq (List.foldl (λx1 x2=>x1++x2) #[] (List.replicate (if items.isEmpty=true then 0 else x.toNat) items))},toks:=s.toks}):=
 .of_wp λprog w A R s h=>by
  obtain⟨hp,g,d,tk,os⟩:=s;obtain⟨hl,h⟩:=h
  have hsz:=AutoListH.joined_fits hc2
  wp_walk using wpAny_loadPart' hl;refine uw (iW (i9.mpr hsz)) ?_;wp_walk;exact⟨_,rfl,h⟩
theorem B8(a:Int)(t:Tok)(l:Addr)(items:Array Value)(n:Nat)(dd:Option Addr)(sl:Array (Option Value)):
  Meets (Builtin.«int.__rmul__» ⟨[.int a t,.ref l],[]⟩) (λ_ R s=>s.heap.get? l=some {cls:=.type "list",dict:=dd,data:=.seq items n,slots:=sl}∧R (.ok (.ret Value.notImplemented)) s):=
 .of_wp λprog w A R s h=>by obtain⟨hp,g,d,tk,os⟩:=s;obtain⟨hl,h⟩:=h;wp_walk using wpAny_loadPart' hl;exact⟨_,rfl,h⟩
end
theorem BQ(a:Str)(t:Tok)(b:Array UInt8)(u:Tok):Gives (Builtin.«str.__ne__» ⟨[.str a t,.bytes b u],[]⟩) (.val (Value.notImplemented)):=
 .of_wp λM A E s Q h=>by obtain⟨hp,g,d,tk,os⟩:=s;wp_walk;exact⟨_,rfl,h⟩
theorem Cd(a:Str)(t:Tok)(b:Array UInt8)(u:Tok):Gives (Builtin.«str.__eq__» ⟨[.str a t,.bytes b u],[]⟩) (.val (Value.notImplemented)):=
 .of_wp λM A E s Q h=>by obtain⟨hp,g,d,tk,os⟩:=s;wp_walk;exact⟨_,rfl,h⟩
theorem Co(a:Str)(t:Tok)(b:Array UInt8)(u:Tok):Gives (Builtin.«bytes.__ne__» ⟨[.bytes b u,.str a t],[]⟩) (.val (Value.notImplemented)):=by
 refine .of_wp λM A E s Q hq=>?_
 have key:∀{α:Type} {f:Bool→Sem α} {Q':α→Shared→Prop},wpAny M A (f false) Q' E s→wpAny M A (isInstance (.str a t) (.type "bytes")>>= f) Q' E s:=λh=>ac (fw (nH s a t) PySem.F.sub_str_bytes h)
 unfold Builtin.«bytes.__ne__»
 wp_delta
 refine ac (bw (a:=(Value.bytes b u,[Value.str a t])) rfl ?_)
 dsimp only
 refine key ?_
 rw[ah (show(!false)=true from rfl)]
 exact ac (c5 (ao ⟨_,rfl,hq⟩))
theorem B4(a:Str)(t:Tok)(b:Array UInt8)(u:Tok):Gives (Builtin.«bytes.__eq__» ⟨[.bytes b u,.str a t],[]⟩) (.val (Value.notImplemented)):=by
 refine .of_wp λM A E s Q hq=>?_
 have key:∀{α:Type} {f:Bool→Sem α} {Q':α→Shared→Prop},wpAny M A (f false) Q' E s→wpAny M A (isInstance (.str a t) (.type "bytes")>>= f) Q' E s:=λh=>ac (fw (nH s a t) PySem.F.sub_str_bytes h)
 unfold Builtin.«bytes.__eq__»
 wp_delta
 refine ac (bw (a:=(Value.bytes b u,[Value.str a t])) rfl ?_)
 dsimp only
 refine key ?_
 rw[ah (show(!false)=true from rfl)]
 exact ac (c5 (ao ⟨_,rfl,hq⟩))
section
variable {X:Cx} {A:Around} {E:Value→Shared→Prop} {σ:St} {Q:AV→St→Prop}
theorem Ax(h:Q (.bool true) σ):bh X A E (compareOp .NotEq) (.bytes b) (.str x) σ Q:=λg s v u S r r'=>by
 unfold Rep at r r';obtain⟨t,rfl⟩:=r;obtain⟨t',rfl⟩:=r'
 exact rc_ne_decline_or (k:=false) (dS s _ t) (nH s x t') (by decide) PySem.F.sub_str_bytes PySem.W.FB.slot_bytes_ne PySem.F.slot_str_ne_refl
  (λ_ hq=>call_gives PySem.W.FB.slot_bytes_ne (dS s _ t) PySem.W.FB.entry_bytes_ne (PySem.W.FB.args_bytes_ne_2 _ _) (Co x t' _ t) hq)
  (λ_ hq=>call_gives PySem.F.slot_str_ne_refl (nH s x t') PySem.F.entry_str_ne (PySem.F.args_str_ne_2 _ _) (BQ x t' _ t) hq)
  (λ_ hq=>bw (rfl:isSame (.bytes b.toArray t) (.str x t')=pure false) hq) (.inl rfl) (Post.here S .bool h)
theorem BR(h:Q (.bool (!(x==y))) σ):bh X A E (compareOp .NotEq) (.str x) (.str y) σ Q:=λg s v u S r r'=>by
 unfold Rep at r r';obtain⟨t,rfl⟩:=r;obtain⟨t',rfl⟩:=r'
 exact RcNeAt.str_str x t y t' _ _ _ _ (Post.here S .bool h)
theorem BV(h:Q (.bool (x==y)) σ):bh X A E (compareOp .Eq) (.str x) (.str y) σ Q:=λg s v u S r r'=>by
 unfold Rep at r r';obtain⟨t,rfl⟩:=r;obtain⟨t',rfl⟩:=r'
 exact RcAt.str_str x t y t' _ _ _ _ (Post.here S .bool h)
theorem Bp(h:Q (.bool false) σ):bh X A E (compareOp .NotEq) .none .none σ Q:=λg s v u S r r'=>by
 unfold Rep at r r';subst r r'
 exact RcNeAt.none_none _ _ _ _ (Post.here S .bool h)
theorem E1{i n:Nat}(h:i<n):seqIndex? (i:Int) n=some i:=by
 unfold seqIndex?
 have h0:¬((i:Int)<0):=by omega
 simp only[h0,dr]
 rw[ah (by simp;omega)]
 simp
theorem qX{g:View}{T a vs}{s:Shared}(x:SeqAt g T a vs)(hin:g.In s.heap):∃dd n sl,s.heap.get? a=some {cls:=.type T,dict:=dd,data:=.seq vs.toArray n,slots:=sl}:=by
 obtain⟨⟨c,d,dt,sl⟩,n,e,hc,hd⟩:=x
 dsimp only at hc hd;subst hc hd
 exact⟨_,_,_,hin _ _ e⟩
theorem xb(S:Sat X g σ s)(rl:RepL g l vs)(h:Qv (.lst l) σ):Post X am g σ s Qv (.ref s.heap.objs.size) {s with heap:=s.heap.push {cls:=.type "list",data:=.seq vs.toArray}}:=by
 have hn:g s.heap.objs.size=none:=View.none_of S.in_ dn
 refine Post.to (Go.keeps_add S (λb o e=>aJ _ e) dn (aX _ rfl)) ⟨.lst l,?_,h⟩
 unfold Rep
 exact⟨_,vs,rfl,jd rfl rfl,rl.le (View.le_add _ hn)⟩
theorem kl(hz:l.length+l'.length≤65536)(h:Q (.lst (l++l')) σ):bh X A E (binaryOp .Add) (.lst l) (.lst l') σ Q:=λg s v u S r r'=>by
 unfold Rep at r r';obtain⟨a,vs,rfl,hq,rl⟩:=r;obtain⟨b,ws,rfl,hq',rl'⟩:=r'
 obtain⟨dd,n,sl,ho⟩:=qX hq S.in_
 obtain⟨dd2,n2,sl2,ho2⟩:=qX hq' S.in_
 have e:vs.toArray++ws.toArray=(vs++ws).toArray:=by simp
 refine concat_meets ⟨_,ho,rfl⟩ ⟨_,ho2,rfl⟩ noFill_list_add seq_list_add PySem.F.slot_list_add PySem.F.entry_list_add (PySem.F.args_list_add_2 _ _) (list_addW a b vs.toArray ws.toArray n n2 dd dd2 sl sl2 (by rw[cA,cA,rl.length,rl'.length,bn];omega)) ⟨ho,ho2,?_⟩
 rw[e]
 exact xb S (rl.append rl') h
theorem DB(hx:x.toNat≤65536)(h0:0≤x)(h:Q (.lst (List.replicate x.toNat (.int 0))) σ):bh X A E (binaryOp .Mult) (.lst [.int 0]) (.int x) σ Q:=λg s v u S r r'=>by
 unfold Rep at r r';obtain⟨a,vs,rfl,hq,rl⟩:=r;obtain⟨t,rfl⟩:=r'
 unfold RepL at rl;obtain⟨v0,us,rfl,r0,rl⟩:=rl;unfold RepL at rl;subst rl
 obtain⟨dd,k,sl,ho⟩:=qX hq S.in_
 have c0:¬(!Builtin.List.listFitsIndex x)=true:=by simp[Builtin.List.listFitsIndex];omega
 have c1:¬([v0].toArray.size * x.toNat>(2 ^ 63 - 1) / 8):=by
  rw[show [v0].toArray.size=1 from rfl]
  have:(65536:Nat)≤(2 ^ 63 - 1) / 8:=by decide
  omega
 have c2:¬Builtin.List.listTooLong ([v0].toArray.size * x.toNat)=true:=by
  rw[show [v0].toArray.size=1 from rfl]
  have:=bn
  unfold Builtin.List.listTooLong
  rw[g6,this];omega
 have gm:=Cb a [v0].toArray k x t dd sl c0 c1 c2
 have gr:=B8 x t a [v0].toArray k dd sl
 refine wpAny_binaryOp_repeat_ref (T:="list") (U:="int") (by decide) ⟨_,ho,rfl⟩ (λs'=>kx s' x t) noFill_list_mul PySem.F.fills_int_mul PySem.F.slot_int_rmul repeat_list PySem.F.slot_int_index.lookup
  (call_meets PySem.F.slot_int_rmul (kx s x t) PySem.F.entry_int_rmul (PySem.F.args_int_rmul_2 _ _) gr
   ⟨ho,rfl,⟨_,ho,rfl⟩,call_meets PySem.F.slot_list_mul ⟨_,ho,rfl⟩ PySem.F.entry_list_mul (PySem.F.args_list_mul_2 _ _) gm ⟨ho,?_⟩⟩)
 have e:(List.foldl (λ(x1 x2:Array Value)=>x1++x2) #[] (List.replicate (if ([v0].toArray).isEmpty=true then 0 else x.toNat) [v0].toArray))=(List.replicate x.toNat v0).toArray:=by
  have:∀(m:Nat) (acc:Array Value),List.foldl (λ(x1 x2:Array Value)=>x1++x2) acc (List.replicate m [v0].toArray)=acc++(List.replicate m v0).toArray:=λm=>by
   induction m with
   |zero=>intro acc;apply Array.ext';simp
   |succ m ih=>intro acc;rw[List.replicate_succ,List.foldl_cons,ih,List.replicate_succ];apply Array.ext';simp
  rw[ae (by simp),this];apply Array.ext';simp
 rw[e]
 have rr:∀m:Nat,RepL g (List.replicate m (.int 0)) (List.replicate m v0):=λm=>by
  induction m with
  |zero=>exact .nil
  |succ m ih=>exact .cons r0 ih
 exact xb S (rr _) h
theorem Aj(hz:l.length≤65536)(h:Q (.lst l) σ):cn X A E (.typ "list") [.lst l] σ Q:=λg s fv vs S r rl=>by
 unfold Rep at r;subst r
 unfold RepL at rl;obtain⟨v,us,rfl,r,rl⟩:=rl;unfold RepL at rl;subst rl
 unfold Rep at r;obtain⟨a,ws,rfl,hq,rl⟩:=r
 obtain⟨dd,n,sl,ho⟩:=qX hq S.in_
 refine call_list_seq a (.inl rfl) ho rfl rfl (λh' c' hk hS=>?_) (by rw[cA,rl.length,bn];omega)
 have hn:g s.heap.objs.size=none:=View.none_of S.in_ dn
 refine Post.to (Go.keeps_add (s':={s with heap:=h'}) S hk dn hS) ⟨.lst l,?_,h⟩
 unfold Rep
 exact⟨_,ws,rfl,jd rfl rfl,rl.le (View.le_add _ hn)⟩
theorem Av{ns:List Int}(hh:A.handled=none)(h:Q (.int ns.sum) σ):cn X A E (.blt "sum") [.lst (ns.map .int)] σ Q:=λg s fv vs S r rl=>by
 unfold Rep at r;subst r
 unfold RepL at rl;obtain⟨v,us,rfl,r,rl⟩:=rl;unfold RepL at rl;subst rl
 unfold Rep at r;obtain⟨a,ws,rfl,hq,rl⟩:=r
 have hi:=uQ rl
 obtain⟨xs,hxs⟩:=hi.allInts.items
 have hl:=c6 hq S.in_
 rw[hxs] at hl
 refine sum_intListG hh hl λh' tk t' hk=>?_
 have e:preSum (numAt xs) xs.size=ns.sum:=by
  have:=hi.numsOf
  rw[show ws=ws.toArray.toList from rfl,hxs,nums_intItems] at this
  rw[preSum_eq,iP (by simp),this]
 rw[e]
 exact Post.to (Go.keeps (s':={s with heap:=h',toks:=tk}) S hk) ⟨.int ns.sum,by unfold Rep;exact⟨_,rfl⟩,h⟩
theorem BG(hu:A.units<cLine)(h:Q (.bool l.isEmpty) σ):bh X A E (compareOp .Eq) (.lst l) (.lst []) σ Q:=λg s v u S r r'=>by
 unfold Rep at r r';obtain⟨a,vs,rfl,hq,rl⟩:=r;obtain⟨b,ws,rfl,hq',rl'⟩:=r'
 unfold RepL at rl';subst rl'
 have h1:=c6 hq S.in_
 have h2:=c6 hq' S.in_
 cases l with
 |nil=>
  unfold RepL at rl;subst rl
  exact RcAt.lists (e:=λ_=>true) h1 h2 rfl hu (λj h1=>absurd h1 (by simp)) _ _ _ _ (Post.here S .bool h)
 |cons V l=>
  have:vs.length=l.length+1:=rl.length
  exact RcAt.lists_lengths h1 h2 (by simp;intro e;rw[e] at this;simp at this) hu _ _ _ _ (Post.here S .bool h)
theorem Ba(hu:A.units<cLine)(h:Q (.bool (!l.isEmpty)) σ):bh X A E (compareOp .NotEq) (.lst l) (.lst []) σ Q:=λg s v u S r r'=>by
 unfold Rep at r r';obtain⟨a,vs,rfl,hq,rl⟩:=r;obtain⟨b,ws,rfl,hq',rl'⟩:=r'
 unfold RepL at rl';subst rl'
 have h1:=c6 hq S.in_
 have h2:=c6 hq' S.in_
 cases l with
 |nil=>
  unfold RepL at rl;subst rl
  exact RcNeAt.lists (e:=λ_=>true) h1 h2 rfl hu (λj h1=>absurd h1 (by simp)) _ _ _ _ (Post.here S .bool h)
 |cons V l=>
  have:vs.length=l.length+1:=rl.length
  exact RcNeAt.lists_lengths h1 h2 (by simp;intro e;rw[e] at this;simp at this) hu _ _ _ _ (Post.here S .bool h)
theorem zf:∀{l:List (Option By)} {vs ws:List Value},RepL g (l.map cz) vs→RepL g (l.map cz) ws→∀j (h1:j<vs.toArray.size) (h2:j<ws.toArray.size),EqAt A s vs.toArray[j] ws.toArray[j] true:=λ{l vs ws} r r' j h1 h2=>by
 have h1':j<vs.length:=by simpa using h1
 have h2':j<ws.length:=by simpa using h2
 have hl:j<l.length:=by have:=r.length;rw[bB] at this;omega
 have hg:(l.map cz)[j]?=some (cz l[j]):=by rw[eN,c8 hl];rfl
 obtain⟨v,hv,rv⟩:=r.get hg
 obtain⟨w,hw,rw_⟩:=r'.get hg
 have ev:vs.toArray[j]=v:=by rw[c8 h1'] at hv;simpa using hv
 have ew:ws.toArray[j]=w:=by rw[c8 h2'] at hw;simpa using hw
 rw[ev,ew]
 cases q:l[j] with
 |none=>rw[q] at rv rw_;unfold cz Rep at rv rw_;subst rv rw_;exact EqAt.same _
 |some b=>
  rw[q] at rv rw_;unfold cz Rep at rv rw_;obtain⟨t,rfl⟩:=rv;obtain⟨t',rfl⟩:=rw_
  have:=(w5 b.toArray b.toArray t t').at A s
  rwa [kc rfl] at this
theorem CI{l:List (Option By)}(hu:A.units<cLine)(h:Q (.bool true) σ):bh X A E (compareOp .Eq) (.lst (l.map cz)) (.lst (l.map cz)) σ Q:=λg s v u S r r'=>by
 unfold Rep at r r';obtain⟨a,vs,rfl,hq,rl⟩:=r;obtain⟨b,ws,rfl,hq',rl'⟩:=r'
 refine RcAt.lists (e:=λ_=>true) (c6 hq S.in_) (c6 hq' S.in_) (by rw[cA,cA,rl.length,rl'.length]) hu (zf rl rl') _ _ _ _ ?_
 rw[show(List.range vs.toArray.size).all (λ_=>true)=true from by simp]
 exact Post.here S .bool h
theorem CL{l:List (Option By)}(hu:A.units<cLine)(h:Q (.bool false) σ):bh X A E (compareOp .NotEq) (.lst (l.map cz)) (.lst (l.map cz)) σ Q:=λg s v u S r r'=>by
 unfold Rep at r r';obtain⟨a,vs,rfl,hq,rl⟩:=r;obtain⟨b,ws,rfl,hq',rl'⟩:=r'
 refine RcNeAt.lists (e:=λ_=>true) (c6 hq S.in_) (c6 hq' S.in_) (by rw[cA,cA,rl.length,rl'.length]) hu (zf rl rl') _ _ _ _ ?_
 rw[show(List.range vs.toArray.size).all (λ_=>true)=true from by simp]
 exact Post.here S .bool h
theorem uJ{value slice:Expr}{l:List AV}{i:Nat}{V:AV}(hz:l.length≤65536)(hi:l[i]?=some V)(h:Q V σ):bh X A E (subscriptTail value slice) (.tup l) (.int i) σ Q:=λg s v u S r r'=>by
 unfold Rep at r r';obtain⟨a,vs,rfl,hq,rl⟩:=r;obtain⟨t,rfl⟩:=r'
 obtain⟨x,hx,rx⟩:=rl.get hi
 have hlt:i<l.length:=(wx.mp hi).1
 have ht:IsTup s.heap a vs.toArray:=yx hq S.in_
 refine ji ht.typeIs slot_tuple_getitem.lookup (getItem_tuple (j:=i) ht (by omega) (by omega) ?_ (by simpa using hx) (Post.here S rx h))
 have:vs.length=l.length:=rl.length
 rw[cA,this]
 exact E1 hlt
end
def BD.del(l:BD)(k:By):BD:=l.filter λp=>decide (p.1≠k)
theorem KVs.del:∀{l:BD} {kvs:List (List UInt8×Value)},KVs l kvs→KVs (l.del k) (without kvs k)
 |[],_,h=>by unfold KVs at h;subst h;unfold BD.del without KVs;rfl
 |(k',b)::l,_,h=>by
  unfold KVs at h;obtain⟨t,r,rfl,h⟩:=h
  have ih:=h.del (k:=k)
  unfold BD.del without at ih ⊢
  by_cases e:k'=k
  ·rw[mK (by simpa using e),mK (by simpa using e)];exact ih
  ·rw[jZ (by simpa using e),jZ (by simpa using e)]
   unfold KVs;exact⟨t,_,rfl,ih⟩
section
variable {X:Cx} {A:Around} {E:Value→Shared→Prop} {σ:St} {Q:AV→St→Prop} {a:Addr} {l:BD} {k:By}
theorem zZ(hσ:σ a=some (.dict l))(ha:a≠1)(hz:l.length≤65536)(h:match l.lookup k with|some b=>Q (.bytes b) (σ.set a (.dict (l.del k)))|none=>Q D σ):cn X A E (.blt "dict.pop") [.ref a,.bytes k,D] σ Q:=λg s fv vs S r rl=>by
 unfold Rep at r;subst r
 unfold RepL at rl;obtain⟨v,us,rfl,r,rl⟩:=rl
 unfold RepL at rl;obtain⟨u,ws,rfl,r',rl⟩:=rl
 unfold RepL at rl;obtain⟨w,zs,rfl,r'',rl⟩:=rl;unfold RepL at rl;subst rl
 unfold Rep at r r';subst r;obtain⟨t,rfl⟩:=r'
 obtain⟨kvs,hd,hk⟩:=dX S hσ
 obtain⟨h1,h2⟩:=hk.value (k:=k)
 cases q:l.lookup k with
 |none=>
  rw[q] at h
  exact call_meetsIn PySem.F.slot_dict_pop hd.typeIs PySem.F.entry_dict_pop (PySem.F.args_dict_pop_3 _ _ _) (meets_dict_pop_default (bytesKind P0 X.w) a (i0 P0 X.w k t) (by simpa [sysModules] using ha) rfl w) ⟨kvs,hd,h2 q,Post.tok S r'' h⟩
 |some b=>
  rw[q] at h
  obtain⟨t',e⟩:=h1 b q
  refine call_meetsIn PySem.F.slot_dict_pop hd.typeIs PySem.F.entry_dict_pop (PySem.F.args_dict_pop_3 _ _ _) (meets_dict_pop_there (bytesKind P0 X.w) a (i0 P0 X.w k t) [w] (.inr ⟨w,rfl⟩) rfl) ⟨kvs,_,hd,by rw[hk.len,bn];omega,e,λh' hd' hs=>?_⟩
  have G:=Go.setTrk (s':={s with heap:=h',toks:=s.toks+1}) S hσ hs (t':=.dict (l.del k)) ⟨_,hd',hk.del⟩
  exact Post.to G ⟨.bytes b,.bytes,h⟩
theorem A8(hσ:σ a=some (.dict l))(hσ':σ b=some (.dict l'))(ha:a≠1)(hb:b≠1)(hu:A.units<cLine)(hne:l.length≠l'.length)(h:Q (.bool false) σ):bh X A E (compareOp .Eq) (.ref a) (.ref b) σ Q:=λg s v u S r r'=>by
 unfold Rep at r r';subst r r'
 obtain⟨kvs,hd,hk⟩:=dX S hσ
 obtain⟨kvs',hd',hk'⟩:=dX S hσ'
 have hT:=hd.typeIs
 have hT':=hd'.typeIs
 show wpAny (model P0 X.w) A (richCompare .Eq (.ref a) (.ref b)) _ _ _
 refine wpAny_richCompare_same_room (T:="dict") hT hT' PySem.F.slot_dict_eq (dE PySem.F.slot_dict_eq hT PySem.F.entry_dict_eq ?_ (PySem.F.args_dict_eq_2 _ _)) hu
 obtain⟨ep,o,es,ho,hc,hdat,hkk,hp,hn⟩:=hd.dictAt
 obtain⟨ep',o',es',ho',hc',hdat',hkk',hp',hn'⟩:=hd'.dictAt
 show wpAny _ _ (Builtin.Dict.dictSlotArgs "__eq__" ⟨[.ref a,.ref b],[]⟩>>= λx=>_) _ _ s
 refine ac ?_
 unfold Builtin.Dict.dictSlotArgs
 refine ac (wpAny_notOrdered_dict hT ?_)
 show wpAny _ _ (pure (Value.ref a,Value.ref b)) _ _ s
 refine ao ?_
 show wpAny _ _ (isInstance (.ref b) (.type "dict")>>= λr=>_) _ _ s
 refine ac (fw (b:=true) hT' (by rw[qv];kernel_rfl) ?_)
 show wpAny _ _ (Builtin.Dict.samePairs "dict.__eq__" a b>>= λr=>_) _ _ s
 refine ac ?_
 unfold Builtin.Dict.samePairs Builtin.Dict.showsAll
 rw[ae (by simpa [sysModules] using ha),ae (by simpa [sysModules] using hb)]
 refine ac (ao (ac (ao ?_)))
 refine ac (wpAny_dictEntries ho hdat (ac (wpAny_dictEntries ho' hdat' ?_)))
 have e1:es.size=l.length:=by rw[←hk.len,←hp.length];simp
 have e2:es'.size=l'.length:=by rw[←hk'.len,←hp'.length];simp
 rw[ah (by rw[jb,e1,e2];exact hne)]
 refine ac (c5 (ao ?_))
 exact ao ⟨_,rfl,(λe=>nomatch e),Post.here S .bool h⟩
end
structure DIt(X:Cx)(a:Addr)(o:Obj)(kvs:List (By×Value))(ep:Nat)(l:BD):Prop where
 at_:∀h:Heap,h.get? a=some o→h.DictAt (bytesKind P0 X.w) a kvs ep
 kv:KVs l kvs
def FR(X:Cx)(a:Addr)(o:Obj)(n ep:Nat)(I:Addr)(ks:List By):f5:=λown L g σ s=>own=a9 I∧Free X g σ I∧σ a=some (.obj o)∧∃i,s.heap.IsKeyIter I a i n ep∧(ks.drop i).map .bytes=L
theorem CB(D:DIt X a o kvs ep l):Itr X k tgt (.ref I) (λσ σ'=>σ' a=σ a) (FR X a o kvs.length ep I (l.map (·.1))):=by
 have atk:∀{i:Nat} {V:AV} {L:List AV},((l.map (·.1)).drop i).map AV.bytes=V::L→∃key x,kvs[i]?=some (key,x)∧V=.bytes key∧((l.map (·.1)).drop (i+1)).map AV.bytes=L:=λ{i V L} h=>by
  cases q:(l.map (·.1)).drop i with
  |nil=>rw[q] at h;cases h
  |cons y r=>
   rw[q] at h
   obtain⟨e1,e2⟩:=jc q
   rw[←D.kv.keys,eN,wE] at e1
   obtain⟨⟨key,x⟩,e1,rfl⟩:=e1
   cases h
   exact⟨key,x,e1,rfl,by rw[e2]⟩
 refine⟨λ{A own V L g σ s} hA S ⟨e,hf,hσ,i,hit,hL⟩=>?_,λ{A own g σ s} hA S ⟨e,hf,hσ,i,hit,hL⟩=>?_,λ_=>rfl,λ{own L g σ s} ⟨e,hf,hσ,i,hit,hL⟩=>?_,λ{A own L g σ s Q} hA S ⟨e,hf,hσ,i,hit,hL⟩ q=>wpAny_pyIter_keyiter hit q,λ{own L P g σ s g' σ' s'} ⟨e,hf,hσ,i,hit,hL⟩ G hap hd=>?_⟩
 ·have hat:=D.at_ _ (S.trk a _ hσ).2
  obtain⟨key,x,hx,rfl,hL'⟩:=atk hL
  refine wpAny_pyNext_dict_item hit hat hx λkv h' hk hit' hs=>⟨kv,rfl,?_⟩
  obtain⟨o',ho',hc',_⟩:=id hit'
  refine uq (s:={s with heap:=h'}) ho' hc' (by decide) ⟨g,own,.refl _ _,?_,?_,e,hf,hσ,i+1,hit',hL'⟩
  ·subst e
   exact Go.sameBut S hs hf rfl
  ·obtain⟨t,rfl⟩:=isBytes_shape hk
   unfold Rep;exact⟨t,rfl⟩
 ·have hat:=D.at_ _ (S.trk a _ hσ).2
  have hn:kvs[i]?=none:=by
   have:(l.map (·.1)).drop i=[]:=by simpa using hL
   have:=kA this
   rw[←D.kv.keys,eN,Option.map_eq_none_iff] at this
   exact this
  refine wpAny_pyNext_dict_end hA.handled hit hat hn λh' hs=>⟨rfl,g,?_⟩
  subst e
  exact Go.extBut S hf hs rfl
 ·subst e
  obtain⟨o',ho',_⟩:=hit
  exact⟨λb q=>⟨o',by rw[show b=I from q];exact ho'⟩,λ_ q=>q.elim⟩
 ·subst e
  obtain⟨o',ho',hc',hd'⟩:=id hit
  have hp:¬P.a I:=hap.1 I rfl
  refine⟨rfl,hf.go G ho' hp,by rw[hd];exact hσ,i,?_,hL⟩
  rcases G.run.keep I o' ho' hf.2.1 hf.2.2 hp with q|⟨q,_⟩
  ·exact⟨o',q,hc',hd'⟩
  ·obtain⟨_,_,q⟩:=q;rw[hd'] at q;cases q
section
variable {X:Cx} {A:Around} {E:Value→Shared→Prop} {σ:St} {a:Addr} {l:BD}
theorem Go.retrk(S:Sat X g σ s)(hσ:σ a=some t)(h:TrkAt X.w g s.heap a t'):Go X am g σ s g (σ.set a t') s:=by
 have hn:∀b,σ.set a t' b=none↔σ b=none:=λb=>by
  unfold St.set;split
  ·rename_i e;rw[e,hσ];simp
  ·rfl
 refine⟨⟨S.le,S.in_,λb u e=>?_,λp hp=>?_⟩,.refl g,λ_ _ _ _=>rfl,λb _ _ _=>hn b,.keeps (λ_ _ e=>e) rfl rfl⟩
 ·unfold St.set at e;split at e
  ·rename_i q;cases e;rw[q];exact⟨(S.trk a _ hσ).1,h⟩
  ·exact S.trk b u e
 ·obtain⟨e1,e2,e3,e4⟩:=S.tab p hp
  exact⟨e1,(hn _).mpr e2,e3,e4⟩
theorem C0(hσ:σ a=some (.dict l))(ha:a≠1)(h:∀o,(∀g h,h.get? a=some o→TrkAt X.w g h a (.dict l))→Q (λσ σ'=>σ' a=σ a) ((l.map (·.1)).map .bytes) (σ.set a (.obj o))):jy X A E k tgt (.ref a) σ Q:=λg s v S r=>by
 unfold Rep at r;subst r
 obtain⟨kvs,hd,hk⟩:=dX S hσ
 obtain⟨ep,hat⟩:=hd.dictAt
 obtain⟨o,es,ho,hx⟩:=id hat
 have D:DIt X a o kvs ep l:=⟨λh e=>⟨o,es,e,hx⟩,hk⟩
 have G0:=Go.retrk S hσ (t':=.obj o) ho
 have G:Go X am g σ s g (σ.set a (.obj o)) {s with heap:=s.heap.push {cls:=.type "dict_keyiterator",data:=.fields #[.ref a,.int 0 0,.int kvs.length 0,.int ep 0]}}:=G0.trans (Go.keeps G0.sat λb o e=>aJ _ e)
 have hf:Free X g (σ.set a (.obj o)) s.heap.objs.size:=bC G0.sat (aG _)
 exact wpAny_pyIter_dict (by simpa [sysModules] using ha) hat ⟨g,_,_,_,_,_,G,nG,CB D,⟨rfl,hf,by unfold St.set;rw[ah rfl],0,⟨_,aX _ rfl,rfl,rfl⟩,rfl⟩,h o λg h e=>⟨kvs,(D.at_ h e).dictOf,hk⟩⟩
theorem Dg(h:Ev X A E env m e σ λV σ'=>(∃o,σ' a=some (.obj o)∧(∀g h,h.get? a=some o→TrkAt X.w g h a (.dict l)))∧Q V (σ'.set a (.dict l))):Ev X A E env m e σ Q:=λg s S F=>
 aj (h g s S F) (λv s₁ ⟨g₁,V,σ₁,G₁,r₁,⟨o,h1,h2⟩,q⟩=>⟨g₁,V,_,G₁.trans (Go.retrk G₁.sat h1 (h2 _ _ (G₁.sat.trk a _ h1).2)),r₁,q⟩) i2
end
end
section
open PySem.W.X
def Ft:List By:=[[65,0],[65,1],[65,128],[65,255],[64,1],[97,1],[193,0],[193,1]]
def Gv:List By:=[[65],[193],[64],[67]]
def FE:List By:=[[0],[1],[128],[255]]
structure Base7(X:Cx):Prop extends Base6 X where
 g_sorted:aL X "sorted" (.blt "sorted")
 g_keys:aL X "_law_keys" (.lst (Ft.map .bytes))
 f_octets:Fn X 416 49 "_law_octets" .none
 g_octets:aL X "_law_octets" (.ref 416)
 f_ends:Fn X 423 50 "_law_ends" .none
 g_ends:aL X "_law_ends" (.ref 423)
 f_path:Fn X 428 51 "_law_path" .none
 g_path:aL X "_law_path" (.ref 428)
 f_node:Fn X 433 52 "_law_node" .none
 g_node:aL X "_law_node" (.ref 433)
 f_tree:Fn X 438 53 "_law_tree" .none
 g_tree:aL X "_law_tree" (.ref 438)
section
variable {X:Cx} {A:Around} {σ:St} {Q:AV→St→Prop}
theorem xt(h:Q (.rng 0 n 1) σ):cn X A ai (.typ "range") [.int n] σ Q:=λg s fv vs S r rl=>by
 unfold Rep at r;subst r
 unfold RepL at rl;obtain⟨v,us,rfl,r,rl⟩:=rl;unfold RepL at rl;subst rl
 unfold Rep at r;obtain⟨t,rfl⟩:=r
 refine call_range_1 ?_
 generalize hob:({cls:=.type "range",data:=.fields #[.int 0 s.toks,.int n t,.int 1 (s.toks+1)]}:Obj)=ob
 have kp:∀b o,s.heap.get? b=some o→(s.heap.push ob).get? b=some o:=λb o e=>aJ _ e
 have G₁:Go X am g σ s g σ {s with heap:=s.heap.push ob,toks:=s.toks+1+1}:=Go.keeps S kp
 have hf:=bC (a:=s.heap.objs.size) S (aG _)
 have G₂:=Go.freeze G₁.sat hf (aX _ (by rw[←hob];rfl))
 refine Post.to (G₁.comp G₂ ⟨λb o e q=>?_,λ_ _ q=>q⟩) ⟨.rng 0 n 1,?_,h⟩
 ·rw[show b=s.heap.objs.size from q] at e;exact bt _ (aY e)
 ·unfold Rep
  exact⟨_,s.toks,t,s.toks+1,rfl,by unfold View.add;rw[ah rfl,←hob]⟩
theorem hZ(hz:l.length≤65536)(h:Q (.int l.length) σ):cn X A E (.blt "len") [.lst l] σ Q:=λg s fv vs S r rl=>by
 unfold Rep at r;subst r
 unfold RepL at rl;obtain⟨v,us,rfl,r,rl⟩:=rl;unfold RepL at rl;subst rl
 unfold Rep at r;obtain⟨a,ws,rfl,hq,rl⟩:=r
 have e:=rl.length
 have hl:=c6 hq S.in_
 refine Calls.call_len_list hl (by rw[cA,e];omega) ?_
 rw[cA,e]
 exact Post.tok S .int h
end
section
variable {X:Cx} {σ:St} (hX:Base7 X)
include hX
theorem Ck(h:Q (.lst (Gv.map .bytes)) σ):CallOk X 1 (.ref 416) [] σ Q:=by
 obtain⟨code,pm,F⟩:=hX.f_octets
 refine bG F [] (bk [] λvs hv=>?_) (by rfl) λA L hA=>?_
 ·match vs,hv with|[],_=>rfl
 exact ag<|aZ<|fV<|ad<|da<|ad<|da<|ad<|da<|ad<|da<|ak ⟨by rw[bn];exact cU rfl,h⟩
theorem rB(h:Q (.lst (FE.map .bytes)) σ):CallOk X 1 (.ref 423) [] σ Q:=by
 obtain⟨code,pm,F⟩:=hX.f_ends
 refine bG F [] (bk [] λvs hv=>?_) (by rfl) λA L hA=>?_
 ·match vs,hv with|[],_=>rfl
 exact ag<|aZ<|fV<|ad<|da<|ad<|da<|ad<|da<|ad<|da<|ak ⟨by rw[bn];exact cU rfl,h⟩
end
theorem fF(b:By):(ay b).length=b.length:=by simp[ay]
theorem kK(a b:By):ay (a++b)=ay a++ay b:=by simp[ay]
theorem Cy(b:By):(rowK b).length % 8=0∧(rowK b).length≤b.length+11:=by
 have h4:(bq b).length % 4=0∧(bq b).length≤b.length+3:=by
  unfold bq;rw[bg,wJ];omega
 unfold rowK
 rw[bg,bg]
 have ht:(two (b.length % 4)).length=2:=rfl
 rw[ht]
 split
 ·rename_i q;have:(bq b).length % 8=4:=by simpa using q
  simp only[bc,gu];omega
 ·rename_i q;have:(bq b).length % 8≠4:=by simpa using q
  simp only[bc,gu];omega
def ir(c:By)(i:Nat):Int:=((c.getD i 0).toNat:Int) * 2 ^ (7 - i)
theorem Bx(c:By)(h:c.length=8):cQ c=((List.range 8).map (ir c)).sum:=by
 match c,h with
 |[a0,a1,a2,a3,a4,a5,a6,a7],_=>
  simp only[cQ,List.reverse_cons,List.reverse_nil,cH,mT,d9,List.sum_cons,List.sum_nil,show List.range 8=[0,1,2,3,4,5,6,7] from rfl,bQ,List.map_nil,ir,List.getD_cons_zero,List.getD_cons_succ]
  omega
section
variable {X:Cx} {σ:St} (hX:Base7 X)
include hX
theorem Dl(hb:aQ b)(hz:b.length≤64)(h:Q (.bytes (bR b)) σ):CallOk X 5 (.ref 428) [.lst (ay b)] σ Q:=by
 obtain⟨code,pm,F⟩:=hX.f_path
 have hl:=fF b
 have e1:(-((ay b).length:Int)).fmod 4=(((4 - b.length % 4) % 4:Nat):Int):=by
  rw[hl,mJ _ (by decide)];omega
 have e2:(((ay b).length:Int).fdiv 2).fmod 2=(((b.length % 4 / 2 % 2).toUInt8.toNat:Nat):Int):=by
  have:(b.length % 4 / 2 % 2).toUInt8.toNat=b.length % 4 / 2 % 2:=by
   show(UInt8.ofNat _).toNat=_;rw[ud];omega
  rw[hl,this,Int.fdiv_eq_ediv_of_nonneg _ (by decide),mJ _ (by decide)];omega
 have e3:((ay b).length:Int).fmod 2=(((b.length % 4 % 2).toUInt8.toNat:Nat):Int):=by
  have:(b.length % 4 % 2).toUInt8.toNat=b.length % 4 % 2:=by
   show(UInt8.ofNat _).toNat=_;rw[ud];omega
  rw[hl,this,mJ _ (by decide)];omega
 have ef:List.replicate ((((4 - b.length % 4) % 4:Nat):Int)).toNat (AV.int 0)++ay b=ay (bq b):=by
  unfold bq;rw[kK,eO];congr 1;unfold ay;rw[List.map_replicate];rfl
 refine bG (k:=4) F ["bits"] (bk ["bits"] λvs hv=>?_) (by rfl) λA L hA=>?_
 ·match vs,hv with|[v],_=>rfl
 refine ag<|aE<|aK<|aK<|fV<|ad<|av<|ak ⟨by rw[bn];exact cU rfl,aK<|vW<|au<|eg hX.g_len<|ad<|ab (.lst (ay b))<|ak ⟨trivial,hZ (by omega)<|uP<|av<|dW (by decide) ?_⟩⟩
 rw[e1]
 refine DB (by omega) (by omega)<|au<|eg hX.g_list<|ad<|ab (.lst (ay b))<|ak ⟨trivial,Aj (by omega)<|kl (by rw[wJ];omega) ?_⟩
 rw[ef]
 refine aq ?_
 refine ag<|aE<|fV<|ad<|aK<|aK<|au<|eg hX.g_len<|ad<|ab (.lst (ay b))<|ak ⟨trivial,hZ (by omega)<|av<|ny (by decide) (by decide)<|av<|dW (by decide)<|ad<|aK<|au<|eg hX.g_len<|ad<|ab (.lst (ay b))<|ak ⟨trivial,hZ (by omega)<|av<|dW (by decide)<|ak ⟨by rw[bn];exact cU rfl,?_⟩⟩⟩
 rw[e2,e3]
 rw[show([AV.int (((b.length % 4 / 2 % 2).toUInt8.toNat:Nat):Int),AV.int (((b.length % 4 % 2).toUInt8.toNat:Nat):Int)]:List AV)=ay (two (b.length % 4)) from rfl]
 refine aq ?_
 have hpl:=fF (bq b)
 have hpz:(bq b).length≤67:=by unfold bq;rw[bg,wJ];omega
 have hr:=Cy b
 refine ag<|Ex.mono (Q:=λF m' σ'=>F=.next∧σ'=σ∧∃m0:Mp,m'=m0.upd "whole" (.lst (ay (rowK b)))) ?_ ?_
 ·refine aE<|rK<|ar<|aK<|au<|eg hX.g_len<|ad<|ap (V:=.lst (ay (bq b))) (by rfl)<|ak ⟨trivial,hZ (by omega)<|av<|dW (by decide)<|av<|aU ⟨_,rfl,?_⟩⟩
  have e4:(((ay (bq b)).length:Int).fmod 8==4)=((bq b).length % 8==4):=by
   rw[hpl,mJ _ (by decide)]
   rw[qk,bd,bd];omega
  rw[e4]
  unfold rowK
  split
  ·rename_i q
   refine aK<|aK<|fV<|ad<|av<|ad<|av<|ak ⟨by rw[bn];exact cU rfl,ap (V:=.lst (ay (two (b.length % 4)))) (by rfl)<|kl (by simp[ay,two])<|ap (V:=.lst (ay (bq b))) (by rfl)<|kl (by simp[ay,two];omega) ?_⟩
   refine fD (c:=L+1) (by rfl) (by decide) (by rfl) ⟨eS _,.inr ⟨"whole",by rfl⟩⟩ ⟨rfl,rfl,?_⟩
   rw[kK,kK];exact⟨_,rfl⟩
  ·rename_i q
   refine aK<|aK<|fV<|ad<|av<|ad<|av<|ad<|av<|ad<|av<|ad<|av<|ad<|av<|ak ⟨by rw[bn];exact cU rfl,ap (V:=.lst (ay (two (b.length % 4)))) (by rfl)<|kl (by simp[ay,two])<|ap (V:=.lst (ay (bq b))) (by rfl)<|kl (by simp[ay,two];omega) ?_⟩
   refine fD (c:=L+1) (by rfl) (by decide) (by rfl) ⟨eS _,.inr ⟨"whole",by rfl⟩⟩ ⟨rfl,rfl,?_⟩
   rw[kK,kK];exact⟨_,rfl⟩
 rintro F' m' σ' ⟨rfl,rfl,m0,rfl⟩
 have hwl:=fF (rowK b)
 have hbits:aQ (rowK b):=by
  unfold rowK
  refine fT (fT ?_ (rq _)) (uV hb)
  split<;>(intro c hc;simp at hc;rcases hc with rfl|rfl<;>simp)
 have h':Q (.bytes (f7 (rowK b))) σ':=h
 generalize rowK b=row at *
 have hw:row.length≤80:=by omega
 refine ag<|aZ<|au<|eg hX.g_bytes<|ad<|fM (k:=4) (λD env=>T1 D env _) (λC env=>J1 X A env _) hA (λC D it=>fc) (λD C hDC hD=>eJ hD) (by rfl) (by rfl) (by decide) (by decide)
  <|c7<|au<|eg hX.g_range<|ad<|av<|ad<|au<|eg hX.g_len<|ad<|ab (.lst (ay row))<|ak ⟨trivial,hZ (by omega)<|ad<|av<|ak ⟨trivial,xk (by decide) (wC (by decide)) ?_⟩⟩
 rw[hwl]
 refine rj (xc row (by omega)) (uI row) λC=>
   dH (λm=>m "whole"=some (.lst (ay row))) (λ_=>true) (λV=>match V with|.int i=>.int (cQ ((row.drop i.toNat).take 8))|V=>V) trivial _ _ [] (λV hV m hm=>?_) ?_ (by rfl) λm' _=>?_
 ·obtain⟨i,hi,rfl⟩:=aP.mp hV
  have hi':=qw.mp hi
  refine fD (c:=C+1) (by rfl) (by decide) (by rfl) ⟨eS _,.inr ⟨"k",by rfl⟩⟩ ⟨rfl,rfl,rfl,?_,λ_=>?_⟩
  ·rw[←hm];rfl
  have hlen8:8 * i+8≤row.length:=by omega
  have hcl:((row.drop (8 * i)).take 8).length=8:=by rw[eq,bA];omega
  have hget:∀q,q<8→((row.drop (8 * i)).take 8).getD q 0=row.getD (8 * i+q) 0:=λq hq=>by
   rw[fj,fj,List.getElem?_take_of_lt hq,List.getElem?_drop]
  refine au<|eg hX.g_sum<|ad<|fM (k:=4) (λD env=>T1 D env _) (λC env=>J1 X A env _) hA (λC D it=>fc) (λD C hDC hD=>eJ hD) (by rfl) (by rfl) (by decide) (by decide)
   <|c7<|au<|eg hX.g_range<|ad<|av<|ak ⟨trivial,xt<|rj (n:=8) (by decide) (by decide) λC'=>
    dH (λm=>m "whole"=some (.lst (ay row))∧m "k"=some (.int (0+(i:Int) * 8))) (λ_=>true) (λV=>match V with|.int q=>.int (ir ((row.drop (8 * i)).take 8) q.toNat)|V=>V) trivial _ _ [] (λV hV m2 hm2=>?_) (by simp[cw]) ⟨?_,by rfl⟩ λm' _=>?_⟩
  ·obtain⟨q,hq,rfl⟩:=aP.mp hV
   have hq':=qw.mp hq
   refine aq ⟨rfl,rfl,rfl,⟨?_,?_⟩,λ_=>?_⟩
   ·rw[←hm2.1];rfl
   ·rw[←hm2.2];rfl
   refine aK<|aC<|ap (V:=.lst (ay row)) (by rw[←hm2.1];rfl)<|aK<|ap (V:=.int (0+(i:Int) * 8)) (by rw[←hm2.2];rfl)<|ap (V:=.int (0+(q:Int) * 1)) (by rfl)<|fN ?_
   rw[show(0+(i:Int) * 8+(0+(q:Int) * 1))=((8 * i+q:Nat):Int) from by omega]
   have hi8:8 * i+q<row.length:=by omega
   refine dR (V:=.int ((row.getD (8 * i+q) 0).toNat:Int)) (by omega) ?_<|aK<|av<|aK<|av<|ap (V:=.int (0+(q:Int) * 1)) (by rfl)<|qQ ?_
   ·unfold ay
    rw[eN,c8 hi8,fj,c8 hi8];rfl
   rw[show((7:Int) - (0+(q:Int) * 1))=((7 - q:Nat):Int) from by omega]
   refine vB (by omega)<|xB ⟨rfl,?_⟩ ?_
   ·show AV.int _=AV.int (ir _ (0+(q:Int) * 1).toNat)
    rw[show(0+(q:Int) * 1).toNat=q from by omega]
    unfold ir
    rw[hget q hq']
   ·have hm':=hbits _ (wP (show row[8 * i+q]?=some (row.getD (8 * i+q) 0) from by rw[fj,c8 hi8];rfl))
    exact .of_left (by rcases hm' with w|w<;>rw[w]<;>decide)
  ·rw[←hm];rfl
  ·have e:((cw 0 1 8).filter λ_=>true)=cw 0 1 8:=by simp
   rw[e,cH]
   have e2:(cw 0 1 8).map (λV=>match V with|AV.int q=>AV.int (ir ((row.drop (8 * i)).take 8) q.toNat)|V=>V)=(((List.range 8).map (ir ((row.drop (8 * i)).take 8))).map AV.int):=by
    unfold cw
    rw[cC,cC]
    apply j6
    intro q _
    show AV.int (ir _ (0+(q:Int) * 1).toNat)=_
    rw[show(0+(q:Int) * 1).toNat=q from by omega];rfl
   rw[e2]
   refine ak ⟨trivial,Av hA.handled ⟨rfl,?_⟩⟩
   show AV.int _=AV.int (cQ ((row.drop (0+(i:Int) * 8).toNat).take 8))
   rw[show(0+(i:Int) * 8).toNat=8 * i from by omega,Bx _ hcl]
 ·simp[cw];omega
 ·have e:((cw 0 8 ((row.length+7) / 8)).filter λ_=>true)=cw 0 8 ((row.length+7) / 8):=by simp
  rw[e,cH]
  have e2:(cw 0 8 ((row.length+7) / 8)).map (λV=>match V with|AV.int i=>AV.int (cQ ((row.drop i.toNat).take 8))|V=>V)=(((de row).map cQ).map AV.int):=by
   unfold cw de
   rw[cC,cC,cC]
   apply j6
   intro i _
   show AV.int (cQ ((row.drop (0+(i:Int) * 8).toNat).take 8))=_
   have:(0+(i:Int) * 8).toNat=8 * i:=by omega
   rw[this];rfl
  rw[e2]
  refine ak ⟨trivial,qj hA.handled (λn hn=>?_) (by rw[bB,ni];omega) ?_⟩
  ·obtain⟨c,hc,rfl⟩:=aP.mp hn
   exact xH (nK hc) λx hx=>hbits x (nI hc hx)
  ·rw[cC]
   exact h'
end
abbrev cY:=List (By×By)
structure RowsOk(n:Nat)(R:cY):Prop where
 ne:R≠[]
 len:∀r∈R,r.1.length=n
 bits:∀r∈R,aQ r.1
 nd:(R.map (·.1)).Nodup
 val:∀r∈R,r.2≠[]∧r.2.length≤16
def zk(R:cY):Prop:=∃r1∈R,∃r2∈R,r1.1.take 1≠r2.1.take 1
structure Tr(n:Nat)(R:cY)(t:T):Prop where
 wf:WF n t
 short:ck t
 look:∀p,p.length=n→aQ p→look t p=R.lookup p
def d8(c:Nat)(R:cY):cY:=R.map λr=>(r.1.drop c,r.2)
def cp(s:UInt8)(R:cY):cY:=d8 1 (R.filter λr=>r.1.take 1==[s])
theorem uR:∀{R:cY} {p:By} {c:Nat},(∀r∈R,r.1.take c=b)→b.length=c→R.lookup (b++p)=(d8 c R).lookup p
 |[],_,_,_,_=>rfl
 |(k,v)::R,p,c,h,hb=>by
  have hk:k.take c=b:=h (k,v) bj
  have ih:=uR (R:=R) (p:=p) (c:=c) (λr hr=>h r (aR _ hr)) hb
  show List.lookup (b++p) ((k,v)::R)=List.lookup p ((k.drop c,v)::d8 c R)
  rw[a8,a8]
  have e:(b++p==k)=(p==k.drop c):=by
   rw[qk,bd,bd]
   constructor
   ·intro q;rw[←q,←hb,mY rfl]
   ·intro q;rw[q,←hk,dC]
  rw[e,ih]
theorem Ab{R:cY}{p:By}(h:∀r∈R,r.1≠p):R.lookup p=none:=by
 induction R with
 |nil=>rfl
 |cons r R ih=>
  obtain⟨k,v⟩:=r
  rw[a8,show(p==k)=false from ba.mpr λe=>h (k,v) bj e.symm]
  exact ih λr hr=>h r (aR _ hr)
theorem Am{R:cY}{f:By×By→Bool}{p:By}(h:∀v,f (p,v)=true):(R.filter f).lookup p=R.lookup p:=by
 induction R with
 |nil=>rfl
 |cons r R ih=>
  obtain⟨k,v⟩:=r
  by_cases e:p=k
  ·subst e
   rw[jZ (h v),a8,a8];simp
  ·have e':(p==k)=false:=ba.mpr e
   by_cases hf:f (k,v)=true
   ·rw[jZ hf,a8,a8,e',ih]
   ·rw[mK hf,a8,e',ih]
theorem Cz{c:Nat}{b x y:By}(hx:x.take c=b)(hy:y.take c=b)(h:x.drop c=y.drop c):x=y:=by
 rw[←dC c x,←dC c y,hx,hy,h]
theorem RowsOk.drop{n c:Nat}{R:cY}{b:By}(h:RowsOk (c+n) R)(hb:∀r∈R,r.1.take c=b):RowsOk n (d8 c R) where
 ne:=by unfold d8;simpa using h.ne
 len r hr:=by
  obtain⟨q,hq,rfl⟩:=aP.mp hr
  have:=h.len q hq
  show(q.1.drop c).length=n
  rw[bA];omega
 bits r hr:=by
  obtain⟨q,hq,rfl⟩:=aP.mp hr
  exact eU (h.bits q hq) c
 nd:=by
  unfold d8
  rw[cC]
  have h2:=h.nd
  unfold List.Nodup at h2 ⊢
  rw[List.pairwise_map] at h2 ⊢
  refine h2.imp_of_mem λ{x y} hx hy hne e=>hne (Cz (hb x hx) (hb y hy) e)
 val r hr:=by
  obtain⟨q,hq,rfl⟩:=aP.mp hr
  exact h.val q hq
theorem Tr.kv{n c:Nat}{R:cY}{b:By}{t:T}(h:RowsOk (c+n) R)(hb:∀r∈R,r.1.take c=b)(hbl:b.length=c)(hc:0<c)(T:Tr n (d8 c R) t)(hk:jq t=false):Tr (c+n) R (.kv b t) where
 wf:=by
  obtain⟨r,hr⟩:=List.exists_mem_of_ne_nil _ h.ne
  refine⟨λe=>by rw[e] at hbl;simp at hbl;omega,by rw[←hb r hr];exact qR (h.bits r hr) c,hk,n,by rw[hbl],T.wf⟩
 short:=T.short
 look p hp hpb:=by
  show(if p.take b.length=b then Tw.look t (p.drop b.length) else none)=_
  rw[hbl]
  split
  ·rename_i q
   rw[T.look _ (by rw[bA];omega) (eU hpb c)]
   rw[←uR (b:=b) hb hbl]
   congr 1
   rw[←q,dC]
  ·rename_i q
   exact(Ab λr hr e=>q (by rw[←e];exact hb r hr)).symm
theorem Tr.leaf(h:RowsOk 0 R):∃v,R=[([],v)]∧v≠[]∧v.length≤16∧Tr 0 R (.leaf v):=by
 have h1:∀r∈R,r.1=[]:=λr hr=>gW.mp (h.len r hr)
 match R,h,h1 with
 |[],h,_=>exact absurd rfl h.ne
 |[(k,v)],h,h1=>
  have hk:k=[]:=h1 (k,v) bj
  subst hk
  have hv:=h.val ([],v) bj
  refine⟨v,rfl,hv.1,hv.2,⟨rfl,hv.1⟩,hv.2,λp hp _=>?_⟩
  have:p=[]:=gW.mp hp
  subst this;rfl
 |(k,v)::(k',v')::R,h,h1=>
  have e1:k=[]:=h1 (k,v) (by simp)
  have e2:k'=[]:=h1 (k',v') (by simp)
  have:=h.nd
  simp[e1,e2] at this
theorem RowsOk.side(h:RowsOk (1+n) R)(hne:∃r∈R,r.1.take 1=[s]):RowsOk n (cp s R):=by
 have hf:∀r∈R.filter (λr=>r.1.take 1==[s]),r∈R∧r.1.take 1=[s]:=λr hr=>by
  have:=qp.mp hr;exact⟨this.1,bd.mp this.2⟩
 refine RowsOk.drop (c:=1) (b:=[s]) ⟨?_,λr hr=>h.len r (hf r hr).1,λr hr=>h.bits r (hf r hr).1,?_,λr hr=>h.val r (hf r hr).1⟩ λr hr=>(hf r hr).2
 ·obtain⟨r,hr,e⟩:=hne
  exact List.ne_nil_of_mem (qp.mpr ⟨hr,bd.mpr e⟩)
 ·exact(List.filter_sublist.map _).nodup h.nd
theorem Tr.br{n:Nat}{R:cY}{l r:T}(h:RowsOk (1+n) R)(Tl:Tr n (cp 0 R) l)(Tr':Tr n (cp 1 R) r):Tr (1+n) R (.br l r) where
 wf:=⟨n,by omega,Tl.wf,Tr'.wf⟩
 short:=⟨Tl.short,Tr'.short⟩
 look p hp hpb:=by
  cases p with
  |nil=>simp at hp;omega
  |cons c p=>
   have hc:c=0∨c=1:=hpb c bj
   have hp':p.length=n:=by simp at hp;omega
   have hb':aQ p:=λx hx=>hpb x (aR _ hx)
   have key:∀s:UInt8,(cp s R).lookup p=R.lookup (s::p):=λs=>by
    have hf:∀r∈R.filter (λr=>r.1.take 1==[s]),r.1.take 1=[s]:=λr hr=>bd.mp (qp.mp hr).2
    have:=uR (p:=p) hf rfl
    unfold cp
    rw[←this]
    exact Am λv=>by simp
   rw[dI]
   rcases hc with rfl|rfl
   ·rw[ah rfl,Tl.look p hp' hb',key]
   ·rw[ae (by decide),Tr'.look p hp' hb',key]
theorem CC(h:RowsOk (1+n) R):(cp 0 R).length+(cp 1 R).length=R.length:=by
 have aux:∀R:cY,(∀r∈R,r.1.take 1=[0]∨r.1.take 1=[1])→(cp 0 R).length+(cp 1 R).length=R.length:=λR=>by
  induction R with
  |nil=>intro _;rfl
  |cons r R ih=>
   intro h
   have:=ih λr hr=>h r (aR _ hr)
   unfold cp d8 at this ⊢
   simp only[bB] at this ⊢
   rcases h r bj with e|e
   ·rw[jZ (by rw[e];rfl),mK (by rw[e];decide)]
    simp only[bc];omega
   ·rw[mK (by rw[e];decide),jZ (by rw[e];rfl)]
    simp only[bc];omega
 refine aux R λr hr=>?_
 have hl:=h.len r hr
 have hb:=h.bits r hr
 match r.1,hl,hb with
 |[],hl,_=>simp at hl;omega
 |x::p,_,hb=>
  rcases hb x bj with e|e
  ·left;rw[e];rfl
  ·right;rw[e];rfl
theorem Full.mono(s:BD.Sub N N')(d:BD.Sub D D'):∀{t:T} {h:By} {L:List By},Full N D t h L→Full N' D' t h L
 |.leaf v,h,L,x=>⟨s _ _ x.1,d _ _ x.2.1,x.2.2⟩
 |.kv b t,h,L,x=>by obtain⟨h',L',a,b1,c,e⟩:=x;exact⟨h',L',a.mono s d,s _ _ b1,d _ _ c,e⟩
 |.br l r,h,L,x=>by obtain⟨hl,hr,Ll,Lr,a,a',b1,c,e⟩:=x;exact⟨hl,hr,Ll,Lr,a.mono s d,a'.mono s d,s _ _ b1,d _ _ c,e⟩
structure Sn(f d dT:Addr)(σ0 σ:St)(N D:BD)(c:Nat):Prop where
 nm:NmF σ f d N
 td:σ dT=some (.dict D)
 t1:dT≠1
 ne:dT≠d
 ok:SOk N D
 only:Only σ0 σ [d,dT]
 n:N.length+c≤50000
 m:D.length+c≤50000
theorem Sn.less(S:Sn f d dT σ0 σ N D c)(h:c'≤c):Sn f d dT σ0 σ N D c':=⟨S.nm,S.td,S.t1,S.ne,S.ok,S.only,by have:=S.n;omega,by have:=S.m;omega⟩
theorem NmF.setd(F:NmF σ f d N):NmF (σ.set d (.dict N')) f d N':=by
 obtain⟨⟨o,c,co,cc,oc,code,pm,ct,doc,vs,t,e1,e2,e3,e4,e5,e6,e7,e8⟩,hd,d1⟩:=F
 have kp:∀{x:Addr} {tr:Trk},σ x=some tr→(∀l,tr≠.dict l)→(σ.set d (.dict N')) x=some tr:=λ{x tr} h1 h2=>by
  unfold St.set
  rw[ae]
  ·exact h1
  ·intro e;rw[e,hd] at h1;cases h1;exact h2 _ rfl
 exact⟨⟨o,c,co,cc,oc,code,pm,ct,doc,vs,t,kp e1 (λ_ q=>by cases q),e2,kp e3 (λ_ q=>by cases q),e4,e5,kp e6 (λ_ q=>by cases q),e7,e8⟩,by unfold St.set;rw[ah rfl],d1⟩
section
variable {X:Cx} {σ:St} {f d dT:Addr} (hX:Base7 X)
include hX
theorem yH(F:NmF σ f d N)(hN:N.length<60000)(h:∀σ',Only σ σ' [d]→NmF σ' f d (bO N x)→Q (.bytes (cb N x)) σ'):CallOk X 3 (.ref f) [.bytes x] σ Q:=
 yO hX.toBase4 F hN (h _ (λb hb=>by unfold St.set;rw[ae (by simpa using hb)]) F.setd) λhl=>h σ .refl (by
  have e:bO N x=N:=by
   unfold bO
   cases hh:N.lookup x with
   |none=>exact absurd hh hl
   |some _=>rfl
  rw[e];exact F)
theorem w4(F:NmF σ f d N)(hN:N.length<60000)(hl:N.lookup x=some b)(h:∀σ',Only σ σ' [d]→NmF σ' f d N→Q (.bytes b) σ'):CallOk X 3 (.ref f) [.bytes x] σ Q:=by
 have e:bO N x=N:=by unfold bO;rw[hl]
 have e2:cb N x=b:=by unfold cb;rw[e,hl];rfl
 refine yH hX F hN λσ' o g=>?_
 rw[e2];rw[e] at g
 exact h σ' o g
theorem BI(hA:Room A 3)(h1:m "text"=some (.bytes x))(h2:m "told"=some (.ref dT))(h3:m "name_of"=some (.ref f))(S:Sn f d dT σ0 σ N0 D0 (c+1))
  (hQ:∀σ' N' D' h,Sn f d dT σ0 σ' N' D' c→BD.Sub N0 N'→BD.Sub D0 D'→N'.lookup x=some h→D'.lookup h=some x→Q (.ret (.bytes h)) m σ')
  (s1:swapsWithSole [.Subscript (.Name "told" p2) (.Call (.Name "name_of" p3) [.Name "text" p4] [] p5) p6] (.Name "text" p1) p7.line env=pure false)(s2:swappedStores [.Subscript (.Name "told" p2) (.Call (.Name "name_of" p3) [.Name "text" p4] [] p5) p6] (.Name "text" p1) env=pure none)(s3:assignEach [.Subscript (.Name "told" p2) (.Call (.Name "name_of" p3) [.Name "text" p4] [] p5) p6] env=[(false,assign (.Subscript (.Name "told" p2) (.Call (.Name "name_of" p3) [.Name "text" p4] [] p5) p6) env)])
  (c1:∀p3 p4 p5,eval (.Call (.Name "name_of" p3) [.Name "text" p4] [] p5) env=(do callWith p5 (←eval (.Name "name_of" p3) env) [] (backTo p5 (starEach [.Name "text" p4] env)) (backToKw p5 (keywordEach [] env))))(c2:∀p4,starEach [.Name "text" p4] env=[(false,eval (.Name "text" p4) env)]):
  Exs X A ai P env m [.Assign [.Subscript (.Name "told" p2) (.Call (.Name "name_of" p3) [.Name "text" p4] [] p5) p6] (.Name "text" p1) p7,.Return (some (.Call (.Name "name_of" p8) [.Name "text" p9] [] p10)) p11] σ Q:=by
 have hn:=S.n
 have hm:=S.m
 obtain⟨w,sd⟩:=S.ok.save x (by omega)
 obtain⟨_,sn,g,l1,l2⟩:=S.ok.W.add x (by omega)
 have l3:=kq (x:=cb N0 x) (v:=x) D0
 refine ag<|aE (hs:=s1) (hw:=s2) (he:=s3)<|ap (V:=.bytes x) h1<|ko<|ap (V:=.ref dT) h2 ⟨rfl,au (ap (V:=.ref f) h3<|ad (ap (V:=.bytes x) h1<|ak ⟨S.nm.keep,aw (yH hX S.nm (by omega) λσ' o F'=>⟨rfl,D0,?_,by omega,?_⟩) hA⟩) (c2 _)) (c1 _ _ _) (by rw[c2];rfl)⟩
 ·rw[o dT (by simpa using S.ne)];exact S.td
 have F2:NmF (σ'.set dT (.dict (D0.put (cb N0 x) x))) f d (bO N0 x):=by
  have htd:σ' dT=some (.dict D0):=by rw[o dT (by simpa using S.ne)];exact S.td
  refine F'.upd htd (λb hb=>?_) ?_
  ·simp only[bv,fL,fU,not_or] at hb
   unfold St.set;rw[ae hb.2]
  ·unfold St.set;rw[ae λe=>S.ne e.symm];exact F'.dict
 refine ag<|aZ<|au (ap (V:=.ref f) h3<|ad (ap (V:=.bytes x) h1<|ak ⟨F2.keep,aw (w4 hX F2 (by omega) g λσ2 o2 F3=>?_) hA⟩) (c2 _)) (c1 _ _ _) (by rw[c2];rfl)
 refine hQ σ2 _ _ _ ⟨F3,?_,S.t1,S.ne,w,?_,by omega,by omega⟩ sn sd g yg
 ·rw[o2 dT (by simpa using S.ne)];unfold St.set;rw[ah rfl]
 ·intro b hb
  simp only[bv,fL,fU,not_or] at hb
  rw[o2 b (by simpa using hb.1)];unfold St.set;rw[ae hb.2,o b (by simpa using hb.1)]
  exact S.only b (by simp[hb.1,hb.2])
end
def bE(r:By×By):AV:=.tup [.lst (ay r.1),.bytes r.2]
def pu(code pm:Value)(L:Addr):Env:=callEnvC (cP (aD 52) "_law_node" code pm .none) L 433
structure Im(R:cY)(b0:By)(f dT:Addr)(j:Nat)(m:Mp):Prop where
 rows:m "rows"=some (.lst (R.map bE))
 first:m "first"=some (.lst (ay b0))
 far:m "far"=some (.int (j:Int))
 nmof:m "name_of"=some (.ref f)
 told:m "told"=some (.ref dT)
theorem Im.upd(I:Im R b0 f dT j m)(k:Nat):Im R b0 f dT k (m.upd "far" (.int (k:Int))):=
 ⟨I.rows,I.first,rfl,I.nmof,I.told⟩
theorem oA(h:j<b.length):(ay b)[j]?=some (.int ((b.getD j 0).toNat:Int)):=by
 unfold ay
 rw[eN,c8 h,fj,c8 h];rfl
def kY(b0:By)(j:Nat):AV→Bool
 |.tup (.lst l::_)=>match l[j]? with|some (.int i)=>i !=((b0.getD j 0).toNat:Int)|_=>false
 |_=>false
def zn:AV→AV
 |.tup (V::_)=>V
 |V=>V
theorem yC(h:j<r.1.length):kY b0 j (bE r)=(r.1.getD j 0 !=b0.getD j 0):=by
 unfold kY bE
 dsimp only
 rw[oA h]
 dsimp only
 rw[qk,jb,jb]
 constructor
 ·intro q e;exact q (by rw[e])
 ·intro q e;exact q (qm.mp (by exact_mod_cast e))
section
variable {X:Cx} {σ:St} {f dT:Addr} (hX:Base7 X)
include hX
set_option maxHeartbeats 1000000 in
theorem Cw{A:Around}{code pm:Value}{L:Addr}{R:cY}{b0:By}{n:Nat}{m:Mp}{pw:Pos}{test:Expr}{body:List Stmt}(hst:(cj (aD 52))[1]?=some (.While test body [] pw))(hA:Room A 4)(h64:n≤64)(hR:R.length≤64)(hb0:b0.length=n)(hlen:∀r∈R,r.1.length=n)(I:Im R b0 f dT 0 m):
  Ex X A ai (ax L (pu code pm L)) (pu code pm L) m (.While test body [] pw) σ λF m' σ'=>F=.next∧σ'=σ∧∃c,Im R b0 f dT c m'∧c≤n∧(∀r∈R,r.1.take c=b0.take c)∧(c=n∨∃r∈R,r.1.getD c 0≠b0.getD c 0):=by
 have hst:=Option.some.inj hst
 injection hst with e1 e2 e3 e4
 subst e1 e2 e4
 refine C1 (λk m' σ'=>σ'=σ∧∃j,k=n - j∧j≤n∧Im R b0 f dT j m'∧∀r∈R,r.1.take j=b0.take j) n ⟨rfl,0,by omega,by omega,I,λr _=>by simp⟩ λk m' σ' ⟨e,j,hk,hj,I',agree⟩=>?_
 have e:=e.symm;subst e
 have hl0:(ay b0).length=n:=by rw[fF,hb0]
 refine eY<|ar<|ap I'.far<|au<|eg hX.g_len<|ad<|ap I'.first<|ak ⟨trivial,hZ (by omega)<|uY ⟨_,rfl,?_⟩⟩
 rw[hl0]
 by_cases hjn:j<n
 case neg=>
  rw[ae (by simp;omega)]
  rw[ae aT]
  exact⟨rfl,rfl,j,I',hj,agree,.inl (by omega)⟩
 rw[ah (kc (by omega))]
 refine eY<|ar<|fM (k:=3) (λD env=>T1 D env _) (λC env=>J1 X A env _) (hA.mono (by decide)) (λC D it=>fc) (λD C hDC hD=>eJ hD) (by rfl) (by rfl) (by decide) (by decide)
  <|c7<|ap I'.rows<|fS λC=>dH (λm2=>m2 "far"=some (.int (j:Int))∧m2 "first"=some (.lst (ay b0))) (kY b0 j) zn trivial _ _ [] (λV hV m2 hm2=>?_) (by simp;omega) ⟨I'.far,I'.first⟩ λm2 _=>?_
 ·obtain⟨r,hr,rfl⟩:=aP.mp hV
  have hrl:=hlen r hr
  refine bV hA.handled (by rfl) (by rfl)<|aF<|aq<|aF<|aq<|bW ⟨rfl,?_⟩
  refine ar<|aC<|ab (.lst (ay r.1))<|ap (V:=.int (j:Int)) hm2.1<|dR (V:=.int ((r.1.getD j 0).toNat:Int)) (by rw[fF];omega) (oA (by omega))<|aC<|ap (V:=.lst (ay b0)) hm2.2<|ap (V:=.int (j:Int)) hm2.1<|dR (V:=.int ((b0.getD j 0).toNat:Int)) (by omega) (oA (by omega))<|qS ⟨_,rfl,rfl,?_,⟨hm2.1,hm2.2⟩,λ_=>ab (.lst (ay r.1)) ⟨rfl,rfl⟩⟩
  unfold kY bE
  dsimp only
  rw[oA (by omega)]
 ·rw[cH]
  refine fV<|ak ⟨by rw[bn];exact cU rfl,BG (by have:=hA.units;omega) ⟨_,rfl,?_⟩⟩
  by_cases hall:∀r∈R,r.1.getD j 0=b0.getD j 0
  ·have he:((R.map bE).filter (kY b0 j))=[]:=by
    rw[List.filter_eq_nil_iff]
    intro V hV
    obtain⟨r,hr,rfl⟩:=aP.mp hV
    rw[yC (by rw[hlen r hr];omega),hall r hr];simp
   rw[he,List.map_nil]
   refine uK ?_
   rw[ah rfl]
   refine ag<|EN I'.far (av<|AQ ?_) (λS F r k=>vx S F r (by rfl) (by rfl) (F.own "far" (L+3) (by rfl) (by decide) (by rfl)) (show(ax L (pu code pm L)).a (L+3) from⟨gt _ _,.inr ⟨"far",by rfl⟩⟩) k)
   refine aB ⟨n - (j+1),by omega,rfl,j+1,rfl,by omega,I'.upd (j+1),λr hr=>?_⟩
   rw[uj,uj,agree r hr]
   have h1:r.1[j]?=some (r.1.getD j 0):=by rw[fj,c8 (by rw[hlen r hr];omega)];rfl
   have h2:b0[j]?=some (b0.getD j 0):=by rw[fj,c8 (by omega)];rfl
   rw[h1,h2,hall r hr]
  ·have hx:∃r∈R,r.1.getD j 0≠b0.getD j 0:=tZ λhno=>hall λr hr=>tZ λq=>hno ⟨r,hr,q⟩
   obtain⟨r,hr,q⟩:=hx
   have hne:(((R.map bE).filter (kY b0 j)).map zn).isEmpty=false:=by
    rw[List.isEmpty_eq_false_iff]
    intro he
    rw[List.map_eq_nil_iff,List.filter_eq_nil_iff] at he
    refine he (bE r) (aP.mpr ⟨r,hr,rfl⟩) ?_
    rw[yC (by rw[hlen r hr];omega)];simpa using q
   rw[hne,ae aT]
   rw[ae aT]
   exact⟨rfl,rfl,j,I',hj,agree,.inr ⟨r,hr,q⟩⟩
end
def rX(c:Nat):AV→AV
 |.tup (.lst l::r)=>.tup (.lst (l.drop c)::r)
 |V=>V
def vQ(s:UInt8):AV→Bool
 |.tup (.lst (.int i::_)::_)=>i==(s.toNat:Int)
 |_=>false
theorem xY(c:Nat)(R:cY):(R.map bE).map (rX c)=(d8 c R).map bE:=by
 unfold d8
 rw[cC,cC]
 refine j6 λr _=>?_
 show AV.tup [.lst ((ay r.1).drop c),.bytes r.2]=AV.tup [.lst (ay (r.1.drop c)),.bytes r.2]
 unfold ay;rw[List.map_drop]
theorem rW{b:By}(h:0<b.length):b.take 1=[b.getD 0 0]:=by
 cases b with
 |nil=>simp at h
 |cons x p=>rfl
theorem Cj{s:UInt8}{r:By×By}(h:0<r.1.length):vQ s (bE r)=(r.1.take 1==[s]):=by
 rw[rW h]
 obtain⟨b,v⟩:=r
 cases b with
 |nil=>simp at h
 |cons x p=>
  show((x.toNat:Int)==(s.toNat:Int))=([x]==[s])
  by_cases e:x=s
  ·subst e;simp
  ·have h1:((x.toNat:Int)==(s.toNat:Int))=false:=by
    rw[ba];intro q;exact e (qm.mp (by exact_mod_cast q))
   rw[h1,ba.mpr]
   intro q;exact e (dF q).1
theorem BY(s:UInt8)(h:∀r∈R,0<r.1.length):((R.map bE).filter (vQ s)).map (rX 1)=(cp s R).map bE:=by
 unfold cp
 rw[←xY]
 congr 1
 rw[List.filter_map]
 congr 1
 refine List.filter_congr λr hr=>?_
 exact Cj (h r hr)
def zb(R:cY):AV→AV
 |.int s=>.lst ((cp s.toNat.toUInt8 R).map bE)
 |V=>V
def EB(X:Cx)(f d:Addr)(n:Nat):Prop:=∀{R:cY} {dT:Addr} {σ0 σ:St} {N D:BD} {c:Nat} {Q:AV→St→Prop},RowsOk n R→R.length≤64→Sn f d dT σ0 σ N D (c+R.length * (n+1))→
 (∀t h σ' N' D',Tr n R t→(n=0∨zk R→jq t=false)→Sn f d dT σ0 σ' N' D' c→BD.Sub N N'→BD.Sub D D'→(∃L,Full N' D' t h L)→Q (.bytes h) σ')→CallOk X (6+n) (.ref 433) [.lst (R.map bE),.ref f,.ref dT] σ Q
section
variable {X:Cx} {f d:Addr} (hX:Base7 X)
include hX
theorem qY:aV X σ (.ref 433):=by obtain⟨_,_,F'⟩:=hX.f_node;exact F'.keep
theorem Ch:aV X σ (.ref 428):=by obtain⟨_,_,F'⟩:=hX.f_path;exact F'.keep
set_option maxHeartbeats 2000000 in
theorem Dj(n:Nat):n≤64→EB X f d n:=by
 induction n using Nat.strongRecOn with
 |_ n ih=>
 intro h64 R dT σ0 σ N D c Q hR hRl S hQ
 have hR':=hR
 obtain⟨r0,R1,hRe⟩:∃r0 R1,R=r0::R1:=by
  cases hRR:R with
  |nil=>exact absurd hRR hR.ne
  |cons a b=>exact⟨a,b,rfl⟩
 have hr0:r0∈R:=by rw[hRe];exact bj
 have hl0:=hR.len r0 hr0
 have hm1:1≤R.length:=by rw[hRe];simp
 have hget0:(R.map bE)[0]?=some (bE r0):=by rw[hRe];rfl
 obtain⟨code,pm,F⟩:=hX.f_node
 refine CallOk.deep (k:=5+n+1) (bG (k:=5+n) F ["rows","name_of","told"] (bk ["rows","name_of","told"] λvs hv=>?_) (by rfl) λA L hA=>?_) (by omega)
 ·match vs,hv with|[v1,v2,v3],_=>rfl
 refine ag<|aE<|fB<|ad<|aC<|aC<|ab (.lst (R.map bE))<|av<|dR (i:=0) (V:=bE r0) (by rw[bB];omega) hget0<|av<|uJ (i:=0) (V:=.lst (ay r0.1)) (by simp) rfl<|ad<|av<|ak ⟨by rw[bn];exact cU rfl,?_⟩
 refine bV hA.handled (by rfl) (by rfl)<|aF<|fD (c:=L+2) (by rfl) (by decide) (by rfl) ⟨gt _ _,.inr ⟨"first",by rfl⟩⟩<|aF<|fD (c:=L+3) (by rfl) (by decide) (by rfl) ⟨gt _ _,.inr ⟨"far",by rfl⟩⟩<|bW ?_
 refine ag<|Ex.mono (Cw hX (n:=n) rfl hA.mo h64 hRl hl0 hR.len ⟨rfl,rfl,rfl,rfl,rfl⟩) ?_
 rintro F' m' σ' ⟨rfl,rfl,c0,I,hc0,agree,stop⟩
 have lenb:∀r∈R,(ay r.1).length=n:=λr hr=>by rw[fF,hR.len r hr]
 have tail:∀{x:By} {m:Mp} {σ1:St} {N1 D1:BD} {t:T},m "text"=some (.bytes x)→m "told"=some (.ref dT)→m "name_of"=some (.ref f)→Sn f d dT σ0 σ1 N1 D1 (c+1)→BD.Sub N N1→BD.Sub D D1→Tr n R t→(n=0∨zk R→jq t=false)→(∀N' D' h,BD.Sub N1 N'→BD.Sub D1 D'→N'.lookup x=some h→D'.lookup h=some x→∃L,Full N' D' t h L)→
   Exs X A ai (ax L (pu code pm L)) (pu code pm L) m ((cj (aD 52)).drop 3) σ1 (λFl _ σ'=>match Fl with|.ret V=>Q V σ'|.next=>Q .none σ'|_=>False):=λ{x m σ1 N1 D1 t} h1 h2 h3 S1 s1 s2 hT hk hF=>
  BI hX hA.mo h1 h2 h3 S1 (λσ' N' D' h S' u1 u2 e1 e2=>hQ t h σ' N' D' hT hk S' (s1.trans u1) (s2.trans u2) (hF N' D' h u1 u2 e1 e2)) (by rfl) (by rfl) (by rfl) (λ_ _ _=>rfl) (λ_=>rfl)
 by_cases hpos:0<c0
 ·
  obtain⟨n',hn'⟩:∃n',n=c0+n':=⟨n - c0,by omega⟩
  subst hn'
  have hbl:(r0.1.take c0).length=c0:=by rw[eq];omega
  have hRd:RowsOk n' (d8 c0 R):=hR.drop agree
  have hmul:R.length * (c0+n'+1)=R.length * (n'+1)+R.length * c0:=by rw[←Nat.mul_add];congr 1;omega
  have hmul1:1≤R.length * c0:=Nat.mul_pos hm1 hpos
  have hdl:(d8 c0 R).length=R.length:=by unfold d8;rw[bB]
  refine ag<|az<|ar<|ap I.far<|av<|xT ⟨_,rfl,?_⟩
  rw[kc (by omega),ah rfl]
  refine ag<|ux (k:=3) (λD env=>T1 D env _) (λC env=>J1 X A env _) hA.mo (λC D it=>fc) (λD C hDC hD=>eJ hD) (by rfl) (by rfl) (by decide) (by decide)
   <|c7<|ap I.rows<|fS λC=>dH (λm2=>m2 "far"=some (.int (c0:Int))) (λ_=>true) (rX c0) trivial _ _ [] (λV hV m2 hm2=>?_) (by simp;omega) I.far λm2 _=>?_
  ·obtain⟨r,hr,rfl⟩:=aP.mp hV
   have hlr:=lenb r hr
   refine bV hA.handled (by rfl) (by rfl)<|aF<|aq<|aF<|aq<|bW ⟨rfl,rfl,rfl,hm2,λ_=>?_⟩
   refine fB<|ad<|aC<|ab (.lst (ay r.1))<|bP (lower:=some _) (upper:=none)<|ap (V:=.int (c0:Int)) hm2 ⟨_,rfl,ib (by omega) ?_⟩
   rw[dp]
   exact ad<|ab (.bytes r.2)<|ak ⟨by rw[bn];exact cU rfl,rfl,rfl⟩
  rw[cH,show((R.map bE).filter λ_=>true)=R.map bE from by simp,xY]
  refine aq ?_
  refine ag<|aE<|aK<|aK<|da<|au<|eg hX.g_path<|ad<|aC<|ap I.first<|bP (lower:=none) (upper:=some _)<|ap I.far ⟨_,rfl,ib (by rw[fF];omega) ?_⟩
  rw[gA,show(ay r0.1).take c0=ay (r0.1.take c0) from by unfold ay;rw[List.map_take]]
  have hbb:aQ (r0.1.take c0):=qR (hR.bits r0 hr0) c0
  have hek:=rC (r0.1.take c0)
  refine ak ⟨Ch hX,aw (Dl hX hbb (by omega)<|cB (by simp;omega)<|au<|eg hX.g_node<|ad<|ap (V:=.lst ((d8 c0 R).map bE)) (by rfl)<|ad<|ap (V:=.ref f) I.nmof<|ad<|ap (V:=.ref dT) I.told<|ak ⟨qY hX,aw (ih n' (by omega) (by omega) (c:=c+1) hRd (by omega) (S.less (by rw[hdl];omega)) λt h1 σ1 N1 D1 hT hk S1 s1 s2 hF=>?_) hA.mo⟩) hA.mo⟩
  obtain⟨Lf,hF⟩:=hF
  have hkv:jq t=false:=hk (by
   rcases stop with e|⟨r,hr,e⟩
   ·left;omega
   ·by_cases hz:n'=0
    ·exact .inl hz
    ·right
     refine⟨(r.1.drop c0,r.2),aP.mpr ⟨r,hr,rfl⟩,(r0.1.drop c0,r0.2),aP.mpr ⟨r0,hr0,rfl⟩,λq=>e ?_⟩
     have g1:∀b:By,c0<b.length→(b.drop c0).take 1=[b.getD c0 0]:=λb hb=>by
      rw[rW (by rw[bA];omega),fj,List.getElem?_drop,Nat.add_zero,fj]
     have:=hR.len r hr
     rw[show((r.1.drop c0,r.2):By×By).1=r.1.drop c0 from rfl,show((r0.1.drop c0,r0.2):By×By).1=r0.1.drop c0 from rfl,g1 _ (by omega),g1 _ (by omega)] at q
     exact(dF q).1)
  have h32:=S1.ok.W.ok.len _ _ hF.named.ltx
  refine cB (by simp;omega)<|aq<|aB<|tail (x:=aM (r0.1.take c0) h1) (t:=.kv (r0.1.take c0) t) (by rfl) I.told I.nmof S1 s1 s2 (hT.kv hR agree hbl hpos hkv) (λq=>?_) λN' D' h u1 u2 e1 e2=>⟨_,h1,Lf,hF.mono u1 u2,e1,e2,rfl⟩
  exfalso
  rcases q with q|⟨ra,ha,rb,hb,q⟩
  ·omega
  ·refine q ?_
   have t1:∀r∈R,r.1.take 1=r0.1.take 1:=λr hr=>by
    have:=dl (List.take 1) (agree r hr)
    rwa [hU,hU,eu (by omega)] at this
   rw[t1 ra ha,t1 rb hb]
 ·have hc00:c0=0:=by omega
  subst hc00
  refine ag<|az<|ar<|ap I.far<|av<|xT ⟨_,rfl,?_⟩
  rw[iW (by omega),ae aT]
  refine ag<|az<|ar<|au<|eg hX.g_len<|ad<|ap I.first<|ak ⟨trivial,hZ (by rw[fF];omega)<|av<|aU ⟨_,rfl,?_⟩⟩
  rw[fF,hl0]
  by_cases hn0:n=0
  ·subst hn0
   rw[show(((0:Nat):Int)==0)=true from rfl,ah rfl]
   obtain⟨v,hRv,hv,hvl,hT⟩:=Tr.leaf hR
   have hr0v:r0=([],v):=by rw[hRv] at hRe;cases hRe;rfl
   refine ag<|aE<|aK<|da<|aC<|aC<|ap I.rows<|av<|dR (i:=0) (V:=bE r0) (by rw[bB];omega) hget0<|av<|uJ (i:=1) (V:=.bytes r0.2) (by simp) rfl ?_
   rw[hr0v]
   refine cB (by simp;omega)<|aq<|aB<|aB<|tail (x:=bZ v) (t:=.leaf v) (by rfl) I.told I.nmof (S.less (by omega)) (.refl _) (.refl _) hT (λ_=>rfl) λN' D' h u1 u2 e1 e2=>⟨_,e1,e2,rfl⟩
  ·rw[show(((n:Nat):Int)==0)=false from by rw[ba];omega,ae aT]
   obtain⟨n',hn'⟩:∃n',n=1+n':=⟨n - 1,by omega⟩
   subst hn'
   have hpart:∃r∈R,r.1.getD 0 0≠r0.1.getD 0 0:=by
    rcases stop with e|h
    ·omega
    ·exact h
   obtain⟨rd,hrd,hdif⟩:=hpart
   have hposl:∀r∈R,0<r.1.length:=λr hr=>by rw[hR.len r hr];omega
   have hbit:∀r∈R,r.1.getD 0 0=0∨r.1.getD 0 0=1:=λr hr=>by
    have:=hposl r hr
    refine hR.bits r hr _ (wP (i:=0) ?_)
    rw[fj,c8 this];rfl
   have both:∀s:UInt8,s=0∨s=1→∃r∈R,r.1.take 1=[s]:=λs hs=>by
    have h1:=hbit rd hrd
    have h2:=hbit r0 hr0
    by_cases e:rd.1.getD 0 0=s
    ·exact⟨rd,hrd,by rw[rW (hposl rd hrd),e]⟩
    ·refine⟨r0,hr0,?_⟩
     rw[rW (hposl r0 hr0)]
     have:r0.1.getD 0 0=s:=by
      rcases hs with rfl|rfl
      ·rcases h1 with h1|h1
       ·exact absurd h1 e
       ·rcases h2 with h2|h2
        ·exact h2
        ·exact absurd (h1.trans h2.symm) hdif
      ·rcases h1 with h1|h1
       ·rcases h2 with h2|h2
        ·exact absurd (h1.trans h2.symm) hdif
        ·exact h2
       ·exact absurd h1 e
     rw[this]
   have R0:=hR.side (both 0 (.inl rfl))
   have R1':=hR.side (both 1 (.inr rfl))
   have hsum:=CC hR
   have hmul:R.length * (1+n'+1)=(cp 0 R).length * (n'+1)+(cp 1 R).length * (n'+1)+R.length:=by
    have h1:∀a:Nat,a * (1+n'+1)=a * (n'+1)+a:=λa=>by rw[show 1+n'+1=(n'+1)+1 from by omega,Nat.mul_succ]
    rw[←hsum,Nat.add_mul,h1,h1];omega
   refine ag<|ux (k:=3) (λD env=>T1 D env _) (λC env=>J1 X A env _) hA.mo (λC D it=>fc) (λD C hDC hD=>eJ hD) (by rfl) (by rfl) (by decide) (by decide)
    <|c7<|fB<|ad<|av<|ad<|av<|ak ⟨by rw[bn];exact cU rfl,vq λC=>dH (λm2=>m2 "rows"=some (.lst (R.map bE))) (λ_=>true) (zb R) trivial _ _ [] (λV hV m2 hm2=>?_) (by simp) I.rows λm2 _=>?_⟩
   ·obtain⟨s,hs,rfl⟩:∃s:UInt8,(s=0∨s=1)∧V=.int (s.toNat:Int):=by
     simp only[bv,fL,fU] at hV
     rcases hV with rfl|rfl
     ·exact⟨0,.inl rfl,rfl⟩
     ·exact⟨1,.inr rfl,rfl⟩
    refine fD (c:=C+1) (by rfl) (by decide) (by rfl) ⟨eS _,.inr ⟨"side",by rfl⟩⟩ ⟨rfl,rfl,rfl,hm2,λ_=>?_⟩
    refine fM (k:=3) (λD env=>T1 D env _) (λC env=>J1 X A env _) hA.mo (λC D it=>fc) (λD C hDC hD=>eJ hD) (by rfl) (by rfl) (by decide) (by decide)
     <|c7<|ap (V:=.lst (R.map bE)) hm2<|fS λC'=>dH (λm3=>m3 "side"=some (.int (s.toNat:Int))) (vQ s) (rX 1) trivial _ _ [] (λV hV m3 hm3=>?_) (by simp;omega) (by rfl) λm3 _=>?_
    ·obtain⟨r,hr,rfl⟩:=aP.mp hV
     have hlr:=lenb r hr
     refine bV hA.handled (by rfl) (by rfl)<|aF<|aq<|aF<|aq<|bW ⟨rfl,?_⟩
     refine ar<|aC<|ab (.lst (ay r.1))<|av<|dR (i:=0) (V:=.int ((r.1.getD 0 0).toNat:Int)) (by omega) (oA (hposl r hr))<|ap (V:=.int (s.toNat:Int)) hm3<|aU ⟨_,rfl,rfl,?_,hm3,λ_=>?_⟩
     ·obtain⟨b,v⟩:=r
      cases b with
      |nil=>exact absurd (hposl _ hr) (by simp)
      |cons x p=>rfl
     ·refine fB<|ad<|aC<|ab (.lst (ay r.1))<|bP (lower:=some _) (upper:=none)<|av ⟨_,rfl,ib (by omega) ?_⟩
      have hc1:=dp (l:=ay r.1) 1
      rw[show((1:Nat):Int)=1 from rfl] at hc1
      rw[hc1]
      exact ad<|ab (.bytes r.2)<|ak ⟨by rw[bn];exact cU rfl,rfl,rfl⟩
    ·rw[cH,BY s hposl]
     refine⟨rfl,?_⟩
     show AV.lst _=AV.lst ((cp ((s.toNat:Int).toNat.toUInt8) R).map bE)
     rw[eO,show s.toNat.toUInt8=s from qi]
   rw[cH]
   rw[show(([AV.int 0,AV.int 1].filter λ_=>true).map (zb R))=[.lst ((cp 0 R).map bE),.lst ((cp 1 R).map bE)] from rfl]
   refine aq ?_
   refine ag<|aE<|aK<|aK<|da<|au<|eg hX.g_node<|ad<|aC<|ap (V:=.lst [.lst ((cp 0 R).map bE),.lst ((cp 1 R).map bE)]) (by rfl)<|av<|dR (i:=0) (V:=.lst ((cp 0 R).map bE)) (by simp) rfl<|ad<|ap (V:=.ref f) I.nmof<|ad<|ap (V:=.ref dT) I.told<|ak ⟨qY hX,aw (ih n' (by omega) (by omega) (c:=c+1+(cp 1 R).length * (n'+1)) R0 (by omega) (S.less (by omega)) λt h1 σ1 N1 D1 hT hk S1 s1 s2 hF=>?_) hA.mo⟩
   obtain⟨Lf,hF⟩:=hF
   have h32:=S1.ok.W.ok.len _ _ hF.named.ltx
   refine cB (by simp;omega)<|au<|eg hX.g_node<|ad<|aC<|ap (V:=.lst [.lst ((cp 0 R).map bE),.lst ((cp 1 R).map bE)]) (by rfl)<|av<|dR (i:=1) (V:=.lst ((cp 1 R).map bE)) (by simp) rfl<|ad<|ap (V:=.ref f) I.nmof<|ad<|ap (V:=.ref dT) I.told<|ak ⟨qY hX,aw (ih n' (by omega) (by omega) (c:=c+1) R1' (by omega) S1 λt' h1' σ2 N2 D2 hT' hk' S2 u1 u2 hF'=>?_) hA.mo⟩
   obtain⟨Lf',hF'⟩:=hF'
   have h32':=S2.ok.W.ok.len _ _ hF'.named.ltx
   refine cB (by simp;omega)<|aq<|aB<|aB<|tail (x:=aO h1 h1') (t:=.br t t') (by rfl) I.told I.nmof S2 (s1.trans u1) (s2.trans u2) (Tr.br hR hT hT') (λ_=>rfl) λN' D' h w1 w2 e1 e2=>⟨_,h1,h1',Lf,Lf',(hF.mono u1 u2).mono w1 w2,hF'.mono w1 w2,e1,e2,rfl⟩
end
def e8(c:UInt8):By:=(nY c).map fh
theorem nO(c:UInt8)(k:By):aA (c::k)=e8 c++aA k:=by unfold aA bits e8;rw[gp,iV]
theorem vj(a b:UInt8):aA [a,b]=e8 a++e8 b:=by rw[nO,nO];simp[aA,bits]
theorem DV(c:UInt8):(e8 c).length=8:=rfl
theorem y7:∀n<256,cQ (e8 (UInt8.ofNat n))=(n:Int):=by decide+kernel
theorem yY(h:e8 a=e8 b):a=b:=by
 have h1:=y7 a.toNat (UInt8.toNat_lt a)
 have h2:=y7 b.toNat (UInt8.toNat_lt b)
 rw[qi] at h1 h2
 rw[h,h2] at h1
 exact qm.mp (by exact_mod_cast h1.symm)
def nZ:Nat→List By
 |0=>[[]]
 |n+1=>(nZ n).map (0::·)++(nZ n).map (1::·)
theorem uF:∀{n:Nat} {c:By},c.length=n→aQ c→c∈nZ n
 |0,c,h,_=>by rw[gW.mp h];exact bj
 |n+1,[],h,_=>by simp at h
 |n+1,x::c,h,hb=>by
  have ih:=uF (n:=n) (c:=c) (by simpa using h) λy hy=>hb y (aR _ hy)
  unfold nZ
  rcases hb x bj with rfl|rfl
  ·exact j0 _ (aP.mpr ⟨c,ih,rfl⟩)
  ·exact gX _ (aP.mpr ⟨c,ih,rfl⟩)
theorem yV:∀c∈nZ 8,e8 (cQ c).toNat.toUInt8=c:=by decide+kernel
theorem nW(h:k.length=2)(h':k'.length=2)(e:aA k=aA k'):k=k':=by
 match k,k',h,h' with
 |[a,b],[c,d],_,_=>
  rw[vj,vj] at e
  have:=List.append_inj e rfl
  rw[yY this.1,yY this.2]
theorem yB(h:p.length=16)(hb:aQ p):∃k:By,k.length=2∧aA k=p:=by
 refine⟨[(cQ (p.take 8)).toNat.toUInt8,(cQ (p.drop 8)).toNat.toUInt8],rfl,?_⟩
 rw[vj,yV _ (uF (by rw[eq];omega) (qR hb 8)),yV _ (uF (by rw[bA];omega) (eU hb 8)),dC]
structure HOk(H:BD):Prop where
 nd:(H.map (·.1)).Nodup
 k2:∀p∈H,p.1.length=2
 val:∀p∈H,p.2≠[]∧p.2.length≤16
structure HT(H:BD)(t:T):Prop where
 wf:WF 16 t
 short:ck t
 look:∀k:By,k.length=2→look t (aA k)=H.lookup k
theorem HT.unique(x:HT H t)(y:HT H t'):t=t':=Tw.vN x.wf y.wf λp hp hb=>by
 obtain⟨k,hk,rfl⟩:=yB hp hb
 rw[x.look k hk,y.look k hk]
def eF(H:BD)(L:List By):cY:=L.map λk=>(aA k,(H.lookup k).getD [])
theorem Gh{H:BD}(hn:(H.map (·.1)).Nodup){k v:By}(h:(k,v)∈H):H.lookup k=some v:=by
 induction H with
 |nil=>cases h
 |cons p H ih=>
  obtain⟨a,b⟩:=p
  rw[bQ,iT] at hn
  rw[a8]
  rcases bv.mp h with e|h'
  ·cases e;simp
  ·have:k≠a:=λe=>hn.1 (e▸aP.mpr ⟨_,h',rfl⟩)
   rw[show(k==a)=false from ba.mpr this]
   exact ih hn.2 h'
theorem g8{H:BD}{k:By}(h:k∈H.map (·.1)):∃v,H.lookup k=some v:=by
 cases e:H.lookup k with
 |none=>exact absurd h (mR e)
 |some v=>exact⟨v,rfl⟩
theorem Dz{H:BD}{L:List By}(hH:HOk H)(hp:L.Perm (H.map (·.1)))(hne:H≠[]):RowsOk 16 (eF H L):=by
 have hk:∀k∈L,k.length=2∧∃v,H.lookup k=some v∧(k,v)∈H:=λk hk=>by
  have hm:=hp.mem_iff.mp hk
  obtain⟨v,hv⟩:=g8 hm
  exact⟨hH.k2 _ (dY hv),v,hv,dY hv⟩
 refine⟨λe=>?_,λr hr=>?_,λr hr=>?_,?_,λr hr=>?_⟩
 ·unfold eF at e
  rw[List.map_eq_nil_iff] at e
  rw[e] at hp
  have:=hp.length_eq
  simp at this
  exact hne (gW.mp this.symm)
 ·obtain⟨k,hkm,rfl⟩:=aP.mp hr
  show(aA k).length=16
  rw[eW,(hk k hkm).1]
 ·obtain⟨k,hkm,rfl⟩:=aP.mp hr
  exact eT k
 ·unfold eF
  rw[cC]
  have hL:L.Nodup:=hp.nodup_iff.mpr hH.nd
  unfold List.Nodup at hL ⊢
  rw[List.pairwise_map]
  exact hL.imp_of_mem λ{x y} hx hy hn e=>hn (nW (hk x hx).1 (hk y hy).1 e)
 ·obtain⟨k,hkm,rfl⟩:=aP.mp hr
  obtain⟨_,v,hv,hm⟩:=hk k hkm
  show(H.lookup k).getD []≠[]∧((H.lookup k).getD []).length≤16
  rw[hv]
  exact hH.val _ hm
theorem EZ{H:BD}{L:List By}{t:T}(hH:HOk H)(hp:L.Perm (H.map (·.1)))(T:Tr 16 (eF H L) t):HT H t:=by
 refine⟨T.wf,T.short,λk hk=>?_⟩
 rw[T.look _ (by rw[eW,hk]) (eT k)]
 have gen:∀M:List By,(∀x∈M,x.length=2∧x∈H.map (·.1))→(eF H M).lookup (aA k)=if k∈M then H.lookup k else none:=λM=>by
  induction M with
  |nil=>intro _;rfl
  |cons x M ih=>
   intro h
   have ih:=ih λy hy=>h y (aR _ hy)
   obtain⟨hx2,hxm⟩:=h x bj
   show List.lookup (aA k) ((aA x,(H.lookup x).getD [])::eF H M)=_
   rw[a8]
   by_cases e:k=x
   ·subst e
    obtain⟨v,hv⟩:=g8 hxm
    simp[hv]
   ·rw[show(aA k==aA x)=false from ba.mpr λq=>e (nW hk hx2 q),ih]
    simp[e]
 rw[gen L λx hx=>⟨by obtain⟨v,hv⟩:=g8 (hp.mem_iff.mp hx);exact hH.k2 _ (dY hv),hp.mem_iff.mp hx⟩]
 split
 ·rfl
 ·rename_i q
  cases e:H.lookup k with
  |none=>rfl
  |some v=>exact absurd (hp.mem_iff.mpr (aP.mpr ⟨_,dY e,rfl⟩)) q
theorem xD{H:BD}{k x:By}:(H.del k).lookup x=if x=k then none else H.lookup x:=by
 induction H with
 |nil=>simp[BD.del]
 |cons p H ih=>
  obtain⟨a,b⟩:=p
  unfold BD.del at ih ⊢
  by_cases e:a=k
  ·rw[mK (by simpa using e),ih,a8]
   by_cases q:x=k
   ·simp[q]
   ·rw[ae q,ae q,show(x==a)=false from ba.mpr λw=>q (w.trans e)]
  ·rw[jZ (by simpa using e),a8,a8,ih]
   by_cases q:x=a
   ·subst q;rw[ae e];simp[e]
   ·rw[show(x==a)=false from ba.mpr q]
theorem HOk.nil:HOk []:=⟨by simp,by simp,by simp⟩
theorem vi:∀{H:BD},(H.put k v).map (·.1)=if k∈H.map (·.1) then H.map (·.1) else H.map (·.1)++[k]
 |[]=>rfl
 |(a,b)::H=>by
  have ih:=vi (k:=k) (v:=v) (H:=H)
  unfold BD.put
  by_cases e:a=k
  ·rw[ah e,ah (by rw[bQ,e];exact bj)];rfl
  ·rw[ae e,bQ,ih]
   by_cases q:k∈H.map (·.1)
   ·rw[ah q,ah (show k∈List.map (λx=>x.1) ((a,b)::H) from aR _ q)];rfl
   ·rw[ae q,ae]
    ·rfl
    ·show ¬k∈List.map (λx=>x.1) ((a,b)::H)
     rw[bQ,bv];rintro(w|w)
     ·exact e w.symm
     ·exact q w
theorem yR{H:BD}{k v:By}{p:By×By}(h:p∈H.put k v):p=(k,v)∨p∈H:=by
 induction H with
 |nil=>simpa [BD.put] using h
 |cons x H ih=>
  obtain⟨a,b⟩:=x
  unfold BD.put at h
  split at h
  ·rename_i e;subst e
   rcases bv.mp h with q|q
   ·exact .inl q
   ·exact .inr (aR _ q)
  ·rcases bv.mp h with q|q
   ·exact .inr (q▸bj)
   ·exact(ih q).imp id (aR _)
theorem HOk.put{H:BD}{k v:By}(h:HOk H)(hk:k.length=2)(hv:v≠[]∧v.length≤16):HOk (H.put k v):=by
 refine⟨?_,λp hp=>?_,λp hp=>?_⟩
 ·rw[vi]
  split
  ·exact h.nd
  ·rename_i q
   rw[ui]
   exact⟨h.nd,by simp,λa ha b hb e=>q (by simp at hb;rw[←hb,←e];exact ha)⟩
 ·rcases yR hp with rfl|q
  ·exact hk
  ·exact h.k2 p q
 ·rcases yR hp with rfl|q
  ·exact hv
  ·exact h.val p q
theorem HOk.del(h:HOk H):HOk (H.del k):=by
 have hs:∀p∈H.del k,p∈H:=λp hp=>(qp.mp hp).1
 exact⟨(List.filter_sublist.map _).nodup h.nd,λp hp=>h.k2 p (hs p hp),λp hp=>h.val p (hs p hp)⟩
theorem HT.put(h:HT H t)(hk:k.length=2)(hv:v≠[])(hl:v.length≤16):∃t',upd t (aA k) v=some t'∧HT (H.put k v) t':=by
 have law:=fC h.wf (p:=aA k) (by rw[eW,hk]) (eT k) (v:=v)
 cases hu:upd t (aA k) v with
 |none=>rw[hu] at law;exact absurd law.1 hv
 |some t'=>
  rw[hu] at law
  refine⟨t',rfl,law.1,kB h.short hl hu,λx hx=>?_⟩
  rw[law.2 _ (by rw[eW,hx]) (eT x)]
  by_cases e:x=k
  ·subst e;rw[ah rfl,ae hv,BD.put_get]
  ·rw[ae λq=>e (nW hx hk q),BD.put_other e];exact h.look x hx
theorem HT.del{H:BD}{t t':T}{k:By}(h:HT H t)(hk:k.length=2)(hu:upd t (aA k) []=some t'):HT (H.del k) t':=by
 have law:=fC h.wf (p:=aA k) (by rw[eW,hk]) (eT k) (v:=[])
 rw[hu] at law
 refine⟨law.1,kB h.short (by simp) hu,λx hx=>?_⟩
 rw[law.2 _ (by rw[eW,hx]) (eT x),xD]
 by_cases e:x=k
 ·subst e;rw[ah rfl,ah rfl,ah rfl]
 ·rw[ae λq=>e (nW hx hk q),ae e];exact h.look x hx
theorem E6:∀n:Nat,n<256→∀q:Nat,q<8→((n:Int).fdiv (2 ^ (7 - q))).fmod 2=(((e8 (UInt8.ofNat n)).getD q 0).toNat:Int):=by decide+kernel
theorem xK{X:Cx}{A:Around}{σ:St}{P:Pv}{env:Env}{Dep:St→St→Prop}{K:Mp→St→List AV→Prop}{J:gK}{target:Expr}(I:Mp→Prop)(f:AV→List AV)(hD:Dep σ σ):∀(L:List AV) (m:Mp) (out:List AV),
  (∀V∈L,∀m out (K':Mp→St→List AV→Prop),I m→(∀m',I m'→K' m' σ (out++f V))→out.length≤4096→As X A ai P env m target V σ λm₁ σ₁=>σ₁=σ∧J m₁ σ out K')→(∀V∈L,(f V).length≤8)→out.length+8 * L.length≤4096→
  I m→(∀m',I m'→K m' σ (out++L.flatMap f))→fg X A Dep P env target [] J K L m σ out
 |[],m,out,_,_,_,hI,hK=>by show K m σ out;have:=hK m hI;simpa using this
 |V::L,m,out,h,hf,hz,hI,hK=>by
  rw[bc] at hz
  have hfv:=hf V bj
  refine As.mono (h V bj m out (λm₂ σ₃ out₃=>Dep σ σ₃∧fg X A Dep P env target [] J K L m₂ σ₃ out₃) hI (λm' hI'=>⟨hD,?_⟩) (by omega)) λm₁ σ₁ ⟨e,hj⟩=>?_
  ·refine xK I f hD L m' _ (λV hV=>h V (aR _ hV)) (λV hV=>hf V (aR _ hV)) (by rw[bg];omega) hI' λm2 hI2=>?_
   have:=hK m2 hI2
   rw[gp,←gZ] at this
   exact this
  ·have e:=e.symm;subst e;exact hj
theorem Fc:
  compTurn (.ListComp elt [⟨target,iter,[],0⟩,⟨target₂,iter₂,[],0⟩] scope pos) 0 it (.ref D) env=gE (.ListComp elt [⟨target,iter,[],0⟩,⟨target₂,iter₂,[],0⟩] scope pos) 0 target iter [] it (.ref D) env (T2 (.ListComp elt [⟨target,iter,[],0⟩,⟨target₂,iter₂,[],0⟩] scope pos) D env iter₂):=by
 have e:compTurn (.ListComp elt [⟨target,iter,[],0⟩,⟨target₂,iter₂,[],0⟩] scope pos) 0 it (.ref D) env=(do
  standAt iter.pos
  match ←pyNext it with
  |none=>pure (.done .next)
  |some v=>
   letOwnedTupleGo target it v
   assign target env v
   let x ←eval iter₂ env
   standAt iter₂.pos
   let x ←foldedSetIterable iter₂ env x
   let a ←holding [x] (pyIter x)
   let _ ←runOwn (.compStart (.ListComp elt [⟨target,iter,[],0⟩,⟨target₂,iter₂,[],0⟩] scope pos) 1 a (.ref D) env) env
   again (.compLoop (.ListComp elt [⟨target,iter,[],0⟩,⟨target₂,iter₂,[],0⟩] scope pos) 0 it (.ref D) env)):=by rfl
 rw[e]
 unfold gE T2
 simp only[List.forIn_nil,pure_bind,bind_assoc,if_true]
 try rfl
theorem AE(hA:Room A k)
  (hk:scope.kind=.function)(hf:fa env scope.names=true)(hn:(scope.names.map (·.1)).Nodup)(hnames:∀x∈scope.names,x.2=.local→scope.names.lookup x.1=some .local)(hs₂:∀env x,foldedSetIterable iter₂ env x=pure x)(hs:∀x,foldedSetIterable iter env x=pure x)
  (h:fi X A ai k env m (some target) iter σ λDep l σ₂=>∀C,fg X A Dep (ax C (aS scope C env)) (aS scope C env) target [] (J2 X A k C (aS scope C env) elt target₂ iter₂ []) (λ_ σ' out=>Q (.lst out) σ') l (gR scope m) σ₂ []):
  Ev X A ai env m (.ListComp elt [⟨target,iter,[],0⟩,⟨target₂,iter₂,[],0⟩] scope pos) σ Q:=
 fM (λD env=>T2 (.ListComp elt [⟨target,iter,[],0⟩,⟨target₂,iter₂,[],0⟩] scope pos) D env iter₂) (λC env=>J2 X A k C env elt target₂ iter₂ []) hA (λC D it=>Fc) (λD C hDC hD=>E9 hA hD hDC (λit=>rfl) (λ_=>rfl) (λ_=>rfl) (λ_=>rfl) (λ_=>rfl) (λ_=>rfl) rfl (hs₂ _)) hk hf hn hnames h hs
def rS:AV→List AV
 |.int c=>ay (e8 c.toNat.toUInt8)
 |_=>[]
theorem BU(k:By):(ay k).flatMap rS=ay (aA k):=by
 induction k with
 |nil=>rfl
 |cons c k ih=>
  rw[nO,kK,←ih]
  show rS (.int (c.toNat:Int))++_=_
  congr 1
  show ay (e8 ((c.toNat:Int).toNat.toUInt8))=_
  rw[eO,show c.toNat.toUInt8=c from qi]
def y6(H:BD):AV→AV
 |.bytes k=>bE (aA k,(H.lookup k).getD [])
 |V=>V
theorem CW(H:BD)(L:List By):(L.map AV.bytes).map (y6 H)=(eF H L).map bE:=by
 unfold eF;rw[cC,cC];rfl
section
variable {X:Cx} {f d:Addr} (hX:Base7 X)
include hX
theorem xZ:aV X σ (.ref 438):=by obtain⟨_,_,F'⟩:=hX.f_tree;exact F'.keep
set_option maxHeartbeats 1000000 in
theorem yK(nmf:NmF σ f d N)(hW:NmW N)(hσ:σ aH=some (.dict H))(ha:aH≠1)(hH:HOk H)(hne:H≠[])(hz:H.length≤8)(hn:N.length+(c+200)≤50000)(hd:aH≠d)
  (hQ:∀t h dT σ' N' D',σ dT=none→dT≠1→HT H t→(∀b,σ b≠none→b≠d→σ' b=σ b)→NmF σ' f d N'→σ' dT=some (.dict D')→SOk N' D'→BD.Sub N N'→N'.length+c≤50000→D'.length≤50000→(∃L,Full N' D' t h L)→Q (.tup [.bytes h,.ref dT]) σ'):CallOk X 24 (.ref 438) [.ref aH,.ref f] σ Q:=by
 obtain⟨code,pm,F⟩:=hX.f_tree
 refine bG (k:=23) F ["held","name_of"] (bk ["held","name_of"] λvs hv=>?_) (by rfl) λA L hA=>?_
 ·match vs,hv with|[v1,v2],_=>rfl
 refine ag<|aE<|nR hX.toBase λdT hdT hd1=>aq ?_
 have neH:∀{b:Addr},σ b≠none→b≠dT:=λhb e=>hb (by rw[e];exact hdT)
 have s1:∀{b:Addr},σ b≠none→(σ.set dT (.dict [])) b=σ b:=λhb=>by unfold St.set;rw[ae (neH hb)]
 refine ag<|az<|ar<|ab (.ref aH)<|nR hX.toBase λb hb hb1=>A8 (l:=H) (l':=[]) ?_ (by unfold St.set;rw[ah rfl]) ha hb1 (by have:=hA.units;omega) ?_ ⟨_,rfl,?_⟩
 ·have hab:aH≠b:=λe=>by
   rw[←e,s1 (by rw[hσ];simp),hσ] at hb;cases hb
  have:((σ.set dT (.dict [])).set b (.dict [])) aH=(σ.set dT (.dict [])) aH:=by unfold St.set;rw[ae hab]
  rw[this,s1 (by rw[hσ];simp),hσ]
 ·intro e;exact hne (gW.mp e)
 rw[ae aT]
 have hbT:b≠dT:=λe=>by rw[e] at hb;unfold St.set at hb;rw[ah rfl] at hb;cases hb
 have hbσ:σ b=none:=by
  have:(σ.set dT (.dict [])) b=σ b:=by unfold St.set;rw[ae hbT]
  rw[←this];exact hb
 generalize hσ2:(σ.set dT (.dict [])).set b (.dict [])=σ2
 have old:∀x,σ x≠none→σ2 x=σ x:=λx hx=>by
  have:x≠b:=λe=>hx (by rw[e];exact hbσ)
  rw[←hσ2]
  show(if x=b then _ else (σ.set dT (.dict [])) x)=_
  rw[ae this,s1 hx]
 have hT2:σ2 dT=some (.dict []):=by
  rw[←hσ2]
  show(if dT=b then _ else (σ.set dT (.dict [])) dT)=_
  rw[ae hbT.symm];unfold St.set;rw[ah rfl]
 have hH2:σ2 aH=some (.dict H):=by rw[old aH (by rw[hσ];simp),hσ]
 have nm2:NmF σ2 f d N:=by
  obtain⟨⟨o,c,co,cc,oc,code,pm,ct,doc,vs,t,e1,e2,e3,e4,e5,e6,e7,e8⟩,hd,d1⟩:=nmf
  have kp:∀{x:Addr} {tr:Trk},σ x=some tr→σ2 x=some tr:=λ{x tr} h=>by rw[old x (by rw[h];simp),h]
  exact⟨⟨o,c,co,cc,oc,code,pm,ct,doc,vs,t,kp e1,e2,kp e3,e4,e5,kp e6,e7,e8⟩,kp hd,d1⟩
 have hTd:dT≠d:=λe=>by rw[e,nmf.dict] at hdT;cases hdT
 refine aB<|ag<|ux (k:=3) (λD env=>T1 D env _) (λC env=>J1 X A env _) hA.mo (λC D it=>fc) (λD C hDC hD=>eJ hD) (by rfl) (by rfl) (by decide) (by decide)
  <|c7<|au<|eg hX.g_sorted<|ad<|ab (.ref aH)<|ak ⟨trivial,wV hH2 ha hA.handled (by omega) λLk hperm=>?_⟩
 have hlen:Lk.length≤8:=by have:=hperm.length_eq;rw[bB] at this;omega
 have hk:∀k∈Lk,∃v,H.lookup k=some v∧k.length=2:=λk hkm=>by
  obtain⟨v,hv⟩:=g8 (hperm.mem_iff.mp hkm)
  exact⟨v,hv,hH.k2 _ (dY hv)⟩
 refine fS λC=>dH (λm2=>m2 "held"=some (.ref aH)) (λ_=>true) (y6 H) trivial _ _ [] (λV hV m2 hm2=>?_) (by simp;omega) (by rfl) λm2 _=>?_
 ·obtain⟨k,hkm,rfl⟩:=aP.mp hV
  obtain⟨v,hv,hk2⟩:=hk k hkm
  refine aq ⟨rfl,rfl,rfl,hm2,λ_=>?_⟩
  refine fB<|ad<|AE (k:=3) hA.mo (by rfl) (by rfl) (by decide) (by decide) (λ_ _=>rfl) (λ_=>rfl)
   <|c7<|ab (.bytes k)<|ya λC'=>xK (λ_=>True) rS trivial _ _ [] (λV hV m3 out K' _ hK' hol=>?_) (λV hV=>?_) (by rw[fF,hk2];decide) trivial λm3 _=>?_
  ·obtain⟨o,ho,rfl⟩:=aP.mp hV
   refine aq ⟨rfl,?_⟩
   refine c7<|au<|eg hX.g_range<|ad<|av<|ak ⟨trivial,xt<|rj (n:=8) (by decide) (by decide)<|dH (λm=>m "octet"=some (.int (o.toNat:Int))) (λ_=>true) (λV=>match V with|.int q=>.int (((e8 o).getD q.toNat 0).toNat:Int)|V=>V) trivial _ _ _ (λV hV m4 hm4=>?_) (by simp[cw];omega) (by rfl) λm' _=>?_⟩
   ·obtain⟨q,hq,rfl⟩:=aP.mp hV
    have hq':=qw.mp hq
    refine aq ⟨rfl,rfl,rfl,hm4,λ_=>?_⟩
    refine aK<|aK<|ap (V:=.int (o.toNat:Int)) hm4<|aK<|av<|aK<|av<|ap (V:=.int (0+(q:Int) * 1)) (by rfl)<|qQ ?_
    rw[show((7:Int) - (0+(q:Int) * 1))=((7 - q:Nat):Int) from by omega]
    have hpw:(2:Int) ^ (7 - q)≠0∧((2:Int) ^ (7 - q)).natAbs<1073741824:=by
     have:∀j<8,(2:Int) ^ j≠0∧((2:Int) ^ j).natAbs<1073741824:=by decide
     exact this _ (by omega)
    refine vB (by omega)<|ny hpw.1 hpw.2<|av<|dW (by decide) ⟨rfl,?_⟩
    have:=E6 o.toNat (UInt8.toNat_lt o) q hq'
    rw[qi] at this
    rw[this]
    show AV.int _=AV.int (((e8 o).getD (0+(q:Int) * 1).toNat 0).toNat:Int)
    rw[show(0+(q:Int) * 1).toNat=q from by omega]
   ·have e:((cw 0 1 8).filter λ_=>true)=cw 0 1 8:=by simp
    rw[e]
    have e2:(cw 0 1 8).map (λV=>match V with|AV.int q=>AV.int (((e8 o).getD q.toNat 0).toNat:Int)|V=>V)=rS (.int (o.toNat:Int)):=by
     show _=ay (e8 ((o.toNat:Int).toNat.toUInt8))
     rw[eO,show o.toNat.toUInt8=o from qi]
     rfl
    rw[e2]
    exact hK' _ trivial
  ·obtain⟨o,ho,rfl⟩:=aP.mp hV
   show(ay (e8 _)).length≤8
   rw[fF,DV];exact aG _
  ·rw[cH,BU]
   refine ad<|aC<|ap (V:=.ref aH) hm2<|ab (.bytes k)<|cg hH2 hv<|ak ⟨by rw[bn];exact cU rfl,rfl,?_⟩
   show AV.tup [.lst (ay (aA k)),.bytes v]=AV.tup [.lst (ay (aA k)),.bytes ((H.lookup k).getD [])]
   rw[hv];rfl
 rw[cH,show((Lk.map AV.bytes).filter λ_=>true)=Lk.map AV.bytes from by simp,CW]
 refine aq ?_
 have hrl:(eF H Lk).length=Lk.length:=by unfold eF;rw[bB]
 have hmul:(eF H Lk).length * (16+1)≤136:=by rw[hrl];omega
 have S2:Sn f d dT σ2 σ2 N [] (c+(eF H Lk).length * (16+1)):=⟨nm2,hT2,hd1,hTd,⟨hW,λ_ _ q=>by cases q⟩,.refl,by omega,by simp;omega⟩
 refine ag<|aZ<|fB<|ad<|au<|eg hX.g_node<|ad<|ap (V:=.lst ((eF H Lk).map bE)) (by rfl)<|ad<|ab (.ref f)<|ad<|ab (.ref dT)<|ak ⟨qY hX,aw (Dj hX 16 (by decide) (Dz hH hperm hne) (by omega) S2 λt h σ3 N3 D3 hT hk S3 u1 u2 hF=>?_) hA.mo⟩
 refine ad<|ab (.ref dT)<|ak ⟨by rw[bn];exact cU rfl,hQ t h dT σ3 N3 D3 hdT hd1 (EZ hH hperm hT) (λx hx hxd=>?_) S3.nm S3.td S3.ok u1 S3.n ?_ hF⟩
 ·rw[S3.only x (by simp[hxd,neH hx]),old x hx]
 ·have:=S3.m;omega
end
theorem yD{h:Heap}{a:Addr}(x:h.objs.size≤a):h.get? a=none:=by
 cases e:h.get? a with
 |none=>rfl
 |some o=>exact absurd (aY e) (i9.mpr x)
theorem Go.extTrk(S:Sat X g σ s)(hσ:σ a=some t)(k:∀b o,b≠a→s.heap.get? b=some o→s'.heap.get? b=some o)
  (h1:∀b,s.heap.get? b≠none→b≠a→σ' b=σ b)(h2:∀b t,σ' b=some t→(b=a∨s.heap.get? b=none)→TrkAt X.w g s'.heap b t)(h3:σ' a≠none)(hos:s'.os=s.os:=by rfl)(hg:s'.gens=s.gens:=by rfl):Go X am g σ s g σ' s':=by
 have hga:=(S.trk a t hσ).1
 have ne:∀b o,g b=some o→b≠a:=λb o e q=>by rw[q,hga] at e;cases e
 have np:∀p∈X.tabs,p.2≠a:=λp hp q=>by have:=(S.tab p hp).2.1;rw[q,hσ] at this;cases this
 have tk:∀{b t},TrkAt X.w g s.heap b t→b≠a→TrkAt X.w g s'.heap b t:=λ{b t} x hab=>by
  cases t with
  |dict l=>obtain⟨kvs,d,r⟩:=x;exact⟨kvs,d.at λo e=>k b o hab e,r⟩
  |ns l=>obtain⟨m,d,r⟩:=x;exact⟨m,d.at λo e=>k b o hab e,r⟩
  |obj o=>exact k b o hab x
 refine⟨⟨S.le,λb o e=>k b o (ne b o e) (S.in_ b o e),λb u e=>?_,λp hp=>?_⟩,.refl g,λ_ _ _ _=>rfl,λb o e _=>?_,hos,λb o e _=>?_,λb o e hb _ _=>?_,λp hp o vs e hd'=>⟨#[],?_⟩,by rw[hg];exact aG _,λi x e _=>by rw[hg];exact e,λi x e=>by rw[hg] at e;exact .inl e⟩
 ·by_cases q:b=a
  ·subst q;exact⟨hga,h2 _ _ e (.inl rfl)⟩
  ·cases q2:s.heap.get? b with
   |none=>exact⟨View.none_of S.in_ q2,h2 _ _ e (.inr q2)⟩
   |some o=>
    rw[h1 b (by rw[q2];simp) q] at e
    exact⟨(S.trk b u e).1,tk (S.trk b u e).2 q⟩
 ·obtain⟨e1,e2,e3,ps,e4⟩:=S.tab p hp
  have hP:s.heap.get? p.2≠none:=by obtain⟨o,e,_⟩:=nQ e4;rw[e];simp
  refine⟨e1,by rw[h1 _ hP (np p hp)];exact e2,e3,ps,jj e4 (λo=>k _ o ?_) (λo=>k _ o (np p hp))⟩
  cases q:g p.1 with
  |none=>exact absurd q e3
  |some o=>exact ne _ o q
 ·by_cases q:b=a
  ·subst q;exact⟨λq=>absurd q h3,λq=>by rw[hσ] at q;cases q⟩
  ·rw[h1 b (by rw[e];simp) q]
 ·by_cases q:b=a
  ·subst q
   cases q:σ' b with
   |none=>exact absurd q h3
   |some u=>exact(h2 b u q (.inl rfl)).at
  ·exact⟨o,k b o q e⟩
 ·have q:b≠a:=λq=>by rw[q,hσ] at hb;cases hb
  exact .inl (k b o q e)
 ·rw[k _ _ (np p hp) e];congr 1;obtain⟨c,d,dt,sl⟩:=o;subst hd';simp
section
variable {X:Cx} {A:Around} {P:Pv} {env:Env} {m:Mp} {σ:St}
theorem Frm.trkCell(F:Frm X env (m.upd x V) g σ s)(hm:m x=none)(hk:env.kindOf x=some .cell)(hx:x="names")(hl:env.cells.lookup x=some c)(hc:c≠env.locals):Frm X env m g (σ.set c t) s:=by
 have fr:∀b,b≠c→(Free X g (σ.set c t) b↔Free X g σ b):=λb hb=>by unfold Free St.set;rw[ae hb]
 have nc:¬Free X g (σ.set c t) c:=λh=>by have:=h.2.1;unfold St.set at this;rw[ah rfl] at this;cases this
 have mu:∀y V',m y=some V'→(m.upd x V) y=some V':=λy V' e=>by
  unfold Mp.upd;split
  ·rename_i q;rw[q,hm] at e;cases e
  ·exact e
 have dc:∀y b,y≠x→env.cells.lookup y=some b→b≠c:=λy b hy hb e=>hy (name_of_addr F.inj (mem_of_lookup hb) (e▸mem_of_lookup hl))
 refine⟨F.kind,(fr _ (dL hc)).mpr F.free,?_,λy b hb hk' hf=>?_,λy W hW=>?_,F.inj,F.csz,λy b hk' hy hb=>?_⟩
 ·obtain⟨mC,hn,h⟩:=F.ns
  exact⟨mC,hn,λy W hW hk'=>h y W (mu y W hW) hk'⟩
 ·have hbc:b≠c:=λe=>nc (e▸hf)
  obtain⟨h1,v,h2,h3⟩:=F.cells y b hb hk' ((fr b hbc).mp hf)
  exact⟨h1,v,h2,λW hW=>h3 W (mu y W hW)⟩
 ·rcases F.var y W (mu y W hW) with h|⟨h,b,hb,hf⟩
  ·exact .inl h
  ·refine .inr ⟨h,b,hb,(fr b (dc y b ?_ hb)).mpr hf⟩
   rintro rfl;rw[hm] at hW;cases hW
 ·exact(fr b (dc y b (λe=>hy (e.trans hx)) hb)).mpr (F.own y b hk' hy hb)
theorem Go.trkCell(S:Sat X g σ s)(hf:Free X g σ c)(ho:s.heap.get? c=some o)(hP:P.a c):Go X P g σ s g (σ.set c (.obj o)) s:=by
 have e0:∀b,b≠c→σ.set c (.obj o) b=σ b:=λb hb=>by unfold St.set;rw[ae hb]
 refine⟨⟨S.le,S.in_,λb u e=>?_,λp hp=>?_⟩,.refl g,λ_ _ _ _=>rfl,λb _ _ hb=>?_,.keeps (λ_ _ e=>e) rfl rfl⟩
 ·by_cases q:b=c
  ·subst q;unfold St.set at e;rw[ah rfl] at e;cases e;exact⟨hf.1,ho⟩
  ·rw[e0 b q] at e;exact S.trk b u e
 ·obtain⟨e1,e2,e3,e4⟩:=S.tab p hp
  exact⟨e1,by rw[e0 _ (hf.2.2 p hp)];exact e2,e3,e4⟩
 ·rw[e0 b λq=>hb (q▸hP)]
theorem CO(hX:Base X)(hm:m "names"=none)(hk:env.kindOf "names"=some .cell)(hl:env.cells.lookup ("names":Str)=some c)(hP:P.a c)
  (h:∀d co,σ d=none→d≠1→c≠d→co.data=.cell (some (.ref d))→Q .next m ((σ.set d (.dict [])).set c (.obj co)))
  (hs:swapsWithSole [(Expr.Name "names" p1)] (.Dict [] [] p2) p3.line env=pure false:=by rfl):∀g s,Sat X g σ s→Frm X env m g σ s→Free X g σ c→wpAny (model P0 X.w) A (exec (.Assign [.Name "names" p1] (.Dict [] [] p2) p3) env) (PostX X P env g σ s Q) ai s:=λg s S F hf=>by
 obtain⟨oc,hoc⟩:=F.csz _ c hl
 have hne:c≠env.locals:=(F.cells _ c hl (.inl hk) hf).1
 rw[exec_Assign]
 refine ac (bL ?_)
 rw[hs]
 refine ac (ao ?_)
 rw[ae (by decide)]
 refine ac (aj (nR (Q:=λV σ'=>∃d,V=.ref d∧σ d=none∧d≠1∧σ'=σ.set d (.dict [])) hX (λd hd hd1=>⟨d,rfl,hd,hd1,rfl⟩) g s S F) (λv s₁ ⟨g₁,V,σ₁,G₁,r₁,h₁⟩=>?_) i2)
 obtain⟨d,rfl,hd,hd1,rfl⟩:=h₁
 refine ac (bw (a:=none) (by rfl) ?_)
 show wpAny _ A (do assignAll v [assign (.Name "names" p1) env];pure Flow.next) _ ai s₁
 refine ac ?_
 show wpAny _ _ (do standAt p1;bindName env "names" v) _ _ _
 have hf₁:Free X g₁ (σ.set d (.dict [])) c:=hf.go G₁ hoc id
 have hcd:c≠d:=λe=>by have:=hf₁.2.1;unfold St.set at this;rw[ah e] at this;cases this
 refine ac (bL (wpAny_bindName (vx G₁.sat (F.go G₁) r₁ hk hl hf₁ hP λs' G F'=>ao ?_)))
 obtain⟨_,v',hv,hv'⟩:=F'.cells _ c hl (.inl hk) hf₁
 obtain⟨u,rfl,ru⟩:=hv' (.ref d) (by unfold Mp.upd;rw[ah rfl])
 unfold Rep at ru;subst ru
 obtain⟨co,ho,hd'⟩:=hv
 exact⟨g₁,.next,m,_,(G₁.any.trans G).trans (Go.trkCell G.sat hf₁ ho hP),Frm.trkCell F' hm hk rfl hl hne,rfl,h d co hd hd1 hcd hd'⟩
def cR(ps:Array Value):Obj:={cls:=.none,data:=.fields ps}
theorem ES{Q:AFl→Mp→St→Prop}{c d:Addr}{co:Obj}{N:BD}(hX:Base X)(hC:∀h:Heap,X.B.In h→CodeHd h 449 447)(ht:σ 447=some (.obj (cR #[])))(hcl:closureFor (jl dy) env=pure [(("names":Str),c)])
  (hcode:env.code=.ref 449)(hg:env.globals=mainGlobals)(hq:qualnameIn env "name_of" "name_of"="law.<locals>.name_of")(hσ:σ c=some (.obj co))(hco:co.data=.cell (some (.ref d)))(hd:σ d=some (.dict N))(hd1:d≠1)
  (hk:env.kindOf "name_of"=some .local)(hP:P.a env.locals)
  (h:∀f σ',NmF σ' f d N→(∀b,σ b≠none→b≠447→σ' b=σ b)→(∃ps,σ' 447=some (.obj (cR ps)))→Q .next (m.upd "name_of" (.ref f)) σ'):Ex X A ai P env m dy σ Q:=λg s S F=>by
 have h447:=(S.trk 447 _ ht).2
 have hB:=S.in_.le S.le
 obtain⟨mg,bm,ob,b1,b2,b3,b4,b5,b6,b7⟩:=hX.bi _ hB
 have m1:bm≠mainGlobals:=λe=>by
  obtain⟨o,_,_,h1,h2,_⟩:=b1
  rw[←e,b4] at h1;cases h1;rw[b7] at h2;cases h2
 have m2:bm≠447:=λe=>by rw[e,h447] at b4;cases b4;cases b7
 have hbm:s.heap.BuiltinsAt mg 447:=⟨bm,ob,b2,b3,m1,m2,b4,b5,b6,b7⟩
 obtain⟨pos,hpos⟩:∃pos,dy=.FunctionDef "name_of" (ox dy) (cj dy) [] none [] (jl dy) none "name_of" pos:=⟨_,rfl⟩
 rw[hpos]
 refine nestDef_K (by rfl) (by rfl) (by rfl) ?_
 rw[hq]
 refine makeFunction_K hcl hg b1 hcode (hC _ hB) h447 (by trivial) (by rfl) (by decide) hbm λc' ctv doc h' tk hx hge hlt hrec htb=>?_
 obtain⟨cc,oc,vs,t,hcc,hoc,hdc,hvs⟩:=hrec
 cases hcc
 generalize hfo:fnMade "name_of" "law.<locals>.name_of" (ox dy) (cj dy) (jl dy) [(("names":Str),c)] doc ((mg "__name__").getD .none) c' ctv=fo
 have hff:fo.isFreed=false:=by rw[←hfo];rfl
 have hfd:fo.data=.func (tv c (.ref c') ((mg "__name__").getD .none) ctv doc):=by rw[←hfo];rfl
 have hxs:s.heap.objs.size≤h'.objs.size:=eR (Nat.lt_of_le_of_lt hge hlt)
 have n1:s.heap.get? c'=none:=yD hge
 have n2:s.heap.get? h'.objs.size=none:=yD hxs
 have c4:c'≠447:=λe=>by rw[e,h447] at n1;cases n1
 have f4:h'.objs.size≠447:=λe=>by rw[e,h447] at n2;cases n2
 have cf:c'≠h'.objs.size:=fz hlt
 let σ':St:=((σ.set 447 (.obj (cR (#[]++#[rawInt pos.line,rawInt pos.col,.ref c'])))).set c' (.obj oc)).set h'.objs.size (.obj fo)
 have a1:∀b,s.heap.get? b≠none→b≠447→σ' b=σ b:=λb hb hb4=>by
  have q1:b≠c':=λe=>hb (e▸n1)
  have q2:b≠h'.objs.size:=λe=>hb (e▸n2)
  show(if b=h'.objs.size then _ else if b=c' then _ else if b=447 then _ else _)=_
  rw[ae q2,ae q1,ae hb4]
 have a2:∀b,σ b≠none→b≠447→σ' b=σ b:=λb hb hb4=>a1 b (λe=>by
  cases q:σ b with
  |none=>exact hb q
  |some t=>obtain⟨o,ho⟩:=(S.trk b t q).2.at;rw[e] at ho;cases ho) hb4
 have a3:σ' 447=some (.obj (cR (#[]++#[rawInt pos.line,rawInt pos.col,.ref c']))):=by
  show(if 447=h'.objs.size then _ else if 447=c' then _ else if 447=447 then _ else _)=_
  rw[ae (dL f4),ae (dL c4),ah rfl]
 have G:Go X am g σ s g σ' {s with heap:=h'.push fo,toks:=tk}:=by
  refine Go.extTrk S ht (λb o hb e=>aJ _ (hx b o hb e)) a1 (λb u e hb=>?_) ?_
  ·have e:(if b=h'.objs.size then some (Trk.obj fo) else if b=c' then some (.obj oc) else if b=447 then some (.obj (cR (#[]++#[rawInt pos.line,rawInt pos.col,.ref c']))) else σ b)=some u:=e
   split at e
   ·rename_i q;cases e;rw[q];exact aX _ hff
   ·split at e
    ·rename_i q;cases e;rw[q];exact aJ _ hoc
    ·split at e
     ·rename_i q;cases e;rw[q];exact aJ _ htb
     ·rename_i q
      rcases hb with q'|q'
      ·exact absurd q' q
      ·obtain⟨o,ho⟩:=(S.trk b u e).2.at;rw[q'] at ho;cases ho
  ·show(if 447=h'.objs.size then _ else if 447=c' then _ else if 447=447 then _ else _)≠none
   rw[ae (dL f4),ae (dL c4),ah rfl];simp
 have K:NmF σ' h'.objs.size d N:=by
  refine⟨⟨fo,c,co,c',oc,_,_,_,_,vs,t,?_,hfd,(a2 c (by rw[hσ];simp) ?_).trans hσ,hco,rfl,?_,hdc,hvs⟩,(a2 d (by rw[hd];simp) ?_).trans hd,hd1⟩
  ·show(if h'.objs.size=h'.objs.size then _ else _)=_
   rw[ah rfl]
  ·rintro rfl;rw[hσ] at ht;cases ht;cases hco
  ·show(if c'=h'.objs.size then _ else if c'=c' then _ else _)=_
   rw[ae cf,ah rfl]
  ·rintro rfl;rw[hd] at ht;cases ht
 refine yc (V:=.ref h'.objs.size) G.sat (F.go G) (by unfold Rep;rfl) hk hP λs' G' F'=>?_
 exact⟨g,.next,_,σ',G.any.trans G',F',rfl,h _ _ K a2 ⟨_,a3⟩⟩
end
abbrev cG(pm:Value):FuncData:=cP (aD 55) "law" (.ref 449) pm .none
def oB:List Stmt:=(cj (aD 55)).drop 2
structure Base8(X:Cx):Prop extends Base7 X where
 f_law:∃pm,FnAt X 450 (cG pm) (cj (aD 55))
 cd:∀h:Heap,X.B.In h→CodeHd h 449 447
 t447:∀p∈X.tabs,p.2≠447
set_option maxHeartbeats 1000000 in
theorem CF(hX:Base8 X)(S:Sat X g σ s)(rv:Rep g V v)(ht:σ 447=some (.obj (cR #[])))
  (h:∀pm A L f d σ',Room A 240→A.frames=some [callEnvC (cG pm) L 450]→NmF σ' f d []→(∀b,σ b≠none→b≠447→σ' b=σ b)→(∃ps,σ' 447=some (.obj (cR ps)))→
   ExsJ X A (ax L (callEnvC (cG pm) L 450)) (callEnvC (cG pm) L 450) ((Mp.nil.upd "script" V).upd "name_of" (.ref f)) oB σ' λFl _ σ'=>match Fl with|.ret V=>Q V σ'|.next=>Q .none σ'|_=>False):
  cM (model P0 X.w) callerA (.call (.ref 450) ⟨[v],[]⟩) (λr s'=>∃v,r=.ok (.ret v)∧Post X am g σ s Q v s') s:=by
 obtain⟨pm,F⟩:=hX.f_law
 obtain⟨o,ho,hd⟩:=F.obj S
 refine gz ?_
 show aI _ callerA.in1 (callAny (.ref 450) _) _ _ s
 simp only[callAny]
 refine bl (ja ho ?_)
 obtain⟨c,oc,vs1,tq,hc,hoc,hdc,hq⟩:=F.cdRec S
 have hbody:=F.body
 have hco:(cG pm).scope.isCoroutine=false:=by rfl
 have hgen:(cG pm).scope.isGenerator=false:=by rfl
 have hk:(cG pm).scope.kind=.function:=by rfl
 have hclo:(cG pm).closure=[]:=by rfl
 simp only[hd,callFunction,hco,hgen,hbody,hc]
 refine bl (m:=field (.ref c) 1) (bM hoc hdc hq (bl (ao ?_)))
 refine bl (bw (a:=[(("script":Str),v)]) (by rfl) (bl ?_))
 rw[←hc,hclo]
 refine jY hk (λy hy=>?_) λenv he s' x=>?_
 ·simp only[fp] at hy;rw[hy];exact .inl (by rfl)
 ·have he':env=callEnvC (cG pm) s.heap.objs.size 450:=he
  subst he'
  have Fr:=iY (a:=450) (xs:=["script"]) (l:=[V]) (vs:=[v]) S (.cons rv .nil) hk (by rfl) x
  have G:=jf S x (P:=am)
  generalize hL:s.heap.objs.size=L at *
  have hR:Room (callerA.deeper (callEnvC (cG pm) L 450)) 240:=Room.deeper (k:=240) ⟨rfl,by decide,by decide⟩
  refine bl (wpAny_enterFrame ((F.noLimit S).keeps x.toInCall.keep) (by decide) (ch ⟨rfl,gz ?_⟩))
  show aI _ (callerA.deeper _) (do point;match ←(execs (cj (aD 55)) (callEnvC (cG pm) L 450)).onRaise (leaving (callEnvC (cG pm) L 450)) with|.ret v=>ret v|_=>ret .none) _ _ _
  have hfr:(callerA.deeper (callEnvC (cG pm) L 450)).frames=some [callEnvC (cG pm) L 450]:=wQ rfl
  have hl:(callEnvC (cG pm) L 450).cells.lookup ("names":Str)=some (L+5):=by rfl
  have hf:Free X g σ (L+5):=bC S (by omega)
  refine bl (qI (c9 (xj (dG (Q:=PostX X (ax L (callEnvC (cG pm) L 450)) (callEnvC (cG pm) L 450) g σ s' λFl _ σ'=>match Fl with|.ret V=>Q V σ'|.next=>Q .none σ'|_=>False) ?_ (λf s'' ⟨g',Fl,m',σ',G',_,rf,q⟩=>?_) i2))))
  ·obtain⟨p1,p2,p3,hb⟩:∃p1 p2 p3,cj (aD 55)=.Assign [.Name "names" p1] (.Dict [] [] p2) p3::dy::oB:=⟨_,_,_,by rfl⟩
   rw[hb,execs_cons]
   refine bl (aj (CO (P:=ax L (callEnvC (cG pm) L 450)) (Q:=λF m₁ σ₁=>F=.next∧m₁=Mp.nil.upd "script" V∧∃d co,σ d=none∧d≠1∧L+5≠d∧co.data=.cell (some (.ref d))∧σ₁=(σ.set d (.dict [])).set (L+5) (.obj co)) hX.toBase (by rfl) (by rfl) hl ⟨gt L 5,.inr ⟨_,hl⟩⟩
    (λd co h1 h2 h3 h4=>⟨rfl,rfl,d,co,h1,h2,h3,h4,rfl⟩) (by rfl) g s' G.sat Fr hf) (λf s₁ ⟨g₁,Fl,m₁,σ₁,G₁,F₁,r₁,e1,e2,d,co,h1,h2,h3,h4,e3⟩=>?_) i2)
   subst e1 e2 e3
   cases r₁
   have n1:∀b,σ b≠none→((σ.set d (.dict [])).set (L+5) (.obj co)) b=σ b:=λb hb=>by
    have q1:b≠L+5:=λe=>hb (by rw[e];exact hf.2.1)
    have q2:b≠d:=λe=>hb (by rw[e];exact h1)
    unfold St.set
    rw[ae q1,ae q2]
   have K:Ex X (callerA.deeper (callEnvC (cG pm) L 450)) ai (ax L (callEnvC (cG pm) L 450)) (callEnvC (cG pm) L 450) (Mp.nil.upd "script" V) dy ((σ.set d (.dict [])).set (L+5) (.obj co)) λF m₁ σ₁=>F=.next∧∃f,m₁=(Mp.nil.upd "script" V).upd "name_of" (.ref f)∧NmF σ₁ f d []∧(∀b,σ b≠none→b≠447→σ₁ b=σ b)∧(∃ps,σ₁ 447=some (.obj (cR ps))):=by
    refine ES (c:=L+5) (d:=d) (co:=co) (N:=[]) hX.toBase hX.cd ?_ ?_ (by rfl) (by rfl) ?_ ?_ h4 ?_ h2 (by rfl) ?_ ?_
    ·rw[n1 _ (by rw[ht];simp)];exact ht
    ·kernel_rfl
    ·kernel_rfl
    ·unfold St.set;rw[ah rfl]
    ·unfold St.set;rw[ae (dL h3),ah rfl]
    ·exact⟨aG _,.inl rfl⟩
    ·exact λf σ' K e e3=>⟨rfl,f,rfl,K,λb hb hb4=>(e b (by rw[n1 b hb];exact hb) hb4).trans (n1 b hb),e3⟩
   refine dG (dk (rest:=oB) (ExJ.of (K.mono λF m₁ σ₁ ⟨e,f,em,k1,k2,k3⟩=>?_)) g₁ s₁ G₁.sat F₁) (λf s₂ h₂=>h₂.after G₁) i2
   subst e em
   exact h pm _ L f d σ₁ hR hfr k1 k2 k3
  ·have G'':Go X am g σ s g' σ' s'':=Go.weaken (Go.trans (G.any) G') (io (kj hL))
   cases Fl with
   |next=>cases rf;exact ch ⟨_,rfl,g',.none,σ',G'',by unfold Rep;rfl,q⟩
   |ret V=>obtain⟨v,rfl,rv⟩:=rf;exact ch ⟨v,rfl,g',V,σ',G'',rv,q⟩
   |brk=>exact q.elim
   |cont=>exact q.elim
theorem vd{α:Type}[BEq α][LawfulBEq α]:∀{l l':List α},l.Nodup→(∀x∈l,x∈l')→l.length≤l'.length
 |[],_,_,_=>qK _
 |a::l,l',hn,h=>by
  have hn:=iT.mp hn
  have ha:=h a bj
  have:=vd (l:=l) (l':=l'.erase a) hn.2 λx hx=>(List.mem_erase_of_ne λe=>hn.1 (by rw[←e];exact hx)).mpr (h x (aR _ hx))
  rw[List.length_erase_of_mem ha] at this
  have:0<l'.length:=List.length_pos_of_mem ha
  rw[bc];omega
theorem qW:∀{t:T} {n:Nat} {p:By} {o:Option By},WF n t→p.length=n→bz N D t p=some o→o=look t p
 |.leaf v,n,p,o,hw,hp,h=>by
  unfold WF at hw;unfold bz at h
  have:p=[]:=gW.mp (by omega)
  subst this
  split at h
  ·cases h;rfl
  ·cases h
 |.kv b t,n,p,o,hw,hp,h=>by
  unfold WF at hw;obtain⟨hb,_,_,k,hk,hw⟩:=hw
  have hbl:0<b.length:=qf.mpr hb
  have hpe:p≠[]:=λe=>by rw[e] at hp;simp at hp;omega
  unfold bz at h
  split at h
  ·try rw[ae hpe] at h
   rw[eX]
   split at h
   ·rename_i q;rw[ah q];exact qW hw (by rw[bA];omega) h
   ·rename_i q;rw[ae q];cases h;rfl
  ·cases h
 |.br l r,n,p,o,hw,hp,h=>by
  unfold WF at hw;obtain⟨k,hk,hl,hr⟩:=hw
  match p,hp with
  |[],hp=>simp at hp;omega
  |c::p,hp=>
  rw[bc] at hp
  unfold bz at h
  split at h
  ·try rw[ae (by simp)] at h
   rw[dI]
   simp only[gj,List.take_zero,gv,and_true,List.drop_succ_cons,List.drop_zero] at h
   split at h
   ·rename_i q;rw[ah q];exact qW hl (by omega) h
   ·rename_i q;rw[ae q];exact qW hr (by omega) h
  ·cases h
theorem rR:∀{t:T} {n:Nat} {h p:By},WF n t→p.length=n→K N D t h p→bz N D t p=some (look t p)
 |.leaf v,n,h,p,hw,hp,k=>by
  unfold WF at hw
  have:p=[]:=gW.mp (by omega)
  subst this
  have hn:nm N (.leaf v)=h:=K.named k |>.nm
  unfold K at k
  unfold bz;rw[hn,k.2];rfl
 |.kv b t,n,h,p,hw,hp,k=>by
  have hn:nm N (.kv b t)=h:=K.named k |>.nm
  unfold WF at hw;obtain⟨hb,_,_,k',hk,hw⟩:=hw
  unfold K at k;obtain⟨h',_,_,hd,hr⟩:=k
  have hbl:0<b.length:=qf.mpr hb
  have hpe:p≠[]:=λe=>by rw[e] at hp;simp at hp;omega
  unfold bz;rw[hn,hd];simp only[uc,if_true,ae hpe];rw[eX]
  split
  ·rename_i q;exact rR hw (by rw[bA];omega) (hr q)
  ·rfl
 |.br l r,n,h,p,hw,hp,k=>by
  have hn:nm N (.br l r)=h:=K.named k |>.nm
  unfold WF at hw;obtain⟨k',hk,hl,hr⟩:=hw
  unfold K at k;obtain⟨h1,h2,_,_,_,hd,hc⟩:=k
  match p,hp with
  |[],hp=>simp at hp;omega
  |c::p,hp=>
  rw[bc] at hp
  unfold bz;rw[hn,hd];simp only[uc,if_true,reduceCtorEq,dr];rw[dI]
  simp only[gj,List.take_zero,gv,and_true,List.drop_succ_cons,List.drop_zero] at hc ⊢
  split
  ·rename_i q;rw[ah q] at hc;exact rR hl (by omega) hc
  ·rename_i q;rw[ae q] at hc;exact rR hr (by omega) hc
theorem rh:∀{t:T} {h p:By} {v:By},Named N t h→bz N D t p=some (some v)→∃hl,N.lookup (bZ v)=some hl∧(D.lookup hl).isSome=true
 |.leaf v,h,p,w,hn,hg=>by
  have hh:=hn.nm
  unfold Named at hn
  unfold bz at hg
  split at hg
  ·rename_i q
   split at hg
   ·cases hg;exact⟨h,hn,by rw[←hh];exact q⟩
   ·cases hg
  ·cases hg
 |.kv b t,h,p,w,hn,hg=>by
  unfold Named at hn;obtain⟨h',hn,_⟩:=hn
  unfold bz at hg
  split at hg
  ·split at hg
   ·cases hg
   ·split at hg
    ·exact rh hn hg
    ·cases hg
  ·cases hg
 |.br l r,h,p,w,hn,hg=>by
  unfold Named at hn;obtain⟨h1,h2,n1,n2,_⟩:=hn
  unfold bz at hg
  split at hg
  ·split at hg
   ·cases hg
   ·split at hg
    ·exact rh n1 hg
    ·exact rh n2 hg
  ·cases hg
theorem ig:tx N t∈nodes N t:=by cases t<;>exact bj
theorem rg:∀{t:T} {h p:By},Named N t h→bz N D t p=none→∃x hx,x∈nodes N t∧N.lookup x=some hx∧D.lookup hx=none
 |t,h,p,hn,hg=>by
  have fin:¬(D.lookup (nm N t)).isSome=true→∃x hx,x∈nodes N t∧N.lookup x=some hx∧D.lookup hx=none:=λq=>
   ⟨tx N t,h,ig,hn.ltx,by rw[hn.nm] at q;exact Option.not_isSome_iff_eq_none.mp q⟩
  cases t with
  |leaf v=>
   unfold bz at hg
   split at hg
   ·cases hg
   ·rename_i q;exact fin q
  |kv b t=>
   unfold bz at hg
   split at hg
   ·split at hg
    ·cases hg
    ·split at hg
     ·unfold Named at hn;obtain⟨h',hn,_⟩:=hn
      obtain⟨x,hx,h1,h2⟩:=rg hn hg
      exact⟨x,hx,aR _ h1,h2⟩
     ·cases hg
   ·rename_i q;exact fin q
  |br l r=>
   unfold bz at hg
   split at hg
   ·unfold Named at hn;obtain⟨h1,h2,n1,n2,_⟩:=hn
    split at hg
    ·cases hg
    ·split at hg
     ·obtain⟨x,hx,h1,h2⟩:=rg n1 hg
      exact⟨x,hx,aR _ (j0 _ h1),h2⟩
     ·obtain⟨x,hx,h1,h2⟩:=rg n2 hg
      exact⟨x,hx,aR _ (gX _ h1),h2⟩
   ·rename_i q;exact fin q
def wu(N W:BD)(xs:List By):Prop:=∀x∈xs,∀h,N.lookup x=some h→W.lookup h=some x
theorem oh:∀{t:T} {h:By} {L:List By},Full N D t h L→∀x∈nodes N t,∃h,N.lookup x=some h∧D.lookup h=some x
 |.leaf v,h,L,f,x,hx=>by
  unfold Full at f
  have:x=bZ v:=by simpa [nodes,tx] using hx
  subst this;exact⟨h,f.1,f.2.1⟩
 |.kv b t,h,L,f,x,hx=>by
  have hn:=f.named
  have ht:=hn.ltx
  unfold Full at f;obtain⟨h',L',f,e1,e2,_⟩:=f
  rcases bv.mp hx with e|hx
  ·rw[e]
   have:tx N (.kv b t)=aM b h':=by show aM b (nm N t)=_;rw[f.named.nm]
   rw[this];exact⟨h,e1,e2⟩
  ·exact oh f x hx
 |.br l r,h,L,f,x,hx=>by
  unfold Full at f;obtain⟨h1,h2,_,_,f1,f2,e1,e2,_⟩:=f
  rcases bv.mp hx with e|hx
  ·rw[e]
   have:tx N (.br l r)=aO h1 h2:=by show aO (nm N l) (nm N r)=_;rw[f1.named.nm,f2.named.nm]
   rw[this];exact⟨h,e1,e2⟩
  ·rcases dQ.mp hx with hx|hx
   ·exact oh f1 x hx
   ·exact oh f2 x hx
theorem kP:∀{t:T} {h p:By},Named N t h→wu N W (nodes N t)→K N W t h p
 |.leaf v,h,p,hn,hw=>by
  have:=hw _ ig h hn.ltx
  unfold Named at hn;unfold K;exact⟨hn,this⟩
 |.kv b t,h,p,hn,hw=>by
  have:=hw _ ig h hn.ltx
  unfold Named at hn;obtain⟨h',n1,e⟩:=hn
  unfold K;refine⟨h',n1,e,?_,λ_=>kP n1 λx hx=>hw x (aR _ hx)⟩
  rw[this];show some (aM b (nm N t))=_;rw[n1.nm]
 |.br l r,h,p,hn,hw=>by
  have:=hw _ ig h hn.ltx
  unfold Named at hn;obtain⟨h1,h2,n1,n2,e⟩:=hn
  unfold K;refine⟨h1,h2,n1,n2,e,?_,?_⟩
  ·rw[this];show some (aO (nm N l) (nm N r))=_;rw[n1.nm,n2.nm]
  ·split
   ·exact kP n1 λx hx=>hw x (aR _ (j0 _ hx))
   ·exact kP n2 λx hx=>hw x (aR _ (gX _ hx))
theorem rT:∀{t:T} {n:Nat} {h p q:By},WF n t→Named N t h→p.length=n→q.length≤n→p.take q.length=q→wu N W (wit N t q)→K N W t h p
 |.leaf v,n,h,p,q,hw,hn,hp,hq,hpq,hi=>by
  unfold WF at hw
  have:q=[]:=gW.mp (by omega)
  subst this
  exact kP hn hi
 |.kv b t,n,h,p,q,hw,hn,hp,hq,hpq,hi=>by
  have hl:=hn.ltx
  have hn':=hn
  unfold WF at hw;obtain⟨hb,_,_,k,hk,hw⟩:=hw
  unfold Named at hn;obtain⟨h',n1,e⟩:=hn
  have htx:tx N (.kv b t)=aM b h':=by show aM b (nm N t)=_;rw[n1.nm]
  unfold wit at hi
  have hi2:=λx hx=>hi x (gX _ hx)
  unfold K
  split at hi2
  ·rename_i c
   exact⟨h',n1,e,by have:=hi2 _ bj h hl;rw[htx] at this;exact this,λ_=>kP n1 λx hx=>hi2 x (aR _ hx)⟩
  ·rename_i c1
   split at hi2
   ·rename_i c
    refine⟨h',n1,e,by have:=hi2 _ bj h hl;rw[htx] at this;exact this,λhpb=>rT hw n1 (q:=q.drop b.length) (by rw[bA];omega) (by rw[bA];omega) (fR _ hpq) λx hx=>hi2 x (aR _ hx)⟩
   ·rename_i c2
    refine⟨h',n1,e,by have:=hi2 _ bj h hl;rw[htx] at this;exact this,λhpb=>?_⟩
    exfalso
    by_cases hlt:q.length<b.length
    ·refine c1 ⟨hlt,?_⟩
     rw[←hpb,hU,eu (eR hlt)];exact hpq
    ·refine c2 ?_
     rw[←hpq,hU,eu (by omega)];exact hpb
 |.br l r,n,h,p,q,hw,hn,hp,hq,hpq,hi=>by
  have hl:=hn.ltx
  have hn0:=hn
  unfold WF at hw;obtain⟨k,hk,hwl,hwr⟩:=hw
  unfold Named at hn;obtain⟨h1,h2,n1,n2,e⟩:=hn
  by_cases hqe:q=[]
  ·subst hqe
   refine kP hn0 λx hx=>hi x ?_
   unfold wit;rw[ah rfl];exact j0 _ hx
  have htx:tx N (.br l r)=aO h1 h2:=by show aO (nm N l) (nm N r)=_;rw[n1.nm,n2.nm]
  unfold wit at hi
  have hi2:=λx hx=>hi x (gX _ hx)
  have hp1:p.take 1=q.take 1:=by
   have hql:1≤q.length:=qf.mpr hqe
   rw[←hpq,hU,eu hql]
  unfold K
  rw[hp1]
  split at hi2
  ·rename_i c
   refine⟨h1,h2,n1,n2,e,?_⟩
   rw[ah c]
   exact⟨by have:=hi2 _ bj h hl;rw[htx] at this;exact this,rT hwl n1 (q:=q.drop 1) (by rw[bA];omega) (by rw[bA];omega) (fR _ hpq) λx hx=>hi2 x (aR _ hx)⟩
  ·rename_i c
   refine⟨h1,h2,n1,n2,e,?_⟩
   rw[ae c]
   exact⟨by have:=hi2 _ bj h hl;rw[htx] at this;exact this,rT hwr n2 (q:=q.drop 1) (by rw[bA];omega) (by rw[bA];omega) (fR _ hpq) λx hx=>hi2 x (aR _ hx)⟩
theorem q9:∀{t:T} {q:By},∀x∈wit N t q,x∈nodes N t
 |.leaf v,q,x,hx=>by unfold wit at hx;split at hx;exact hx;cases hx
 |.kv b t,q,x,hx=>by
  unfold wit at hx
  rcases dQ.mp hx with hx|hx
  ·split at hx
   ·exact hx
   ·cases hx
  ·split at hx
   ·exact hx
   ·split at hx
    ·rcases bv.mp hx with e|hx
     ·rw[e];exact ig
     ·exact aR _ (q9 x hx)
    ·rw[fp.mp hx];exact ig
 |.br l r,q,x,hx=>by
  unfold wit at hx
  rcases dQ.mp hx with hx|hx
  ·split at hx
   ·exact hx
   ·cases hx
  ·split at hx
   ·rcases bv.mp hx with e|hx
    ·rw[e];exact ig
    ·exact aR _ (j0 _ (q9 x hx))
   ·rcases bv.mp hx with e|hx
    ·rw[e];exact ig
    ·exact aR _ (gX _ (q9 x hx))
def bN:T→List By
 |.leaf _=>[[]]
 |.kv b t=>(bN t).map (b++·)
 |.br l r=>(bN l).map (0::·)++(bN r).map (1::·)
theorem rc:∀{t:T},1≤(bN t).length
 |.leaf _=>aG _
 |.kv b t=>by unfold bN;rw[bB];exact rc
 |.br l r=>by unfold bN;rw[bg,bB];have:=rc (t:=l);omega
theorem ri{α β:Type}{f:α→β}(hf:∀x y,f x=f y→x=y):∀{l:List α},l.Nodup→(l.map f).Nodup
 |[],_=>List.nodup_nil
 |a::l,h=>by
  have h:=iT.mp h
  rw[bQ,iT]
  refine⟨λq=>?_,ri hf h.2⟩
  obtain⟨b,hb,e⟩:=aP.mp q
  exact h.1 (hf _ _ e▸hb)
theorem rs:∀{t:T} {n:Nat},WF n t→(bN t).Nodup∧∀p∈bN t,p.length=n∧aQ p∧look t p≠none
 |.leaf v,n,h=>by
  unfold WF at h
  refine⟨by simp[bN],λp hp=>?_⟩
  have:p=[]:=by simpa [bN] using hp
  subst this
  exact⟨h.1.symm,λc hc=>(by cases hc),by simp[look]⟩
 |.kv b t,n,h=>by
  unfold WF at h;obtain⟨hb,hbb,_,k,hk,hw⟩:=h
  obtain⟨h1,h2⟩:=rs hw
  refine⟨ri (λx y e=>List.append_cancel_left e) h1,λp hp=>?_⟩
  obtain⟨q,hq,rfl⟩:=aP.mp hp
  obtain⟨a1,a2,a3⟩:=h2 q hq
  exact⟨by rw[bg];omega,fT hbb a2,by rw[nA];exact a3⟩
 |.br l r,n,h=>by
  unfold WF at h;obtain⟨k,hk,hl,hr⟩:=h
  obtain⟨h1,h2⟩:=rs hl
  obtain⟨g1,g2⟩:=rs hr
  refine⟨?_,λp hp=>?_⟩
  ·unfold bN
   rw[ui]
   refine⟨ri (λx y e=>(dF e).2) h1,ri (λx y e=>(dF e).2) g1,λa ha b hb e=>?_⟩
   obtain⟨q,_,rfl⟩:=aP.mp ha
   obtain⟨q',_,rfl⟩:=aP.mp hb
   have:=(dF e).1
   exact absurd this (by decide)
  ·unfold bN at hp
   rcases dQ.mp hp with hp|hp
   ·obtain⟨q,hq,rfl⟩:=aP.mp hp
    obtain⟨a1,a2,a3⟩:=h2 q hq
    exact⟨by rw[bc];omega,il (.inl rfl) a2,by rw[dI,ah rfl];exact a3⟩
   ·obtain⟨q,hq,rfl⟩:=aP.mp hp
    obtain⟨a1,a2,a3⟩:=g2 q hq
    exact⟨by rw[bc];omega,il (.inr rfl) a2,by rw[dI,ae (by decide)];exact a3⟩
theorem rm:∀{t:T} {n:Nat},WF n t→(nodes N t).length≤(n+1) * (bN t).length
 |.leaf v,n,h=>by show 1≤(n+1) * 1;omega
 |.kv b t,n,h=>by
  unfold WF at h;obtain⟨hb,_,_,k,hk,hw⟩:=h
  have:=rm (N:=N) hw
  have hr:=rc (t:=t)
  have hbl:0<b.length:=qf.mpr hb
  show(nodes N t).length+1≤(n+1) * (bN (.kv b t)).length
  have e:(bN (.kv b t)).length=(bN t).length:=by show((bN t).map _).length=_;rw[bB]
  rw[e,hk]
  have:(k+1) * (bN t).length+(bN t).length≤(b.length+k+1) * (bN t).length:=by
   rw[←Nat.succ_mul];exact Nat.mul_le_mul_right _ (by omega)
  omega
 |.br l r,n,h=>by
  unfold WF at h;obtain⟨k,hk,hl,hr⟩:=h
  have a:=rm (N:=N) hl
  have b:=rm (N:=N) hr
  have:=rc (t:=l)
  show(nodes N l++nodes N r).length+1≤(n+1) * (bN (.br l r)).length
  have e:(bN (.br l r)).length=(bN l).length+(bN r).length:=by show((bN l).map _++(bN r).map _).length=_;rw[bg,bB,bB]
  rw[e,hk,bg]
  have:(k+1+1) * ((bN l).length+(bN r).length)=(k+1) * (bN l).length+(k+1) * (bN r).length+((bN l).length+(bN r).length):=by
   rw[Nat.succ_mul,Nat.mul_add]
  omega
theorem rJ:∀{t:T} {n:Nat} {q:By},WF n t→(wit N t q).length≤(n+1) * (nodes N t).length
 |.leaf v,n,q,h=>by unfold wit;split;exact eQ (kj rfl) (Nat.le_mul_of_pos_left _ (Nat.succ_pos n));exact qK _
 |.kv b t,n,q,h=>by
  unfold WF at h;obtain⟨hb,_,_,k,hk,hw⟩:=h
  have ih:=rJ (N:=N) (q:=q.drop b.length) hw
  have hbl:0<b.length:=qf.mpr hb
  have hM:(nodes N (.kv b t)).length=(nodes N t).length+1:=rfl
  have h2:(k+1) * (nodes N t).length+(nodes N t).length≤(n+1) * (nodes N t).length:=by
   rw[←Nat.succ_mul];exact Nat.mul_le_mul_right _ (by omega)
  have h3:(n+1) * (nodes N (.kv b t)).length=(n+1) * (nodes N t).length+(n+1):=by rw[hM,Nat.mul_succ]
  have h4:(nodes N t).length≤(k+1) * (nodes N t).length:=Nat.le_mul_of_pos_left _ (Nat.succ_pos k)
  unfold wit
  rw[bg]
  have h1:(if q=[] then nodes N (.kv b t) else []).length≤(nodes N t).length+1:=by split;exact kj hM;exact qK _
  have:∀l:List By,l.length≤(k+1) * (nodes N t).length+1→(if q=[] then nodes N (.kv b t) else []).length+l.length≤(n+1) * (nodes N (.kv b t)).length:=λl hl=>by omega
  refine this _ ?_
  split
  ·rw[bc];omega
  ·split
   ·rw[bc];omega
   ·rw[bc,gu];omega
 |.br l r,n,q,h=>by
  unfold WF at h;obtain⟨k,hk,hl,hr⟩:=h
  have a:=rJ (N:=N) (q:=q.drop 1) hl
  have b:=rJ (N:=N) (q:=q.drop 1) hr
  have hM:(nodes N (.br l r)).length=(nodes N l).length+(nodes N r).length+1:=by show(nodes N l++nodes N r).length+1=_;rw[bg]
  generalize hml:(nodes N l).length=x at *
  generalize hmr:(nodes N r).length=y at *
  have h3:(n+1) * (x+y+1)=(k+1) * x+(k+1) * y+(x+y)+(k+2):=by
   rw[hk,Nat.mul_succ,Nat.succ_mul,Nat.mul_add]
  have h1:(if q=[] then nodes N (.br l r) else []).length≤x+y+1:=by split;exact kj hM;exact qK _
  unfold wit
  generalize (if q=[] then nodes N (.br l r) else [])=L0 at h1 ⊢
  rw[bg,hM,h3]
  split
  ·rw[bc];omega
  ·rw[bc];omega
theorem Dc(h:HT H t):(bN t).length≤H.length:=by
 obtain⟨h1,h2⟩:=rs h.wf
 have:=vd (l':=(H.map (·.1)).map aA) h1 λp hp=>by
  obtain⟨a1,a2,a3⟩:=h2 p hp
  obtain⟨k,hk,rfl⟩:=yB a1 a2
  refine aP.mpr ⟨k,?_,rfl⟩
  rw[h.look k hk] at a3
  cases q:H.lookup k with
  |none=>exact absurd q a3
  |some v=>exact aP.mpr ⟨(k,v),dY q,rfl⟩
 rw[bB,bB] at this
 exact this
theorem w0(h:HT H t):(nodes N t).length≤17 * H.length:=eQ (rm h.wf) (Nat.mul_le_mul_left _ (Dc h))
theorem xl(h:HT H t):(wit N t q).length≤289 * H.length:=by
 have:=eQ (rJ (N:=N) (q:=q) h.wf) (Nat.mul_le_mul_left (16+1) (w0 (N:=N) h))
 omega
structure WInv(N D:BD)(done:List By)(W:BD):Prop where
 nd:(W.map (·.1)).Nodup
 ok:gh N W
 sub:BD.Sub W D
 all:wu N W done
 sz:W.length≤done.length
theorem WInv.nil:WInv N D [] []:=⟨List.nodup_nil,λh x e=>(by cases e),λk v e=>(by cases e),λx hx=>(by cases hx),aG _⟩
theorem WInv.step(I:WInv N D done W)(hN:NmOk N)(hx:N.lookup x=some h)(hd:D.lookup h=some x):WInv N D (done++[x]) (W.put h x):=by
 have pl:∀k,(W.put h x).lookup k=if k=h then some x else W.lookup k:=λk=>by
  split
  ·rename_i e;rw[e];exact BD.put_get
  ·rename_i e;exact BD.put_other e
 refine⟨?_,λk y e=>?_,λk y e=>?_,λy hy k hk=>?_,?_⟩
 ·rw[vi];split
  ·exact I.nd
  ·rename_i q
   rw[ui]
   exact⟨I.nd,by simp,λa ha b hb e=>by rw[fp.mp hb] at e;exact q (e▸ha)⟩
 ·rw[pl] at e;split at e
  ·rename_i q;cases e;rw[q];exact hx
  ·exact I.ok k y e
 ·rw[pl] at e;split at e
  ·rename_i q;cases e;rw[q];exact hd
  ·exact I.sub k y e
 ·rw[pl]
  rcases dQ.mp hy with hy|hy
  ·split
   ·rename_i q;rw[q] at hk;exact dl some (hN.inj _ _ _ hx hk)
   ·exact I.all y hy k hk
  ·rw[fp.mp hy] at hk ⊢
   rw[hx] at hk;cases hk;rw[ah rfl]
 ·have:=kq (x:=h) (v:=x) W
  rw[bg,wK]
  have:=I.sz
  omega
theorem DQ(hn:(W.map (·.1)).Nodup)(s:BD.Sub W D)(h1:W.lookup k=none)(h2:D.lookup k≠none):W.length<D.length:=by
 have:=vd (l:=k::W.map (·.1)) (l':=D.map (·.1)) (iT.mpr ⟨mR h1,hn⟩) λx hx=>by
  rcases bv.mp hx with e|hx
  ·rw[e]
   cases q:D.lookup k with
   |none=>exact absurd q h2
   |some v=>exact aP.mpr ⟨(k,v),dY q,rfl⟩
  ·obtain⟨v,hv⟩:=g8 hx
   exact aP.mpr ⟨(x,v),dY (s _ _ hv),rfl⟩
 rw[bc,bB,bB] at this
 exact this
abbrev LE(pm:Value)(L:Addr):Env:=callEnvC (cG pm) L 450
def bS(i:Nat):Stmt:=(oB[i]?).getD (.Pass default)
section
variable {X:Cx} {A:Around} {P:Pv} {env:Env} {Dep:St→St→Prop} {tgt:Expr} {body:List Stmt} {Q:AFl→Mp→St→Prop}
theorem oj(n:Nat)(I:List AV→Mp→St→Prop):∀(l done:List AV) (m:Mp) (σ:St),I done m σ→done.length+l.length≤n→
  (∀V∈l,∀done m σ,done.length<n→I done m σ→As X A ai P env m tgt V σ λm₁ σ₁=>Exs X A ai P env m₁ body σ₁ λF m₂ σ₂=>F=.next∧Dep σ σ₂∧I (done++[V]) m₂ σ₂)→(∀m σ,I (done++l) m σ→Q .next m σ)→
  iy X A Dep P env tgt body Q l m σ
 |[],done,m,σ,hI,_,_,hQ=>by show Q .next m σ;exact hQ m σ (by rw[ey];exact hI)
 |V::l,done,m,σ,hI,hn,h,hQ=>by
  rw[bc] at hn
  show As X A ai P env m tgt V σ _
  refine As.mono (h V bj done m σ (by omega) hI) λm₁ σ₁ h₁=>Exs.mono h₁ λF m₂ σ₂ ⟨e,hd,h₂⟩=>?_
  subst e
  exact⟨hd,oj n I l (done++[V]) m₂ σ₂ h₂ (by rw[bg,wK];omega) (λV hV=>h V (aR _ hV)) λm σ hI=>hQ m σ (by rw[gZ] at hI;exact hI)⟩
end
def Fg:List Int:=[1,10,22,15,0,1,10]
section
variable {X:Cx} {A:Around} {pm:Value} {L:Addr} {m:Mp} {σ:St} (hX:Base8 X)
include hX
theorem Er:Ex X A ai (ax L (LE pm L)) (LE pm L) m (bS 0) σ λF m' σ'=>F=.next∧σ'=σ∧m'=m.upd "rest" (.lst (Fg.map .int)):=
 aE (fV<|ad<|av<|ad<|av<|ad<|av<|ad<|av<|ad<|av<|ad<|av<|ad<|av<|ak ⟨by rw[bn];exact cU rfl,aq ⟨rfl,rfl,rfl⟩⟩)
theorem EV{sc:List Int}(h1:m "script"=some (.lst (sc.map .int)))(h2:m "rest"=some (.lst (Fg.map .int)))(hz:sc.length≤63):
  Ex X A ai (ax L (LE pm L)) (LE pm L) m (bS 1) σ λF m' σ'=>F=.next∧σ'=σ∧∃cs:List Int,cs.length=7∧m'=m.upd "cells" (.lst (cs.map .int)):=by
 have hc:∀{α:Type} (l:List α),bX none (some (7:Int)) l=l.take 7:=λl=>gA 7
 refine aE (aK<|aC<|ap h1<|bP<|av ⟨_,rfl,ib (by rw[bB];omega)<|aC<|ap h2<|bP<|au<|eg hX.g_len<|
  ad<|aC<|ap h1<|bP<|av ⟨_,rfl,ib (by rw[bB];omega)<|ak ⟨trivial,?_⟩⟩⟩)
 rw[hc]
 refine hZ (by rw[eq,bB];omega) ⟨_,rfl,ib (by decide)<|kl ?_<|aq ⟨rfl,rfl,sc.take 7++Fg.drop (sc.take 7).length,?_,?_⟩⟩
 ·rw[dp];simp[Fg];omega
 ·have:Fg.length=7:=rfl
  rw[bg,bA,eq,this];omega
 ·rw[dp,iV,List.map_take,List.map_drop,eq,eq,bB]
theorem EQ:Ex X A ai (ax L (LE pm L)) (LE pm L) m (bS 2) σ λF m' σ'=>F=.next∧∃aH,σ aH=none∧aH≠1∧σ'=σ.set aH (.dict [])∧m'=m.upd "held" (.ref aH):=
 aE (nR hX.toBase λa h1 h2=>fD (by rfl) (by decide) (c:=L+1) (by rfl) ⟨gt _ _,.inr ⟨"held",by rfl⟩⟩ ⟨rfl,a,h1,h2,rfl,rfl⟩)
end
theorem kJ{σ:St}{a:Addr}{t t':Trk}:(σ.set a t).set a t'=σ.set a t':=by
 funext b;unfold St.set;split<;>rfl
theorem fQ{σ:St}{a:Addr}{t:Trk}:σ.set a t a=some t:=by unfold St.set;rw[ah rfl]
theorem eZ{σ:St}{a b:Addr}{t:Trk}(h:b≠a):σ.set a t b=σ b:=by unfold St.set;rw[ae h]
theorem b9{m:Mp}{x y:Str}{V:AV}(h:y≠x):m.upd x V y=m y:=by unfold Mp.upd;rw[ae h]
theorem rk(c:Int){n:Nat}(hn:0<n):∃i<n,c.fmod (n:Int)=(i:Int):=by
 have h1:=Int.fmod_nonneg_of_pos c (b:=(n:Int)) (by omega)
 have h2:=Int.fmod_lt_of_pos c (b:=(n:Int)) (by omega)
 exact⟨(c.fmod n).toNat,by omega,by omega⟩
theorem DJ{i:Nat}(h:i<8):∃k:By,(Ft.map AV.bytes)[i]?=some (.bytes k)∧k.length=2:=by
 have:∀j<8,∃k:By,Ft[j]?=some k∧k.length=2:=by decide
 obtain⟨k,h1,h2⟩:=this i h
 exact⟨k,by rw[eN,h1];rfl,h2⟩
section
variable {X:Cx} {A:Around} {pm:Value} {L:Addr} {m:Mp} {σ:St} (hX:Base8 X)
include hX
theorem y0{x:Expr}{b n:Nat}{p1 p2 p3 p4 p5 p6 p7:Pos}{c:Int}{Q:AV→St→Prop}(hh:A.handled=none)(hb:b+n≤256)(hn:0<n)(hn2:n<1073741824)
  (h:Ev X A ai (LE pm L) m x σ λV σ'=>V=.int c∧∀v:By,v≠[]→v.length≤16→Q (.bytes v) σ'):
  Ev X A ai (LE pm L) m (.Call (.Name "bytes" p1) [.List [.BinOp (.Constant (.int (b:Int)) 0 p2) .Add (.BinOp x .Mod (.Constant (.int (n:Int)) 0 p3) p4) p5] p6] [] p7) σ Q:=by
 refine au (eg hX.g_bytes<|ad<|fV<|ad<|aK<|av<|aK<|h.mono λV σ' ⟨e,hq⟩=>?_)
 subst e
 refine av<|dW (by omega)<|fN<|ak ⟨by rw[bn];exact cU rfl,ak ⟨trivial,?_⟩⟩
 obtain⟨i,hi,e⟩:=rk c hn
 rw[e]
 exact qj (ns:=[(b:Int)+(i:Int)]) hh (λk hk=>by rw[fp.mp hk];omega) (by simp) (hq _ (by simp) (by simp))
theorem D6{cs:List Int}{aH:Addr}(hh:A.handled=none)(hA:Room A 1)(hc:m "cells"=some (.lst (cs.map .int)))(h7:cs.length=7)(hm:m "held"=some (.ref aH))(hσ:σ aH=some (.dict [])):
  Ex X A ai (ax L (LE pm L)) (LE pm L) m (bS 3) σ λF m' σ'=>F=.next∧(∀x:Str,x≠"cell"→m' x=m x)∧∃H,σ'=σ.set aH (.dict H)∧HOk H∧H≠[]∧H.length≤4:=by
 refine rQ (k:=1) hA<|c7<|aC<|ap hc<|bP<|av ⟨_,rfl,ib (by rw[bB];omega)<|fS ?_⟩
 rw[show bX none (some (4:Int)) (cs.map AV.int)=(cs.take 4).map .int from by rw[List.map_take];exact gA 4]
 refine oj 4 (λdone m' σ'=>(∀x:Str,x≠"cell"→m' x=m x)∧∃H,σ'=σ.set aH (.dict H)∧HOk H∧H.length≤done.length∧(done≠[]→H≠[])) _ [] m σ ⟨λ_ _=>rfl,[],?_,.nil,aG _,λh=>absurd rfl h⟩ (by simp;omega) (λV hV done m1 σ1 hlt ⟨i1,H,i2,i3,i4,i5⟩=>?_) λm1 σ1 ⟨i1,H,i2,i3,i4,i5⟩=>⟨rfl,i1,H,i2,i3,i5 ?_,?_⟩
 ·funext b;unfold St.set;split
  ·rename_i e;rw[e];exact hσ
  ·rfl
 ·obtain⟨c,_,rfl⟩:=aP.mp hV
  subst i2
  have u1:(m1.upd "cell" (.int c)) "held"=some (.ref aH):=(b9 (by decide)).trans ((i1 _ (by decide)).trans hm)
  obtain⟨i,hi,e⟩:=rk c (n:=8) (by decide)
  obtain⟨k,hk,hk2⟩:=DJ hi
  refine aq<|ag<|aE<|y0 hX (b:=65) (n:=26) hh (by decide) (by decide) (by decide)<|aK<|ab (.int c)<|av<|ny (by decide) (by decide) ⟨rfl,λv hv hv2=>?_⟩
  refine ko (a:=aH) (k:=k)<|ap u1 ⟨rfl,aC<|eg hX.g_keys<|aK<|ab (.int c)<|av<|dW (by decide) ?_⟩
  rw[show c.fmod 8=(i:Int) from e]
  refine dR (by decide) hk ⟨rfl,H,fQ,?_,aB ⟨rfl,trivial,λx hx=>(b9 hx).trans (i1 x hx),BD.put H k v,kJ,i3.put hk2 ⟨hv,hv2⟩,?_,λ_=>?_⟩⟩
  ·omega
  ·have:=kq (x:=k) (v:=v) H
   rw[bg,wK];omega
  ·cases H with
   |nil=>simp[BD.put]
   |cons p H=>unfold BD.put;split<;>simp
 ·rw[cH];intro e
  have:=dl List.length e
  rw[bB,eq,h7] at this;cases this
 ·rw[cH,bB,eq] at i4;omega
end
theorem NmF.old(F:NmF σ f d N)(h:∀b,σ b≠none→σ' b=σ b):NmF σ' f d N:=by
 obtain⟨⟨o,c,co,cc,oc,code,pm,ct,doc,vs,t,e1,e2,e3,e4,e5,e6,e7,e8⟩,hd,d1⟩:=F
 have kp:∀{x:Addr} {tr:Trk},σ x=some tr→σ' x=some tr:=λ{x tr} q=>by rw[h x (by rw[q];simp),q]
 exact⟨⟨o,c,co,cc,oc,code,pm,ct,doc,vs,t,kp e1,e2,kp e3,e4,e5,kp e6,e7,e8⟩,kp hd,d1⟩
theorem DI(h:i<4):∃o:UInt8,(Gv.map AV.bytes)[i]?=some (.bytes [o]):=by
 obtain rfl|rfl|rfl|rfl:i=0∨i=1∨i=2∨i=3:=by omega
 all_goals exact⟨_,rfl⟩
theorem Do(h:i<4):∃o:UInt8,(FE.map AV.bytes)[i]?=some (.bytes [o]):=by
 obtain rfl|rfl|rfl|rfl:i=0∨i=1∨i=2∨i=3:=by omega
 all_goals exact⟨_,rfl⟩
theorem Dr{cs:List Int}{i:Nat}(h:i<cs.length):∃c:Int,(cs.map AV.int)[i]?=some (.int c):=
 ⟨cs[i],by rw[eN,c8 h];rfl⟩
section
variable {X:Cx} {A:Around} {pm:Value} {L:Addr} {m:Mp} {σ:St} (hX:Base8 X)
include hX
theorem AX:aV X σ (.ref 416):=by obtain⟨_,_,F'⟩:=hX.f_octets;exact F'.keep
theorem qU:aV X σ (.ref 423):=by obtain⟨_,_,F'⟩:=hX.f_ends;exact F'.keep
theorem Ew(hA:Room A 24)(h1:m "held"=some (.ref aH))(h2:m "name_of"=some (.ref f))(nmf:NmF σ f d [])(hσ:σ aH=some (.dict H))(ha:aH≠1)(hd:aH≠d)(hH:HOk H)(hne:H≠[])(hz:H.length≤4):
  Ex X A ai (ax L (LE pm L)) (LE pm L) m (bS 4) σ λF m' σ'=>F=.next∧∃t h dT N D,m'=(m.upd "root" (.bytes h)).upd "told" (.ref dT)∧σ dT=none∧dT≠1∧HT H t∧(∀b,σ b≠none→b≠d→σ' b=σ b)∧NmF σ' f d N∧σ' dT=some (.dict D)∧SOk N D∧N.length≤200∧D.length≤50000∧∃L,Full N D t h L:=by
 refine aE<|au<|eg hX.g_tree<|ad<|ap h1<|ad<|ap h2<|ak ⟨xZ hX.toBase7,aw (yK hX.toBase7 nmf .nil hσ ha hH hne (by omega) (c:=49800) (by decide) hd λt h dT σ' N D e1 e2 e3 e4 e5 e6 e7 e8 e9 e10 e11=>?_) hA⟩
 refine bV hA.handled (by rfl) (by rfl)<|aF<|aq<|aF<|aq<|bW ⟨rfl,t,h,dT,N,D,rfl,e1,e2,e3,e4,e5,e6,e7,by omega,e10,e11⟩
theorem Ed{cs:List Int}(hA:Room A 1)(hc:m "cells"=some (.lst (cs.map .int)))(h7:cs.length=7):
  Ex X A ai (ax L (LE pm L)) (LE pm L) m (bS 5) σ λF m' σ'=>F=.next∧σ'=σ∧∃o:UInt8,m'=m.upd "octet" (.bytes [o]):=by
 obtain⟨c,hc4⟩:=Dr (cs:=cs) (i:=4) (by omega)
 obtain⟨i,hi,e⟩:=rk c (n:=4) (by decide)
 obtain⟨o,ho⟩:=DI hi
 refine aE<|aC<|au<|eg hX.g_octets<|ak ⟨AX hX,aw (Ck hX.toBase7<|aK<|aC<|ap hc<|av<|dR (i:=4) (by rw[bB];omega) hc4<|av<|dW (by decide) ?_) hA⟩
 rw[show c.fmod 4=(i:Int) from e]
 exact dR (by decide) ho<|fD (by rfl) (by decide) (c:=L+2) (by rfl) ⟨gt _ _,.inr ⟨"octet",by rfl⟩⟩ ⟨rfl,rfl,o,rfl⟩
theorem D7:Ex X A ai (ax L (LE pm L)) (LE pm L) m (bS 6) σ λF m' σ'=>F=.next∧∃aW,σ aW=none∧aW≠1∧σ'=σ.set aW (.dict [])∧m'=m.upd "witness" (.ref aW):=
 aE (nR hX.toBase λa h1 h2=>aq ⟨rfl,a,h1,h2,rfl,rfl⟩)
end
theorem xi(hX:Base7 X)(F:NmF σ f d N)(hN:N.length<60000)(hl:N.lookup x=some b)(h:Q (.bytes b) σ):CallOk X 3 (.ref f) [.bytes x] σ Q:=
 w4 hX F hN hl λσ' o g=>by
  have:σ'=σ:=by
   funext y
   by_cases q:y=d
   ·rw[q,g.dict,F.dict]
   ·exact o y (by simpa using q)
  rw[this];exact h
theorem NmF.one(F:NmF σ f d N)(ha:σ a=some (.dict W))(hd:a≠d):NmF (σ.set a (.dict W')) f d N:=
 F.upd (db:=a) ha (λb hb=>eZ λe=>hb (by rw[e];simp)) (by rw[eZ (dL hd)];exact F.dict)
section
variable {X:Cx} {A:Around} {pm:Value} {L:Addr} {m:Mp} {σ:St} (hX:Base8 X)
include hX
theorem Ek(hA:Room A 207)(h1:m "told"=some (.ref dT))(h2:m "root"=some (.bytes h))(h3:m "octet"=some (.bytes [o]))(h4:m "name_of"=some (.ref f))(h5:m "witness"=some (.ref aW))
  (nmf:NmF σ f d N)(hT:σ dT=some (.dict D))(hT1:dT≠1)(hW:σ aW=some (.dict []))(hW1:aW≠1)(hd:aW≠d)(hdT:aW≠dT)(S:SOk N D)(ht:HT H t)(hz:H.length≤4)(hNz:N.length<60000)(hf:Full N D t h Ls):
  ExJ X A (ax L (LE pm L)) (LE pm L) m (bS 7) σ λF m' σ'=>F=.next∧(∀x:Str,x≠"node"→m' x=m x)∧∃W,σ'=σ.set aW (.dict W)∧WInv N D (wit N t (aA [o])) W:=by
 have hL:Ls=nodes N t:=hf.nodes
 have n1:=w0 (N:=N) ht
 have n2:=xl (N:=N) (q:=aA [o]) ht
 refine Dd (k:=207) (N:=L) hA (CJ (eg hX.g_gwp<|ad<|ap h1<|ad<|ap h2<|ad<|ap h3<|ak ⟨CQ hX.toBase2,Cr (Ey hX.toBase2 (n:=16) hT hT1 S.W.ok ht.wf (by decide) ht.short hf (by rw[hL];omega) (by simp) (by omega) ?_) hA⟩))
 refine vq ?_
 refine oj (wit N t (aA [o])).length (λdone m' σ'=>(∀x:Str,x≠"node"→m' x=m x)∧∃ds W,done=ds.map .bytes∧σ'=σ.set aW (.dict W)∧WInv N D ds W) _ [] m σ ⟨λ_ _=>rfl,[],[],rfl,?_,.nil⟩ (by simp) (λV hV done m1 σ1 hlt ⟨i1,ds,W,i2,i3,i4⟩=>?_) λm1 σ1 ⟨i1,ds,W,i2,i3,i4⟩=>⟨rfl,i1,W,i3,?_⟩
 ·funext b;unfold St.set;split
  ·rename_i e;rw[e];exact hW
  ·rfl
 ·obtain⟨x,hx,rfl⟩:=aP.mp hV
  subst i2 i3
  obtain⟨k,hk1,hk2⟩:=oh hf x (q9 x hx)
  have F1:=nmf.one (W':=W) hW hd
  have u:∀y:Str,y≠"node"→(m1.upd "node" (.bytes x)) y=m y:=λy hy=>(b9 hy).trans (i1 y hy)
  have nmc:∀{Q:AV→St→Prop},Q (.bytes k) (σ.set aW (.dict W))→cn X A ai (.ref f) [.bytes x] (σ.set aW (.dict W)) Q:=λhq=>aw (xi hX.toBase7 F1 hNz hk1 hq) hA.mo
  have hT':(σ.set aW (.dict W)) dT=some (.dict D):=by rw[eZ (dL hdT)];exact hT
  refine aq<|ag<|az<|ar<|cy (ap ((u "told" (by decide)).trans h1)<|uC hT' hT1<|ad<|au<|ap ((u "name_of" (by decide)).trans h4)<|ad<|ab (.bytes x)<|ak ⟨F1.keep,nmc<|ad<|dJ<|ak ⟨trivial,uy hT' hT1 ?_⟩⟩) (by rfl)
  rw[hk2]
  refine ab (.bytes x)<|ia ⟨_,rfl,?_⟩
  rw[show(x !=x)=false from by simp,ae aT]
  refine aB<|ag<|aE<|ab (.bytes x)<|ko (a:=aW) (k:=k)<|ap ((u "witness" (by decide)).trans h5) ⟨rfl,au<|ap ((u "name_of" (by decide)).trans h4)<|ad<|ab (.bytes x)<|ak ⟨F1.keep,nmc ⟨rfl,W,fQ,?_,aB ⟨rfl,trivial,λy hy=>u y hy,ds++[x],BD.put W k x,?_,kJ,i4.step S.W.ok hk1 hk2⟩⟩⟩⟩
  ·have:=i4.sz
   rw[bB] at hlt;omega
  ·rw[iV];rfl
 ·have:ds=wit N t (aA [o]):=by
   rw[cH] at i2
   exact(List.map_inj_right (λa b e=>AV.bytes.inj e)).mp i2.symm
  rw[←this];exact i4
end
end
section
open PySem.W.X PySem.SeqAt
theorem AC(h:Q (.bool false) σ):bh X A E (compareOp .Eq) (.bytes b) (.str x) σ Q:=λg s v u S r r'=>by
 unfold Rep at r r';obtain⟨t,rfl⟩:=r;obtain⟨t',rfl⟩:=r'
 exact rc_eq_decline_or (k:=false) (dS s _ t) (nH s x t') (by decide) PySem.F.sub_str_bytes PySem.W.FB.slot_bytes_eq PySem.F.slot_str_eq_refl
  (λ_ hq=>call_gives PySem.W.FB.slot_bytes_eq (dS s _ t) PySem.W.FB.entry_bytes_eq (PySem.W.FB.args_bytes_eq_2 _ _) (B4 x t' _ t) hq)
  (λ_ hq=>call_gives PySem.F.slot_str_eq_refl (nH s x t') PySem.F.entry_str_eq (PySem.F.args_str_eq_2 _ _) (Cd x t' _ t) hq)
  (λ_ hq=>bw (rfl:isSame (.bytes b.toArray t) (.str x t')=pure false) hq) (.inl rfl) (Post.here S .bool h)
structure Lw(z:Nat)(σ:St)(a dx f d aW aH:Addr)(r:By)(N W H:BD)(t:T)(q:By):Prop where
 tri:Tri z σ a dx f d aW r N W
 held:σ aH=some (.dict H)
 h1:aH≠1
 hd:aH≠d
 hW:aH≠aW
 ok:SOk N W
 hok:HOk H
 ne:H≠[]
 ht:HT H t
 ka:KA 16 N W t r q
 nm:Named N t r
 tb:∃ps,σ 447=some (.obj (cR ps))
structure Lm(m:Mp)(f aH a:Addr)(cs:List Int)(o:UInt8):Prop where
 f:m "name_of"=some (.ref f)
 h:m "held"=some (.ref aH)
 c:m "cells"=some (.lst (cs.map .int))
 o:m "octet"=some (.bytes [o])
 s:m "small"=some (.ref a)
def Es:Option (Option By)→AV
 |some o=>cz o
 |none=>.str "lacks"
section
variable {X:Cx} {A:Around} {pm:Value} {L:Addr} {m:Mp} {σ:St} (hX:Base8 X)
include hX
theorem CT(I:Lw z σ a dx f d aW aH r N W H t q)(hx:x.length=2)(hq:Q (Es (bz N W t (aA x))) σ):CallF X 38 (.ref 445) [.ref a,.bytes x] σ Q:=by
 cases hg:bz N W t (aA x) with
 |none=>rw[hg] at hq;exact BF hX.toBase6 I.tri I.ok.W.ok I.ok.d (n:=16) I.ht.wf (by decide) I.ht.short (by omega) I.nm hg hq
 |some o=>rw[hg] at hq;exact(vy hX.toBase6 I.tri I.ok.W.ok I.ok.d (n:=16) I.ht.wf (by decide) I.ht.short (by omega) I.nm hg hq).f
theorem EU(hA:Room A 3)(h2:m "root"=some (.bytes h))(h4:m "name_of"=some (.ref f))(h5:m "witness"=some (.ref aW))
  (nmf:NmF σ f d N)(hW:σ aW=some (.dict W))(hW1:aW≠1)(hd:aW≠d):
  Ex X A ai (ax L (LE pm L)) (LE pm L) m (bS 8) σ λF m' σ'=>F=.next∧∃a dx,m'=m.upd "small" (.ref a)∧σ a=none∧σ dx=none∧(∀b,b≠a→b≠dx→σ' b=σ b)∧Tri 3 σ' a dx f d aW h N W:=
 aE<|au<|eg hX.g_BT<|ad<|ap h5<|ad<|ap h4<|ad<|ap h2<|ak ⟨Dw hX.toBase5,DM hX.toBase5 hA nmf hW hW1 hd λa dx σ' e1 e2 e3 e4=>
  fD (by rfl) (by decide) (c:=L+3) (by rfl) ⟨gt _ _,.inr ⟨"small",by rfl⟩⟩ ⟨rfl,a,dx,rfl,e1,e2,e3,e4⟩⟩
end
end
section
open PySem.W.X
section
variable {X:Cx} {A:Around} {pm:Value} {L:Addr} {m:Mp} {σ:St} (hX:Base8 X)
include hX
set_option maxHeartbeats 1000000 in
theorem EJ(hA:Room A 40)(hfr:A.frames=some [LE pm L])(I:Lw z σ a dx f d aW aH r N W H t q)(M:Lm m f aH a cs o)(h1:m "witness"=some (.ref aW))(h2:m "told"=some (.ref dT))
  (hz:H.length≤4)(hT:σ dT=some (.dict D))(hT1:dT≠1)(hW1:aW≠1)(hN:N.length<60000)(hDz:D.length≤65536)(wi:WInv N D ys W)(hWz:W.length≤65536)(hf:Full N D t r Ls):
  Ex X A ai (ax L (LE pm L)) (LE pm L) m (bS 9) σ λF m' σ'=>F=.next∧σ'=σ∧(∀x:Str,x≠"key"→x≠"seen"→m' x=m x):=by
 have hu:A.units<cLine:=by have:=hA.units;omega
 refine rQ (k:=40) hA<|c7<|au<|eg hX.g_sorted<|ad<|ap M.h<|ak ⟨trivial,wV I.held I.h1 hA.handled (by omega) λLk hperm=>fS ?_⟩
 refine oj Lk.length (λ_ m' σ'=>σ'=σ∧(∀x:Str,x≠"key"→x≠"seen"→m' x=m x)) _ [] m σ ⟨rfl,λ_ _ _=>rfl⟩ (by simp) (λV hV done m1 σ1 _ ⟨i1,i2⟩=>?_) λm1 σ1 ⟨i1,i2⟩=>⟨rfl,i1,i2⟩
 obtain⟨k,hk,rfl⟩:=aP.mp hV
 subst i1
 obtain⟨v,hv⟩:=g8 (hperm.mem_iff.mp hk)
 have hk2:k.length=2:=I.hok.k2 _ (dY hv)
 have hv2:v≠[]∧v.length≤16:=I.hok.val _ (dY hv)
 have u:∀x:Str,x≠"key"→x≠"seen"→(m1.upd "key" (.bytes k)) x=m x:=λx a b=>(b9 a).trans (i2 x a b)
 refine fD (by rfl) (by decide) (c:=L+4) (by rfl) ⟨gt _ _,.inr ⟨"key",by rfl⟩⟩<|ag<|az<|ar<|nX (p:=k) (by rfl) (by omega)<|ap ((u "octet" (by decide) (by decide)).trans M.o)<|ia ⟨_,rfl,?_⟩
 split
 ·refine ag<|aE<|Cq (by rfl)<|eg hX.g_told<|ad<|ap ((u "small" (by decide) (by decide)).trans M.s)<|ad<|ab (.bytes k)<|ak ⟨uT hX.toBase6,BH ((CT hX I hk2 ?_)) hA.mo hfr⟩
  have hl:I.ht.look k hk2=I.ht.look k hk2:=rfl
  cases hg:bz N W t (aA k) with
  |none=>
   show As X A ai _ _ _ _ (.str "lacks") σ1 _
   obtain⟨x,hx,n1,n2,n3⟩:=rg I.nm hg
   obtain⟨h',e1,e2⟩:=oh hf x n1
   rw[n2] at e1;cases e1
   have hlt:W.length<D.length:=DQ wi.nd wi.sub n3 (by rw[e2];simp)
   refine aq<|ag<|az<|eY<|ar<|ab (.str "lacks")<|kN<|BR ⟨_,rfl,?_⟩
   rw[show(!(("lacks":Str)=="lacks"))=false from by decide,ae aT,ae aT]
   refine aB<|ag<|az<|eY<|ar<|ab (.str "lacks")<|kN<|BV ⟨_,rfl,?_⟩
   rw[show(("lacks":Str)=="lacks")=true from by decide,ah rfl]
   refine eY<|ar<|au<|eg hX.g_len<|ad<|ap (V:=.ref aW) ?_<|ak ⟨trivial,uH I.tri.dbt hW1 hWz<|au<|eg hX.g_len<|ad<|ap (V:=.ref dT) ?_<|ak ⟨trivial,uH hT hT1 hDz<|aU ⟨_,rfl,?_⟩⟩⟩
   ·exact(b9 (by decide)).trans ((u _ (by decide) (by decide)).trans h1)
   ·exact(b9 (by decide)).trans ((u _ (by decide) (by decide)).trans h2)
   ·rw[show(((W.length:Int))==(D.length:Int))=false from by rw[ba];omega,ae aT,ae aT]
    exact aB<|aB<|aB ⟨rfl,trivial,rfl,λx a b=>(b9 b).trans (u x a b)⟩
  |some oo=>
   have e:oo=some v:=by rw[qW I.ht.wf (by rw[eW,hk2]) hg,I.ht.look k hk2,hv]
   subst e
   obtain⟨hl,e1,e2⟩:=rh I.nm hg
   show As X A ai _ _ _ _ (.bytes v) σ1 _
   refine aq<|ag<|az<|eY<|ar<|ab (.bytes v)<|kN<|Ax ⟨_,rfl,?_⟩
   rw[ah rfl]
   refine eY<|cW<|ar<|ab (.bytes v)<|aC<|ap (V:=.ref aH) ?_<|ab (.bytes k)<|cg I.held hv<|ia ⟨_,rfl,?_⟩
   ·exact(b9 (by decide)).trans ((u _ (by decide) (by decide)).trans M.h)
   rw[show(v !=v)=false from by simp,ae aT]
   refine cW<|ar<|au<|ap (V:=.ref f) ?_<|ad<|aK<|da<|ab (.bytes v)<|cB (by simp;omega)<|ak ⟨I.tri.nm.keep,aw (xi hX.toBase7 I.tri.nm hN (b:=hl) e1<|ap (V:=.ref aW) ?_<|wW I.tri.dbt hW1 ⟨_,rfl,?_⟩) hA.mo⟩
   ·exact(b9 (by decide)).trans ((u _ (by decide) (by decide)).trans M.f)
   ·exact(b9 (by decide)).trans ((u _ (by decide) (by decide)).trans h1)
   rw[e2,show(!true)=false from rfl,ae aT]
   refine ie ?_
   rw[ae aT,ae aT]
   refine aB<|ag<|az<|eY<|ar<|ab (.bytes v)<|kN<|AC ⟨_,rfl,?_⟩
   rw[ae aT,ae aT]
   exact aB<|aB<|aB ⟨rfl,trivial,rfl,λx a b=>(b9 b).trans (u x a b)⟩
 ·exact aB<|aB ⟨rfl,trivial,rfl,λx a b=>u x a b⟩
end
def yG:Expr→Scope
 |.ListComp _ _ s _=>s
 |_=>default
def zi:Stmt→Expr×Expr
 |.If (.Compare l _ [r] _) _ _ _=>(l,r)
 |_=>(.Name "" default,.Name "" default)
def FZ:Scope:=yG (zi (bS 10)).1
def tU:Scope:=yG (zi (bS 10)).2
theorem yd(a b:By):aA (a++b)=aA a++aA b:=by
 induction a with
 |nil=>rfl
 |cons c a ih=>rw[mT,nO,nO,ih,gZ]
theorem uW(ht:HT H t)(ka:KA 16 N W t r (aA [o]))(he:e.length=1):bz N W t (aA ([o]++e))=some (H.lookup ([o]++e)):=by
 have hl:([o]++e).length=2:=by rw[bg,he];rfl
 have h16:(aA ([o]++e)).length=16:=by rw[eW,hl]
 rw[rR ht.wf h16 (ka _ h16 (eT _) (by rw[yd,iX])),ht.look _ hl]
def wk(H:BD)(o:UInt8):List (Option By):=FE.map λe=>H.lookup ([o]++e)
def wl(H:BD)(o:UInt8):AV→AV
 |.bytes e=>cz (H.lookup ([o]++e))
 |V=>V
theorem yj(H:BD)(o:UInt8):((FE.map AV.bytes).filter λ_=>true).map (wl H o)=(wk H o).map cz:=by rfl
theorem yz:∀e∈FE,e.length=1:=by decide
section
variable {X:Cx} {A:Around} {pm:Value} {L:Addr} {m:Mp} {σ:St} (hX:Base8 X)
include hX
theorem x9(hA:Room A 40)(I:Lw z σ a dx f d aW aH r N W H t (aA [o]))(M:Lm m f aH a cs o)(hq:Q (.lst ((wk H o).map cz)) σ):
  Ev X A ai (LE pm L) m (.ListComp (.Call (.Name "_law_told" p1) [.Name "small" p2,.BinOp (.Name "octet" p3) .Add (.Name "end" p4) p5] [] p6) [⟨.Name "end" p7,.Call (.Name "_law_ends" p8) [] [] p9,[],0⟩] FZ p10) σ Q:=by
 refine fM (k:=3) (λD env=>T1 D env _) (λC env=>J1 X A env _) hA.mo (λC D it=>fc) (λD C hDC hD=>eJ hD) (by rfl) (by rfl) (by decide) (by decide)
  <|c7<|au<|eg hX.g_ends<|ak ⟨qU hX,aw (rB hX.toBase7<|fS λC=>dH (λm2=>m2 "small"=some (.ref a)∧m2 "octet"=some (.bytes [o])) (λ_=>true) (wl H o) trivial _ _ [] (λV hV m2 ⟨g1,g2⟩=>?_) (by decide) ⟨M.s,M.o⟩ λm2 _=>?_) hA.mo⟩
 ·obtain⟨e,he,rfl⟩:=aP.mp hV
  have hl:=yz e he
  exact aq ⟨rfl,rfl,rfl,⟨g1,g2⟩,λ_=>au<|eg hX.g_told<|ad<|ap (V:=.ref a) g1<|ad<|aK<|ap (V:=.bytes [o]) g2<|ab (.bytes e)<|cB (by rw[hl];simp)<|ak ⟨uT hX.toBase6,
   aw (vy hX.toBase6 I.tri I.ok.W.ok I.ok.d (n:=16) I.ht.wf (by decide) I.ht.short (by rw[bg,hl];simp) I.nm (uW I.ht I.ka hl) ⟨rfl,rfl⟩) hA.mo⟩⟩
 ·rw[cH,yj];exact hq
theorem xO(hA:Room A 40)(I:Lw z σ a dx f d aW aH r N W H t (aA [o]))(M:Lm m f aH a cs o)(hq:Q (.lst ((wk H o).map cz)) σ)
  (he:∀C,∃pl:Sem Bool,eval (.Call (.Attribute (.Name "held" p1) "get" p2) [.BinOp (.Name "octet" p3) .Add (.Name "end" p4) p5,.Constant .none 0 p6] [] p7) (aS tU C (LE pm L))=(do let ov ←eval (.Name "held" p1) (aS tU C (LE pm L));standAt p2.atName;let (f,first) ←holding [ov] (getMethod ov "get" pl);callWith p7 f first (backTo p7 (starEach [.BinOp (.Name "octet" p3) .Add (.Name "end" p4) p5,.Constant .none 0 p6] (aS tU C (LE pm L)))) [])):
  Ev X A ai (LE pm L) m (.ListComp (.Call (.Attribute (.Name "held" p1) "get" p2) [.BinOp (.Name "octet" p3) .Add (.Name "end" p4) p5,.Constant .none 0 p6] [] p7) [⟨.Name "end" p8,.Call (.Name "_law_ends" p9) [] [] p10,[],0⟩] tU p11) σ Q:=by
 refine fM (k:=3) (λD env=>T1 D env _) (λC env=>J1 X A env _) hA.mo (λC D it=>fc) (λD C hDC hD=>eJ hD) (by rfl) (by rfl) (by decide) (by decide)
  <|c7<|au<|eg hX.g_ends<|ak ⟨qU hX,aw (rB hX.toBase7<|fS λC=>dH (λm2=>m2 "held"=some (.ref aH)∧m2 "octet"=some (.bytes [o])) (λ_=>true) (wl H o) trivial _ _ [] (λV hV m2 ⟨g1,g2⟩=>?_) (by decide) ⟨M.h,M.o⟩ λm2 _=>?_) hA.mo⟩
 ·obtain⟨e,hem,rfl⟩:=aP.mp hV
  have hl:=yz e hem
  obtain⟨pl,hpl⟩:=he C
  refine aq ⟨rfl,rfl,rfl,⟨g1,g2⟩,λ_=>cy (ap (V:=.ref aH) g1<|uC I.held I.h1<|ad<|aK<|ap (V:=.bytes [o]) g2<|ab (.bytes e)<|cB (by rw[hl];simp)<|ad<|dJ<|ak ⟨trivial,uy I.held I.h1 ⟨rfl,?_⟩⟩) hpl⟩
  show _=cz (H.lookup ([o]++e))
  cases H.lookup ([o]++e)<;>rfl
 ·rw[cH,yj];exact hq
theorem C9(hA:Room A 40)(I:Lw z σ a dx f d aW aH r N W H t (aA [o]))(M:Lm m f aH a cs o):
  Ex X A ai (ax L (LE pm L)) (LE pm L) m (bS 10) σ λF m' σ'=>F=.next∧σ'=σ∧m'=m:=
 az<|ar<|x9 hX hA I M<|xO hX hA I M (CL (by have:=hA.units;omega) ⟨_,rfl,aB ⟨rfl,rfl,rfl⟩⟩) λC=>⟨_,by rfl⟩
end
theorem Tri.re(T:Tri z σ a dx f d db r N D)(nm:NmF σ' f d N')(h:∀b,σ b≠none→b≠x→σ' b=σ b)(hx:σ x=some (.dict l))(hxb:x≠db):Tri z σ' a dx f d db r N' D:=by
 obtain⟨⟨li,I,r1⟩,_,hd,h1,ne⟩:=T
 have kp:∀{b:Addr} {t:Trk},σ b=some t→(∀l,t≠.dict l)→σ' b=some t:=λ{b t} e ht=>by
  rw[h b (by rw[e];simp) λq=>by rw[q,hx] at e;cases e;exact ht _ rfl,e]
 exact⟨⟨li,⟨kp I.obj (λ_=>nofun),kp I.ns (λ_=>nofun)⟩,r1⟩,nm,by rw[h db (by rw[hd];simp) (dL hxb)];exact hd,h1,ne⟩
theorem Lw.key(I:Lw z σ a dx f d aW aH r N W H t q):aH≠dx:=λe=>by
 obtain⟨⟨li,II,_⟩,_⟩:=I.tri
 have:=II.ns;rw[←e,I.held] at this;cases this
theorem KA.named(k:KA n N D t h q)(hp:p.length=n)(hb:aQ p)(hq:p.take q.length=q):Named N t h:=(k p hp hb hq).named
theorem Lw.deed(I:Lw z σ a dx f d aW aH r N W H t q)(hp:p.length=16)(hb:aQ p)(hq:p.take q.length=q)(hH:HOk H1)(hne:H1≠[])(ht:HT H1 t')
  (De:Deed z a dx f d aW 16 N W q t' c (σ.set aH (.dict H1)) σ' r' N' W'):Lw (z+1) σ' a dx f d aW aH r' N' W' H1 t' q:=
 ⟨De.tri,by rw[De.only aH (by simp only[bv,fL,fU,not_or];exact⟨I.hd,I.hW,I.key⟩)];exact fQ,I.h1,I.hd,I.hW,De.ok,hH,hne,ht,De.ka,De.ka.named hp hb hq,by
  obtain⟨ps,e⟩:=I.tb
  obtain⟨⟨li,II,_⟩,nm,db,_⟩:=I.tri
  refine⟨ps,?_⟩
  rw[De.only 447 ?_,eZ λq=>by rw[q,I.held] at e;cases e];exact e
  simp only[bv,fL,fU,not_or]
  exact⟨λq=>(by rw[q,nm.dict] at e;cases e),λq=>(by rw[q,db] at e;cases e),λq=>(by rw[q,II.ns] at e;cases e)⟩⟩
theorem Lw.tri1(I:Lw z σ a dx f d aW aH r N W H t q):Tri z (σ.set aH (.dict H1)) a dx f d aW r N W:=
 I.tri.re (I.tri.nm.one I.held I.hd) (λb _ hb=>eZ hb) I.held I.hW
theorem Lw.put(I:Lw z σ a dx f d aW aH r N W H t q):σ.set aH (.dict H)=σ:=by
 funext b;unfold St.set;split
 ·rename_i e;rw[e];exact I.held.symm
 ·rfl
def Dm:Stmt→List Stmt
 |.For _ _ b _ _=>b
 |_=>[]
def iE(i:Nat):Stmt:=((Dm (bS 11))[i]?).getD (.Pass default)
theorem n5(o e:UInt8):(aA [o,e]).take (aA [o]).length=aA [o]:=by
 rw[show([o,e]:By)=[o]++[e] from rfl,yd,iX]
theorem Cs(h:H.lookup k=none):BD.del H k=H:=by
 unfold BD.del
 refine List.filter_eq_self.mpr λp hp=>?_
 rw[g6]
 intro e
 exact mR h (by rw[←e];exact aP.mpr ⟨p,hp,rfl⟩)
theorem Dt:(BD.del H k).length≤H.length:=List.length_filter_le _ _
def rZ(o e:UInt8):AV→Bool
 |.bytes k=>(k.take 1==[o])&&(k !=[o,e])
 |_=>false
structure Nx(B k:Nat)(N W H:BD):Prop where
 n:N.length≤B
 w:W.length≤B
 h:H.length≤k
section
variable {X:Cx} {A:Around} {pm:Value} {L:Addr} {m:Mp} {σ:St} (hX:Base8 X)
include hX
theorem EK(hA:Room A 1)(M:Lm m f aH a cs o)(hc:m "cell"=some (.int c)):
  Ex X A ai (ax L (LE pm L)) (LE pm L) m (iE 0) σ λF m' σ'=>F=.next∧σ'=σ∧∃e:UInt8,m'=m.upd "key" (.bytes [o,e]):=by
 obtain⟨i,hi,e⟩:=rk c (n:=4) (by decide)
 obtain⟨y,ho⟩:=Do hi
 refine aE<|aK<|ap M.o<|aC<|au<|eg hX.g_ends<|ak ⟨qU hX,aw (rB hX.toBase7<|aK<|ap hc<|av<|dW (by decide) ?_) hA⟩
 rw[show c.fmod 4=(i:Int) from e]
 exact dR (by decide) ho<|cB (by simp)<|fD (by rfl) (by decide) (c:=L+4) (by rfl) ⟨gt _ _,.inr ⟨"key",by rfl⟩⟩ ⟨rfl,rfl,y,rfl⟩
set_option maxHeartbeats 1000000 in
theorem DZ(hA:Room A 60)(I:Lw z σ a dx f d aW aH r N W H t (aA [o]))(M:Lm m f aH a cs o)(hc:m "cell"=some (.int c))(hk:m "key"=some (.bytes [o,e]))(b:Nx B n N W H)(hB:B≤50000)(hn:n≤60)(hz:z≤40):
  Ex X A ai (ax L (LE pm L)) (LE pm L) m (iE 1) σ λF m' σ'=>F=.next∧m'=m∧∃z' N' W' H' t' r',z'≤z+1∧Lw z' σ' a dx f d aW aH r' N' W' H' t' (aA [o])∧Nx (B+102) (n+1) N' W' H':=by
 have h16:(aA [o,e]).length=16:=by rw[eW];rfl
 have hu:A.units<cLine:=by have:=hA.units;omega
 have b1:=b.n
 have b2:=b.w
 have b3:=b.h
 refine az<|ar<|aK<|aK<|ap hc<|av<|ny (by decide) (by decide)<|av<|dW (by decide)<|av<|uY ⟨_,rfl,?_⟩
 split
 ·refine ag<|aE<|y0 hX (b:=97) (n:=26) hA.handled (by decide) (by decide) (by decide)<|aK<|ap hc<|av<|ny (by decide) (by decide) ⟨rfl,λv hv hv2=>?_⟩
  refine ko (a:=aH) (k:=[o,e])<|ap M.h ⟨rfl,ap hk ⟨rfl,H,I.held,by omega,?_⟩⟩
  obtain⟨t',hu',ht'⟩:=I.ht.put (k:=[o,e]) rfl hv hv2
  refine ag<|cV<|cy (ap M.s<|cD hX.toBase5 I.tri1 (by simp[b8])<|ad<|ap hk<|ad<|aC<|ap M.h<|ap hk<|cg fQ BD.put_get<|ak ⟨hX.m_set.keep,aw (EM hX.toBase5 (n:=16) (c:=60000 - 102 - B) (q:=aA [o]) (by simp) ⟨I.ht.wf,by decide,I.ht.short,h16,eT _,hv2,I.ka,n5 o e,λh=>absurd h hv⟩
   ⟨I.tri1,I.ok,.refl,by omega,by omega⟩ hz hu' λσ' N' W' r' De=>?_) hA.mo⟩) (by rfl)
  have d1:=De.n
  have d2:=De.m
  refine aB ⟨rfl,rfl,z+1,N',W',H.put [o,e] v,t',r',aG _,I.deed h16 (eT _) (n5 o e) (I.hok.put rfl ⟨hv,hv2⟩) ?_ ht' De,by omega,by omega,eQ (kq H) (by omega)⟩
  cases H with
  |nil=>simp[BD.put]
  |cons p H=>unfold BD.put;split<;>simp
 ·refine ag<|az<|ar<|Dg (a:=aH) (l:=H)<|fM (k:=3) (λD env=>T1 D env _) (λC env=>J1 X A env _) hA.mo (λC D it=>fc) (λD C hDC hD=>eJ hD) (by rfl) (by rfl) (by decide) (by decide)
   <|c7<|ap M.h<|C0 I.held I.h1 λoo hoo=>λC=>dH (Dep:=λσ σ':St=>σ' aH=σ aH) (λm2=>m2 "octet"=some (.bytes [o])∧m2 "key"=some (.bytes [o,e])) (rZ o e) id rfl _ _ [] (λV hV m2 ⟨g1,g2⟩=>?_) ?_ ⟨M.o,hk⟩ λm2 _=>?_
  ·obtain⟨k1,hk1,rfl⟩:=aP.mp hV
   obtain⟨v1,hv1⟩:=g8 hk1
   have hl2:k1.length=2:=I.hok.k2 _ (dY hv1)
   refine aq ⟨rfl,?_⟩
   refine eY<|ar<|nX (p:=k1) (by rfl) (by omega)<|ap (V:=.bytes [o]) g1<|bJ ⟨_,rfl,?_⟩
   by_cases q:(k1.take 1==[o])=true
   ·rw[ah q]
    refine eY<|ar<|ab (.bytes k1)<|ap (V:=.bytes [o,e]) g2<|ia ⟨_,rfl,?_⟩
    have e1:rZ o e (.bytes k1)=(k1 !=[o,e]):=by show(_&&_)=_;rw[q,Bool.true_and]
    by_cases q2:(k1 !=[o,e])=true
    ·rw[ah q2];exact uK ⟨rfl,by rw[e1,q2],⟨g1,g2⟩,λ_=>ab (.bytes k1) ⟨rfl,rfl⟩⟩
    ·rw[ae q2];exact⟨rfl,by rw[e1,Bool.eq_false_iff.mpr q2],⟨g1,g2⟩,λ_=>ab (.bytes k1) ⟨rfl,rfl⟩⟩
   ·rw[ae q];exact⟨rfl,by show false=(_&&_);rw[Bool.eq_false_iff.mpr q,qs],⟨g1,g2⟩,λ_=>ab (.bytes k1) ⟨rfl,rfl⟩⟩
  ·rw[bB,bB];show 0+_≤_;omega
  refine⟨⟨oo,fQ,hoo⟩,?_⟩
  rw[kJ,I.put,cH,List.map_id]
  refine fV<|ak ⟨by rw[bn];exact cU rfl,Ba hu ⟨_,rfl,?_⟩⟩
  split
  ·rename_i hne
   obtain⟨one,h1,hq1,hq2⟩:∃one,one∈H.map (·.1)∧one.take 1=[o]∧one≠[o,e]:=by
    cases hf:((H.map (·.1)).map AV.bytes).filter (rZ o e) with
    |nil=>rw[hf] at hne;cases hne
    |cons V l=>
     have hV:V∈((H.map (·.1)).map AV.bytes).filter (rZ o e):=by rw[hf];exact bj
     obtain⟨h1,h2⟩:=qp.mp hV
     obtain⟨k1,h3,rfl⟩:=aP.mp h1
     have h2:((k1.take 1==[o])&&(k1 !=[o,e]))=true:=h2
     rw[fq,bd,jb] at h2
     exact⟨k1,h3,h2.1,h2.2⟩
   obtain⟨v1,hv1⟩:=g8 h1
   have ho2:one.length=2:=I.hok.k2 _ (dY hv1)
   have hopre:(aA one).take (aA [o]).length=aA [o]:=by
    match one,ho2,hq1 with
    |[x,y],_,hq1=>rw[show x=o from by simpa using hq1];exact n5 o y
   have hSP:SPre 16 N W t r (aA [o,e]) [] (aA [o]):=⟨I.ht.wf,by decide,I.ht.short,h16,eT _,by decide,I.ka,n5 o e,λ_=>.inr ⟨aA one,by rw[eW,ho2],eT _,λq=>hq2 (nW ho2 rfl q),hopre,by rw[I.ht.look _ ho2,hv1];simp⟩⟩
   have hup:=hSP.some_ (by intro q;have:=dl List.length q;rw[eW] at this;cases this)
   obtain⟨t',hu'⟩:=Option.ne_none_iff_exists'.mp hup
   have ht':=I.ht.del (k:=[o,e]) rfl hu'
   have hne':BD.del H [o,e]≠[]:=λq=>by
    have:=xD (H:=H) (k:=[o,e]) (x:=one)
    rw[ae hq2,hv1,q] at this;cases this
   have pop:∀{Q:AV→St→Prop},(∀V,Q V (σ.set aH (.dict (BD.del H [o,e]))))→cn X A ai (.blt "dict.pop") [.ref aH,.bytes [o,e],.none] σ Q:=λ{Q} hQ=>zZ I.held I.h1 (by omega) (by
    cases hl:H.lookup [o,e] with
    |some b=>exact hQ _
    |none=>have:=hQ .none;rw[Cs hl,I.put] at this;exact this)
   refine ag<|cV<|cy (ap M.h<|Al I.held I.h1<|ad<|ap hk<|ad<|dJ<|ak ⟨trivial,pop λ_=>?_⟩) (by rfl)
   refine ag<|cV<|cy (ap M.s<|cD hX.toBase5 I.tri1 (by simp[b8])<|ad<|ap hk<|ak ⟨hX.m_delete.keep,aw (B3 hX.toBase5 (n:=16) (c:=60000 - 102 - B) (q:=aA [o]) (by simp) hSP
    ⟨I.tri1,I.ok,.refl,by omega,by omega⟩ hz hu' λσ' N' W' r' De=>?_) hA.mo⟩) (by rfl)
   have d1:=De.n
   have d2:=De.m
   exact aB<|aB ⟨rfl,rfl,z+1,N',W',BD.del H [o,e],t',r',aG _,I.deed h16 (eT _) (n5 o e) I.hok.del hne' ht' De,by omega,by omega,eQ Dt (by omega)⟩
  ·exact aB<|aB ⟨rfl,rfl,z,N,W,H,t,r,eS _,I,by omega,by omega,by omega⟩
end
theorem DF(hV:V=cz o)(h:Q (.bool false) σ):bh X A ai (compareOp .NotEq) (cz o) V σ Q:=by
 subst hV
 cases o with
 |none=>exact Bp h
 |some b=>exact ia (by rw[show(b !=b)=false from by simp];exact h)
theorem DG:(match o with|some b=>AV.bytes b|none=>.none)=cz o:=by cases o<;>rfl
theorem Lm.same{m m':Mp}{f aH a:Addr}{cs:List Int}{o:UInt8}(M:Lm m f aH a cs o)(h:∀x:Str,x≠"cell"→x≠"key"→m' x=m x):Lm m' f aH a cs o:=
 ⟨(h _ (by decide) (by decide)).trans M.f,(h _ (by decide) (by decide)).trans M.h,(h _ (by decide) (by decide)).trans M.c,(h _ (by decide) (by decide)).trans M.o,(h _ (by decide) (by decide)).trans M.s⟩
section
variable {X:Cx} {A:Around} {pm:Value} {L:Addr} {m:Mp} {σ:St} (hX:Base8 X)
include hX
theorem Eu(hA:Room A 60)(I:Lw z σ a dx f d aW aH r N W H t q)(M:Lm m f aH a cs o)(b:Nx B n N W H)(hB:B≤40000)(hn:n≤8):
  Ex X A ai (ax L (LE pm L)) (LE pm L) m (iE 2) σ λF m' σ'=>F=.next∧m'=m∧∃N',Lw z σ' a dx f d aW aH r N' W H t q∧N'.length≤B+200:=by
 have b1:=b.n
 have b3:=b.h
 obtain⟨li,II,i1,i2,i3,i4,i5⟩:=I.tri.i
 refine az<|ar<|rE (xv:="small") hX.toBase4 II M.s (by simp[atts]) i4 (λ_ _ r=>xF r)<|aC<|au<|eg hX.g_tree<|ad<|ap M.h<|ad<|ap M.f<|ak ⟨xZ hX.toBase7,
  aw (yK hX.toBase7 I.tri.nm I.ok.W I.held I.h1 I.hok I.ne (by omega) (c:=50000 - 200 - B) (by omega) I.hd λt2 h2 dT σ' N' D' e1 e2 e3 e4 e5 e6 e7 e8 e9 e10 ⟨Lf,e11⟩=>av<|uJ (i:=0) (by simp) (by rfl)<|ia ⟨_,rfl,?_⟩) hA.mo⟩
 have et:t2=t:=e3.unique I.ht
 subst et
 have eh:r=h2:=(I.nm.mono e8).fn e11.named
 subst eh
 rw[show(r !=r)=false from by simp,ae aT]
 exact aB ⟨rfl,rfl,N',⟨I.tri.re e5 e4 I.tri.nm.dict (dL I.tri.ne),by rw[e4 aH (by rw[I.held];simp) I.hd];exact I.held,I.h1,I.hd,I.hW,⟨e7.W,λh x e=>e8 _ _ (I.ok.d h x e)⟩,I.hok,I.ne,I.ht,I.ka.mono e8 (BD.Sub.refl W),I.nm.mono e8,by
  obtain⟨ps,e⟩:=I.tb
  exact⟨ps,by rw[e4 447 (by rw[e];simp) λq=>by rw[q,I.tri.nm.dict] at e;cases e];exact e⟩⟩,by omega⟩
theorem EF(hA:Room A 60)(I:Lw z σ a dx f d aW aH r N W H t (aA [o]))(M:Lm m f aH a cs o)(hk:m "key"=some (.bytes [o,e])):
  Ex X A ai (ax L (LE pm L)) (LE pm L) m (iE 3) σ λF m' σ'=>F=.next∧m'=m∧σ'=σ:=by
 refine az<|ar<|au<|eg hX.g_told<|ad<|ap M.s<|ad<|ap hk<|ak ⟨uT hX.toBase6,aw (vy hX.toBase6 I.tri I.ok.W.ok I.ok.d (n:=16) I.ht.wf (by decide) I.ht.short (by simp) I.nm (uW I.ht I.ka (e:=[e]) rfl)
  <|cy (ap M.h<|uC I.held I.h1<|ad<|ap hk<|ad<|dJ<|ak ⟨trivial,uy I.held I.h1<|DF DG ⟨_,rfl,aB ⟨rfl,rfl,rfl⟩⟩⟩) (by rfl)) hA.mo⟩
theorem Dq(hA:Room A 60)(I:Lw 3 σ a dx f d aW aH r N W H t (aA [o]))(M:Lm m f aH a cs o)(h7:cs.length=7)(b:Nx 2000 4 N W H):
  Ex X A ai (ax L (LE pm L)) (LE pm L) m (bS 11) σ λF m' σ'=>F=.next∧Lm m' f aH a cs o∧∃z N W H t r,Lw z σ' a dx f d aW aH r N W H t (aA [o]):=by
 have hc:∀{α:Type} (l:List α),bX (some (5:Int)) none l=l.drop 5:=λl=>dp 5
 refine rQ (k:=60) hA<|c7<|aC<|ap M.c<|bP<|av ⟨_,rfl,ib (by rw[bB];omega)<|fS ?_⟩
 rw[hc,←List.map_drop]
 refine oj 2 (λdone m' σ'=>(∀x:Str,x≠"cell"→x≠"key"→m' x=m x)∧∃z N W H t r,z≤3+done.length∧Lw z σ' a dx f d aW aH r N W H t (aA [o])∧Nx (2000+400 * done.length) (4+done.length) N W H) _ [] m σ ⟨λ_ _ _=>rfl,3,N,W,H,t,r,aG _,I,b⟩ (by simp;omega) (λV hV done m1 σ1 hlt ⟨i1,z1,N1,W1,H1,t1,r1,i2,I1,b1⟩=>?_)
  λm1 σ1 ⟨i1,z1,N1,W1,H1,t1,r1,i2,I1,b1⟩=>⟨rfl,M.same i1,z1,N1,W1,H1,t1,r1,I1⟩
 obtain⟨c,_,rfl⟩:=aP.mp hV
 have M1:Lm (m1.upd "cell" (.int c)) f aH a cs o:=M.same λx h1 h2=>(b9 h1).trans (i1 x h1 h2)
 refine aq<|ag (st:=iE 0)<|(EK hX hA.mo M1 (by rfl)).mono λF m2 σ2 ⟨e1,e2,e,e3⟩=>?_
 subst e1 e2 e3
 have u:∀x:Str,x≠"cell"→x≠"key"→((m1.upd "cell" (.int c)).upd "key" (.bytes [o,e])) x=m x:=λx h1 h2=>(b9 h2).trans ((b9 h1).trans (i1 x h1 h2))
 have M2:=M.same u
 have c1:((m1.upd "cell" (.int c)).upd "key" (.bytes [o,e])) "cell"=some (.int c):=(b9 (by decide)).trans (by rfl)
 refine ag (st:=iE 1)<|(DZ hX hA I1 M2 c1 (by rfl) b1 (by omega) (by omega) (by omega)).mono λF m3 σ3 ⟨e1,e2,z2,N2,W2,H2,t2,r2,hz2,I2,b2⟩=>?_
 subst e1 e2
 refine ag (st:=iE 2)<|(Eu hX hA I2 M2 b2 (by omega) (by omega)).mono λF m4 σ4 ⟨e1,e2,N3,I3,b3⟩=>?_
 subst e1 e2
 refine ag (st:=iE 3)<|(EF hX hA I3 M2 (by rfl)).mono λF m5 σ5 ⟨e1,e2,e3⟩=>?_
 subst e1 e2 e3
 have:=b2.w
 have:=b2.h
 have hl:(done++[AV.int c]).length=done.length+1:=by rw[bg];rfl
 exact aB ⟨rfl,trivial,u,z2,N3,W2,H2,t2,r2,by rw[hl];omega,I3,by rw[hl];omega,by rw[hl];omega,by rw[hl];omega⟩
theorem Df(hA:Room A 1)(M:Lm m f aH a cs o):
  Ex X A ai (ax L (LE pm L)) (LE pm L) m (bS 12) σ λF m' σ'=>F=.next∧σ'=σ∧m'=m.upd "last" (.bytes [o,255]):=
 aE<|aK<|ap M.o<|aC<|au<|eg hX.g_ends<|ak ⟨qU hX,aw (rB hX.toBase7<|av<|dR (i:=3) (by decide) (by rfl)<|cB (by simp)<|aq ⟨rfl,rfl,rfl⟩) hA⟩
theorem Dx(hA:Room A 60)(I:Lw z σ a dx f d aW aH r N W H t (aA [o]))(M:Lm m f aH a cs o)(hl:m "last"=some (.bytes [o,255])):
  Ex X A ai (ax L (LE pm L)) (LE pm L) m (bS 13) σ λF m' σ'=>F=.ret (.bool true)∧σ'=σ:=by
 refine aZ<|DR<|rL<|x9 hX hA.mo I M<|xO hX hA.mo I M (CI (by have:=hA.units;omega)<|kb ?_) λC=>⟨_,by rfl⟩
 rw[ah rfl]
 refine BC<|rL<|cy (ap M.s<|cD hX.toBase5 I.tri (by simp[b8])<|ad<|ap hl<|ak ⟨hX.m_exists.keep,aw (Ca hX.toBase5 I.tri I.ok.W.ok I.ok.d (n:=16) I.ht.wf (by decide) I.ht.short (by simp) I.nm (uW I.ht I.ka (e:=[255]) rfl)
  <|rL<|ap hl<|ap M.h<|i8 I.held I.h1<|Bb ?_) hA.mo⟩) (by rfl)
 rw[show((H.lookup ([o]++[255])).isSome==(H.lookup [o,255]).isSome)=true from by rw[bd];rfl]
 exact⟨rfl,rfl⟩
end
theorem ExJ.mono{X:Cx}{A:Around}{P:Pv}{env:Env}{m:Mp}{σ:St}{st:Stmt}{Q Q':AFl→Mp→St→Prop}(h:ExJ X A P env m st σ Q)(k:∀F m σ',Q F m σ'→Q' F m σ'):ExJ X A P env m st σ Q':=λg s S F=>
 dG (h g s S F) (λ_ _ ⟨g',Fl,m',σ',G,F',r,q⟩=>⟨g',Fl,m',σ',G,F',r,k _ _ _ q⟩) i2
set_option maxHeartbeats 2000000 in
theorem CE{X:Cx}(hX:Base8 X){A:Around}{pm:Value}{L f d:Addr}{σ:St}{sc:List Int}(hz:sc.length≤63)(hA:Room A 240)(hfr:A.frames=some [LE pm L])(nmf:NmF σ f d [])(tb:∃ps,σ 447=some (.obj (cR ps))):
  ExsJ X A (ax L (LE pm L)) (LE pm L) ((Mp.nil.upd "script" (.lst (sc.map .int))).upd "name_of" (.ref f)) oB σ λFl _ σ'=>match Fl with|.ret V=>V=.bool true∧∃ps,σ' 447=some (.obj (cR ps))|.next=>AV.none=.bool true∧∃ps,σ' 447=some (.obj (cR ps))|_=>False:=by
 refine dk (st:=bS 0) (rest:=oB.drop 1)<|ExJ.of<|(Er hX).mono λF m1 σ1 ⟨e1,e2,e3⟩=>?_
 subst e1 e2 e3
 refine dk (st:=bS 1) (rest:=oB.drop 2)<|ExJ.of<|(EV hX (sc:=sc) (by rfl) (by rfl) hz).mono λF m1 σ2 ⟨e1,e2,cs,h7,e3⟩=>?_
 subst e1 e2
 have mf:m1 "name_of"=some (.ref f):=by rw[e3];rfl
 have mc:m1 "cells"=some (.lst (cs.map .int)):=by rw[e3];rfl
 clear e3
 refine dk (st:=bS 2) (rest:=oB.drop 3)<|ExJ.of<|(EQ hX).mono λF m2 σ1 ⟨e1,aH,aH0,aH1,e2,e3⟩=>?_
 subst e1 e2 e3
 have hHd:aH≠d:=λe=>by rw[e,nmf.dict] at aH0;cases aH0
 refine dk (st:=bS 3) (rest:=oB.drop 4)<|ExJ.of<|(D6 hX (cs:=cs) (aH:=aH) hA.handled hA.mo ((b9 (by decide)).trans mc) h7 (by rfl) fQ).mono λF m3 σ1 ⟨e1,i3,H,e2,hH,hne,hH4⟩=>?_
 subst e1 e2
 have n2:NmF ((σ2.set aH (.dict [])).set aH (.dict H)) f d []:=nmf.old λb hb=>by
  have:b≠aH:=λe=>hb (by rw[e];exact aH0)
  rw[kJ,eZ this]
 have u3:∀x:Str,x≠"cell"→x≠"held"→m3 x=m1 x:=λx h1 h2=>(i3 x h1).trans (b9 h2)
 have mh:m3 "held"=some (.ref aH):=(i3 _ (by decide)).trans (by rfl)
 generalize hs3:(σ2.set aH (.dict [])).set aH (.dict H)=σ3 at n2
 have hH3:σ3 aH=some (.dict H):=by rw[←hs3];exact fQ
 refine dk (st:=bS 4) (rest:=oB.drop 5)<|ExJ.of<|(Ew hX hA.mo mh ((u3 _ (by decide) (by decide)).trans mf) n2 hH3 aH1 hHd hH hne hH4).mono λF m4 σ4 ⟨e1,t,h,dT,N,D,e2,dT0,dT1,ht,k4,n4,hT4,S,hN,hD,Ls,hf⟩=>?_
 subst e1
 have u4:∀x:Str,x≠"root"→x≠"told"→m4 x=m3 x:=λx h1 h2=>by rw[e2];exact(b9 h2).trans (b9 h1)
 have mr:m4 "root"=some (.bytes h):=by rw[e2];rfl
 have mt:m4 "told"=some (.ref dT):=by rw[e2];rfl
 clear e2
 have hH4':σ4 aH=some (.dict H):=by rw[k4 aH (by rw[hH3];simp) hHd];exact hH3
 have hTd:dT≠d:=λe=>by rw[e,n2.dict] at dT0;cases dT0
 refine dk (st:=bS 5) (rest:=oB.drop 6)<|ExJ.of<|(Ed hX hA.mo ((u4 _ (by decide) (by decide)).trans ((u3 _ (by decide) (by decide)).trans mc)) h7).mono λF m5 σ5 ⟨e1,e2,o,e3⟩=>?_
 subst e1 e2
 have u5:∀x:Str,x≠"octet"→m5 x=m4 x:=λx h1=>by rw[e3];exact b9 h1
 have mo:m5 "octet"=some (.bytes [o]):=by rw[e3];rfl
 clear e3
 refine dk (st:=bS 6) (rest:=oB.drop 7)<|ExJ.of<|(D7 hX).mono λF m6 σ6 ⟨e1,aW,aW0,aW1,e2,e3⟩=>?_
 subst e1 e2
 have u6:∀x:Str,x≠"witness"→m6 x=m5 x:=λx h1=>by rw[e3];exact b9 h1
 have mw:m6 "witness"=some (.ref aW):=by rw[e3];rfl
 clear e3
 have hWd:aW≠d:=λe=>by rw[e,n4.dict] at aW0;cases aW0
 have hWT:aW≠dT:=λe=>by rw[e,hT4] at aW0;cases aW0
 have hWH:aW≠aH:=λe=>by rw[e,hH4'] at aW0;cases aW0
 have n6:NmF (σ5.set aW (.dict [])) f d N:=n4.old λb hb=>eZ λe=>hb (by rw[e];exact aW0)
 have w6:∀x:Str,x≠"witness"→x≠"octet"→m6 x=m4 x:=λx a b=>(u6 x a).trans (u5 x b)
 have w63:∀x:Str,x≠"witness"→x≠"octet"→x≠"root"→x≠"told"→m6 x=m3 x:=λx a b c d=>(w6 x a b).trans (u4 x c d)
 have mf6:m6 "name_of"=some (.ref f):=(w63 _ (by decide) (by decide) (by decide) (by decide)).trans ((u3 _ (by decide) (by decide)).trans mf)
 refine dk (st:=bS 7) (rest:=oB.drop 8)<|ExJ.mono (Ek hX hA.mo ((w6 _ (by decide) (by decide)).trans mt) ((w6 _ (by decide) (by decide)).trans mr) ((u6 _ (by decide)).trans mo) mf6 mw n6 (by rw[eZ (dL hWT)];exact hT4) dT1 fQ aW1 hWd hWT S ht hH4 (by omega) hf) λF m7 σ7 ⟨e1,u7,W,e2,wi⟩=>?_
 subst e1 e2
 have hWz:W.length≤2000:=by
  have h1:=wi.sz
  have h2:=xl (N:=N) (q:=aA [o]) ht
  omega
 have n7:NmF ((σ5.set aW (.dict [])).set aW (.dict W)) f d N:=n6.one fQ hWd
 rw[kJ] at n7 ⊢
 have u76:∀x:Str,x≠"node"→m7 x=m6 x:=u7
 refine dk (st:=bS 8) (rest:=oB.drop 9)<|ExJ.of<|(EU hX hA.mo ((u7 _ (by decide)).trans ((w6 _ (by decide) (by decide)).trans mr)) ((u7 _ (by decide)).trans mf6) ((u7 _ (by decide)).trans mw) n7 fQ aW1 hWd).mono λF m8 σ8 ⟨e1,a,dx,e2,a0,dx0,k8,T8⟩=>?_
 subst e1
 have u8:∀x:Str,x≠"small"→m8 x=m7 x:=λx h1=>by rw[e2];exact b9 h1
 have ms:m8 "small"=some (.ref a):=by rw[e2];rfl
 clear e2
 have w8:∀x:Str,x≠"small"→x≠"node"→m8 x=m6 x:=λx a b=>(u8 x a).trans (u7 x b)
 have h7':(σ5.set aW (.dict W)) aH=some (.dict H):=by rw[eZ (dL hWH)];exact hH4'
 have t7':(σ5.set aW (.dict W)) dT=some (.dict D):=by rw[eZ (dL hWT)];exact hT4
 have h8:σ8 aH=some (.dict H):=by
  rw[k8 aH (λe=>by rw[←e,h7'] at a0;cases a0) (λe=>by rw[←e,h7'] at dx0;cases dx0)];exact h7'
 have t8:σ8 dT=some (.dict D):=by
  rw[k8 dT (λe=>by rw[←e,t7'] at a0;cases a0) (λe=>by rw[←e,t7'] at dx0;cases dx0)];exact t7'
 have tb8:∃ps,σ8 447=some (.obj (cR ps)):=by
  obtain⟨ps,e0⟩:=tb
  have e3:σ3 447=some (.obj (cR ps)):=by
   rw[←hs3,kJ,eZ λq=>by rw[←q,e0] at aH0;cases aH0];exact e0
  have e4:σ5 447=some (.obj (cR ps)):=by
   rw[k4 447 (by rw[e3];simp) λq=>by have:=n2.dict;rw[←q,e3] at this;cases this];exact e3
  have e7:(σ5.set aW (.dict W)) 447=some (.obj (cR ps)):=by
   rw[eZ λq=>by rw[←q,e4] at aW0;cases aW0];exact e4
  exact⟨ps,by rw[k8 447 (λq=>by rw[←q,e7] at a0;cases a0) λq=>by rw[←q,e7] at dx0;cases dx0];exact e7⟩
 have I:Lw 3 σ8 a dx f d aW aH h N W H t (aA [o]):=⟨T8,h8,aH1,hHd,dL hWH,⟨S.W,wi.ok⟩,hH,hne,ht,λp' hp hb hq=>rT ht.wf hf.named hp (by rw[eW];simp) hq wi.all,hf.named,tb8⟩
 have M:Lm m8 f aH a cs o:=⟨(w8 _ (by decide) (by decide)).trans mf6,(w8 _ (by decide) (by decide)).trans ((w63 _ (by decide) (by decide) (by decide) (by decide)).trans mh),
  (w8 _ (by decide) (by decide)).trans ((w63 _ (by decide) (by decide) (by decide) (by decide)).trans ((u3 _ (by decide) (by decide)).trans mc)),(w8 _ (by decide) (by decide)).trans ((u6 _ (by decide)).trans mo),ms⟩
 refine dk (st:=bS 9) (rest:=oB.drop 10)<|ExJ.of<|(EJ hX hA.mo hfr I M ((w8 _ (by decide) (by decide)).trans mw) ((w8 _ (by decide) (by decide)).trans ((w6 _ (by decide) (by decide)).trans mt)) hH4 t8 dT1 aW1 (by omega) (by omega) wi (by omega) hf).mono λF m9 σ9 ⟨e1,e2,u9⟩=>?_
 subst e1 e2
 have M9:Lm m9 f aH a cs o:=⟨(u9 _ (by decide) (by decide)).trans M.f,(u9 _ (by decide) (by decide)).trans M.h,(u9 _ (by decide) (by decide)).trans M.c,(u9 _ (by decide) (by decide)).trans M.o,(u9 _ (by decide) (by decide)).trans M.s⟩
 refine dk (st:=bS 10) (rest:=oB.drop 11)<|ExJ.of<|(C9 hX hA.mo I M9).mono λF m10 σ10 ⟨e1,e2,e3⟩=>?_
 subst e1 e2 e3
 refine dk (st:=bS 11) (rest:=oB.drop 12)<|ExJ.of<|(Dq hX hA.mo I M9 h7 ⟨by omega,by omega,hH4⟩).mono λF m11 σ11 ⟨e1,M11,z,N1,W1,H1,t1,r1,I11⟩=>?_
 subst e1
 refine dk (st:=bS 12) (rest:=oB.drop 13)<|ExJ.of<|(Df hX hA.mo M11).mono λF m12 σ12 ⟨e1,e2,e3⟩=>?_
 subst e1 e2
 have M12:Lm m12 f aH a cs o:=by rw[e3];exact⟨(b9 (by decide)).trans M11.f,(b9 (by decide)).trans M11.h,(b9 (by decide)).trans M11.c,(b9 (by decide)).trans M11.o,(b9 (by decide)).trans M11.s⟩
 refine dk (st:=bS 13) (rest:=[])<|ExJ.of<|(Dx hX hA.mo I11 M12 (by rw[e3];rfl)).mono λF m13 σ13 ⟨e1,e2⟩=>?_
 subst e1 e2
 exact⟨rfl,I11.tb⟩
def en(P:Params)(x:Str)(t:Nat)(v:Value):DictEntry:=⟨PyData.keyHash P x,.str x t,v⟩
def F4(st:Stmt)(q:Str):FuncData:={cP st q .none .none .none with globals:=0}
abbrev Lf(o:Obj):BT:=.node o .nil .nil
abbrev Nd:=BT.node
def cO(n q:Str)(t:Nat)(l k fl:Int)(a:Nat)(b:Bool)(u:Nat)(w x y z:Value):Obj:=⟨.type "code",none,.fields #[.str n t,.str q (t+1),.str "/claim/cut.py" (t+2),.int l 0,.int k 0,.int 0 0,.int 0 0,.int fl 0,.ref a,.bool b,.int 181 0,.ref (a+1),w,x,y,z,.int u 0,.int l 0,.str "/claim/cut.py" (u+1)],#[]⟩
def cN(n q:Str)(t:Nat)(l k fl:Int)(a:Nat)(b:Bool)(u:Nat):Obj:=cO n q t l k fl a b u .none .none .none .none
def cT(n q:Str)(t:Nat)(l k fl:Int)(a:Nat)(b:Bool)(u:Nat):Obj:=cO n q t l k fl a b u .none .none .none (.ref (a+2))
def cS(n q:Str)(t:Nat)(l k fl:Int)(a:Nat)(b:Bool)(u:Nat):Obj:=cO n q t l k fl a b u .none (.ref (a+2)) (.ref (a+3)) (.ref (a+4))
def fO(st:Stmt)(q:Str)(c:Nat)(m d:Value):Obj:=⟨.type "function",none,.func (cP st q (.ref c) m d),#[]⟩
def pO(st:Stmt)(q:Str):Obj:=⟨.none,none,.func (F4 st q),#[]⟩
def nS:Nat→List Str→List Value
 |_,[]=>[]
 |t,x::l=>.str x t::nS (t+1) l
def tS(t:Nat)(l:List Str):Obj:=⟨.type "tuple",none,.seq (nS t l).toArray 0,#[]⟩
def zx:List (Int×Int×Nat)→List Value
 |[]=>[]
 |(a,b,c)::l=>.int a 0::.int b 0::.ref c::zx l
def tO(l:List (Int×Int×Nat)):Obj:=⟨.none,none,.fields (zx l).toArray,#[]⟩
def gO(P:Params)(v:Value)(l:List DictEntry)(e:Nat):Obj:=⟨.type "dict",none,.dict (en P "__name__" 165 v::l).toArray e,#[]⟩
def gL(P:Params):List DictEntry:=[en P "__doc__" 166 .none,en P "__package__" 167 .none,en P "__loader__" 168 (.builtin "__main__.__loader__#opaque"),en P "__spec__" 169 .none,en P "__annotations__" 170 (.ref 6),en P "__builtins__" 171 (.ref 4),en P "__file__" 173 (.str "/claim/cut.py" 172),en P "__cached__" 174 .none,en P "_wall" 193 (.ref 21),en P "BLANK_HASH" 197 (.bytes #[197,210,70,1,134,247,35,60,146,126,125,178,220,199,3,192,229,0,182,83,202,130,39,59,123,250,216,4,93,133,164,112] 196),en P "EXP" 254 (.ref 39),en P "TWO_BITS" 267 (.ref 60),en P "PREFIX_00" 271 (.bytes #[0,0] 270),en P "PREFIX_100000" 279 (.bytes #[1,0,0,0,0,0] 278),en P "KV_TYPE" 281 (.int 0 280),en P "BRANCH_TYPE" 283 (.int 1 282),en P "LEAF_TYPE" 285 (.int 2 284),en P "BINARY_TRIE_NODE_TYPES" 289 (.ref 71),en P "KV_TYPE_PREFIX" 292 (.bytes #[0] 291),en P "BRANCH_TYPE_PREFIX" 295 (.bytes #[1] 294),en P "LEAF_TYPE_PREFIX" 298 (.bytes #[2] 297),en P "BYTE_1" 301 (.bytes #[1] 300),en P "BYTE_0" 304 (.bytes #[0] 303),en P "InvalidNode" 326 (.ref 106),en P "ValidationError" 346 (.ref 119),en P "NodeOverrideError" 366 (.ref 132),en P "InvalidKeyError" 386 (.ref 145),en P "partition_all" 394 (.ref 153),en P "decode_from_bin" 403 (.ref 160),en P "_decode_from_bin" 411 (.ref 167),en P "encode_to_bin" 417 (.ref 172),en P "_encode_to_bin" 426 (.ref 179),en P "encode_from_bin_keypath" 435 (.ref 186),en P "decode_to_bin_keypath" 443 (.ref 193),en P "validate_is_bytes" 452 (.ref 200),en P "validate_length" 460 (.ref 207),en P "validate_is_bin_node" 467 (.ref 214),en P "get_common_prefix_length" 480 (.ref 221),en P "parse_node" 487 (.ref 228),en P "encode_kv_node" 495 (.ref 235),en P "encode_branch_node" 503 (.ref 242),en P "encode_leaf_node" 510 (.ref 249),en P "get_trie_nodes" 520 (.ref 256),en P "_get_trie_nodes" 532 (.ref 263),en P "get_witness_for_key_prefix" 541 (.ref 270),en P "_get_witness_for_key_prefix" 554 (.ref 277),en P "BinaryTrie" 748 (.ref 404),en P "_law_keys" 759 (.ref 409),en P "_law_octets" 765 (.ref 416),en P "_law_ends" 771 (.ref 423),en P "_law_path" 777 (.ref 428),en P "_law_node" 783 (.ref 433),en P "_law_tree" 789 (.ref 438),en P "_law_told" 797 (.ref 445),en P "law" 803 (.ref 450)]
def tL:List (Int×Int×Nat):=[(1,0,20),(6,27,26),(20,0,102),(22,0,115),(24,0,128),(26,0,141),(29,0,152),(32,0,159),(34,0,166),(37,0,171),(39,0,178),(46,0,185),(53,0,192),(61,0,199),(64,0,206),(67,0,213),(73,0,220),(78,0,227),(95,0,234),(102,0,241),(108,0,248),(114,0,255),(116,0,262),(133,0,269),(136,0,276),(166,0,283),(325,0,415),(327,0,422),(329,0,427),(334,0,432),(348,0,437),(354,0,444),(359,0,449)]
def F9:Value:=.str "__main__" 164
def F8:Value:=.str "trie.others" 387
def mE:Value:=.str "trie.utils.binaries" 395
def wt:Value:=.str "trie.validation" 444
def qa:Value:=.str "trie.utils.nodes" 468
def tV:Value:=.str "trie.branches" 511
def dA:Value:=.str "trie.binary" 555
def js:Value:=.str "law_bc0033_01" 749
def o2(P:Params):Obj:=⟨.none,none,.dict #[en P "type.__subclasses__.Exception.0" 323 (.int 106 0),en P "type.__subclasses__.Exception.n" 324 (.int 4 0),en P "type.__subclasses__.Exception.1" 343 (.int 119 0),en P "type.__subclasses__.Exception.2" 363 (.int 132 0),en P "type.__subclasses__.Exception.3" 383 (.int 145 0)] 5,#[]⟩
def o3(P:Params):Obj:=gO P (.str "trie.constants" 194) ((gL P).take 10) 11
def FP(P:Params):Obj:=gO P (.str "trie.constants" 194) ((gL P).take 11) 12
def FD(P:Params):Obj:=gO P (.str "trie.exceptions" 305) ((gL P).take 23) 24
def FF(P:Params):Obj:=gO P (.str "trie.exceptions" 305) ((gL P).take 27) 28
def Fy(P:Params):Obj:=gO P (.str "trie.binary" 555) ((gL P).take 46) 47
def FH(P:Params):Obj:=gO P (.str "trie.binary" 555) ((gL P).take 47) 48
def iw(P:Params):Obj:=gO P (.str "law_bc0033_01" 749) (gL P) 56
def aa:Obj:=⟨.type "tuple",none,.seq #[] 0,#[]⟩
def af:Obj:=tO []
def Fp:Obj:=tO (tL.take 1)
def zc:Obj:=tO (tL.take 2)
def E0:Obj:=tO (tL.take 6)
def E3:Obj:=tO (tL.take 25)
def Fb:Obj:=tO (tL.take 26)
def vR:Obj:=tO (tL.take 33)
def f9:Obj:=cN "<module>" "<module>" 182 1 0 0 11 false 185
def ge:Obj:=⟨.type "frame",none,.plain,#[some (.ref 13),some (.ref 3),some (.ref 3),none,some (.str "__main__" 164),none,some (.ref 0)]⟩
def gQ:Obj:=tS 190 ["k"]
def gP:Obj:=pO (aD 0) "_wall"
def gT:Obj:=cS "_wall" "_wall" 187 1 1 3 15 true 191
def gS:Obj:=fO (aD 0) "_wall" 20 F9 .none
def iL:Obj:=⟨.type "range",none,.fields #[.int 0 199,.int 8 198,.int 1 200],#[]⟩
def iz:Obj:=⟨.type "range_iterator",none,.fields #[.int 8 0,.int 0 0,.int 1 0],#[]⟩
def iN:Obj:=cN "<genexpr>" "<genexpr>" 201 6 1 35 24 true 204
def iJ(P:Params):Obj:=⟨.type "frame",none,.dict #[en P ".0" 206 (.ref 23),en P "i" 210 (.int 7 237)] 2,#[]⟩
def iH:Obj:=⟨.type "generator",none,.fields #[.int 0 0,.str "<genexpr>" 207,.str "<genexpr>" 208],#[]⟩
def iK:Obj:=⟨.type "list",none,.seq #[.int 1 212,.int 2 216,.int 4 220,.int 8 224,.int 16 228,.int 32 232,.int 64 236,.int 128 240] 10,#[]⟩
def iD:Obj:=⟨.type "StopIteration",none,.fields #[.ref 30,.none,.none,.none,.bool false,.none],#[]⟩
def iF:Obj:=⟨.type "StopIteration",none,.fields #[.ref 32,.none,.none,.none,.bool false,.none],#[]⟩
def iI:Obj:=⟨.type "tuple",none,.seq #[.int 1 212,.int 2 216,.int 4 220,.int 8 224,.int 16 228,.int 32 232,.int 64 236,.int 128 240] 0,#[]⟩
def iC:Obj:=⟨.type "reversed",none,.fields #[.none,.int (-1) 0],#[]⟩
def iM:Obj:=⟨.type "list",none,.seq #[.int 128 240,.int 64 236,.int 32 232,.int 16 228,.int 8 224,.int 4 220,.int 2 216,.int 1 212] 10,#[]⟩
def iG:Obj:=⟨.type "StopIteration",none,.fields #[.ref 37,.none,.none,.none,.bool false,.none],#[]⟩
def gM:Obj:=⟨.type "tuple",none,.seq #[.int 128 240,.int 64 236,.int 32 232,.int 16 228,.int 8 224,.int 4 220,.int 2 216,.int 1 212] 0,#[]⟩
def jU:Obj:=⟨.type "list",none,.seq #[.int 0 255,.int 0 256] 0,#[]⟩
def bI:Obj:=⟨.type "list_iterator",none,.fields #[.none,.int 2 0],#[]⟩
def ej:Obj:=⟨.type "bytearray",none,.bytearray #[0,0] 0,#[]⟩
def jS:Obj:=⟨.type "StopIteration",none,.fields #[.ref 43,.none,.none,.none,.bool false,.none],#[]⟩
def jG:Obj:=⟨.type "list",none,.seq #[.int 0 258,.int 1 259] 0,#[]⟩
def jL:Obj:=⟨.type "bytearray",none,.bytearray #[0,1] 0,#[]⟩
def jx:Obj:=⟨.type "StopIteration",none,.fields #[.ref 48,.none,.none,.none,.bool false,.none],#[]⟩
def jW:Obj:=⟨.type "list",none,.seq #[.int 1 261,.int 0 262] 0,#[]⟩
def jO:Obj:=⟨.type "bytearray",none,.bytearray #[1,0] 0,#[]⟩
def jv:Obj:=⟨.type "StopIteration",none,.fields #[.ref 53,.none,.none,.none,.bool false,.none],#[]⟩
def jr:Obj:=⟨.type "list",none,.seq #[.int 1 264,.int 1 265] 0,#[]⟩
def jB:Obj:=⟨.type "bytearray",none,.bytearray #[1,1] 0,#[]⟩
def jX:Obj:=⟨.type "StopIteration",none,.fields #[.ref 58,.none,.none,.none,.bool false,.none],#[]⟩
def gN:Obj:=⟨.type "list",none,.seq #[.bytes #[0,0] 257,.bytes #[0,1] 260,.bytes #[1,0] 263,.bytes #[1,1] 266] 0,#[]⟩
def jz:Obj:=⟨.type "list",none,.seq #[.int 0 268,.int 0 269] 0,#[]⟩
def jC:Obj:=⟨.type "StopIteration",none,.fields #[.ref 64,.none,.none,.none,.bool false,.none],#[]⟩
def jw:Obj:=⟨.type "list",none,.seq #[.int 1 272,.int 0 273,.int 0 274,.int 0 275,.int 0 276,.int 0 277] 0,#[]⟩
def jT:Obj:=⟨.type "list_iterator",none,.fields #[.none,.int 6 0],#[]⟩
def ju:Obj:=⟨.type "bytearray",none,.bytearray #[1,0,0,0,0,0] 0,#[]⟩
def jA:Obj:=⟨.type "StopIteration",none,.fields #[.ref 69,.none,.none,.none,.bool false,.none],#[]⟩
def iB:Obj:=⟨.type "tuple",none,.seq #[.int 0 286,.int 1 287,.int 2 288] 0,#[]⟩
def jP:Obj:=⟨.type "list",none,.seq #[.int 0 290] 0,#[]⟩
def bH:Obj:=⟨.type "list_iterator",none,.fields #[.none,.int 1 0],#[]⟩
def ee:Obj:=⟨.type "bytearray",none,.bytearray #[0] 0,#[]⟩
def jE:Obj:=⟨.type "StopIteration",none,.fields #[.ref 75,.none,.none,.none,.bool false,.none],#[]⟩
def jV:Obj:=⟨.type "list",none,.seq #[.int 1 293] 0,#[]⟩
def ei:Obj:=⟨.type "bytearray",none,.bytearray #[1] 0,#[]⟩
def jI:Obj:=⟨.type "StopIteration",none,.fields #[.ref 80,.none,.none,.none,.bool false,.none],#[]⟩
def jM:Obj:=⟨.type "list",none,.seq #[.int 2 296] 0,#[]⟩
def jJ:Obj:=⟨.type "bytearray",none,.bytearray #[2] 0,#[]⟩
def jN:Obj:=⟨.type "StopIteration",none,.fields #[.ref 85,.none,.none,.none,.bool false,.none],#[]⟩
def jD:Obj:=⟨.type "list",none,.seq #[.int 1 299] 0,#[]⟩
def jt:Obj:=⟨.type "StopIteration",none,.fields #[.ref 90,.none,.none,.none,.bool false,.none],#[]⟩
def jF:Obj:=⟨.type "list",none,.seq #[.int 0 302] 0,#[]⟩
def jK:Obj:=⟨.type "StopIteration",none,.fields #[.ref 95,.none,.none,.none,.bool false,.none],#[]⟩
def cx:Obj:=⟨.type "tuple",none,.seq #[.type "Exception"] 0,#[]⟩
def bY:Obj:=⟨.type "builtin_function_or_method",none,.fields #[.builtin "type.__prepare__",.type "type"],#[]⟩
def mG(P:Params):Obj:=⟨.type "dict",none,.dict #[en P "__module__" 314 (.str "trie.exceptions" 305),en P "__qualname__" 316 (.str "InvalidNode" 315),en P "__firstlineno__" 318 (.int 20 317),en P "__static_attributes__" 319 (.ref 104)] 4,#[]⟩
def l7:Obj:=cN "InvalidNode" "InvalidNode" 309 20 0 0 100 false 312
def mv:Obj:=⟨.type "frame",none,.plain,#[some (.ref 102),some (.ref 3),some (.ref 99),none,some (.str "trie.exceptions" 305),none,some (.ref 0)]⟩
def lm(P:Params):Obj:=⟨.type "dict",none,.dict #[en P "__module__" 314 (.str "trie.exceptions" 305),en P "__firstlineno__" 318 (.int 20 317),en P "__static_attributes__" 319 (.ref 104),en P "__weakref__" 321 (.ref 107),en P "__doc__" 322 .none] 3,#[]⟩
def mB:Obj:=⟨.type "type",none,.cls ⟨"InvalidNode",[.type "Exception"],[.ref 106,.type "Exception",.type "BaseException",.type "object"],105,"InvalidNode",true,[],[],false,none,false⟩,#[some (.ref 97),none,some (.str "InvalidNode" 307),some (.str "InvalidNode" 315),some (.builtin "Exception.__new__"),some (.bool true)]⟩
def lu:Obj:=⟨.type "getset_descriptor",none,.fields #[.str "__weakref__" 320,.ref 106,.builtin "ExceptionGroup.__weakref__",.none],#[]⟩
def kV:Obj:=⟨.type "super",none,.fields #[.ref 106,.ref 106,.ref 106],#[]⟩
def mj:Obj:=⟨.type "builtin_function_or_method",none,.fields #[.builtin "object.__init_subclass__",.ref 106],#[]⟩
def l8(P:Params):Obj:=⟨.type "dict",none,.dict #[en P "__module__" 334 (.str "trie.exceptions" 305),en P "__qualname__" 336 (.str "ValidationError" 335),en P "__firstlineno__" 338 (.int 22 337),en P "__static_attributes__" 339 (.ref 117)] 4,#[]⟩
def lf:Obj:=cN "ValidationError" "ValidationError" 329 22 0 0 113 false 332
def lj:Obj:=⟨.type "frame",none,.plain,#[some (.ref 115),some (.ref 3),some (.ref 112),none,some (.str "trie.exceptions" 305),none,some (.ref 0)]⟩
def lq(P:Params):Obj:=⟨.type "dict",none,.dict #[en P "__module__" 334 (.str "trie.exceptions" 305),en P "__firstlineno__" 338 (.int 22 337),en P "__static_attributes__" 339 (.ref 117),en P "__weakref__" 341 (.ref 120),en P "__doc__" 342 .none] 3,#[]⟩
def kS:Obj:=⟨.type "type",none,.cls ⟨"ValidationError",[.type "Exception"],[.ref 119,.type "Exception",.type "BaseException",.type "object"],118,"ValidationError",true,[],[],false,none,false⟩,#[some (.ref 110),none,some (.str "ValidationError" 327),some (.str "ValidationError" 335),some (.builtin "Exception.__new__"),some (.bool true)]⟩
def lz:Obj:=⟨.type "getset_descriptor",none,.fields #[.str "__weakref__" 340,.ref 119,.builtin "ExceptionGroup.__weakref__",.none],#[]⟩
def lC:Obj:=⟨.type "super",none,.fields #[.ref 119,.ref 119,.ref 119],#[]⟩
def lQ:Obj:=⟨.type "builtin_function_or_method",none,.fields #[.builtin "object.__init_subclass__",.ref 119],#[]⟩
def lP(P:Params):Obj:=⟨.type "dict",none,.dict #[en P "__module__" 354 (.str "trie.exceptions" 305),en P "__qualname__" 356 (.str "NodeOverrideError" 355),en P "__firstlineno__" 358 (.int 24 357),en P "__static_attributes__" 359 (.ref 130)] 4,#[]⟩
def lb:Obj:=cN "NodeOverrideError" "NodeOverrideError" 349 24 0 0 126 false 352
def kT:Obj:=⟨.type "frame",none,.plain,#[some (.ref 128),some (.ref 3),some (.ref 125),none,some (.str "trie.exceptions" 305),none,some (.ref 0)]⟩
def mx(P:Params):Obj:=⟨.type "dict",none,.dict #[en P "__module__" 354 (.str "trie.exceptions" 305),en P "__firstlineno__" 358 (.int 24 357),en P "__static_attributes__" 359 (.ref 130),en P "__weakref__" 361 (.ref 133),en P "__doc__" 362 .none] 3,#[]⟩
def mA:Obj:=⟨.type "type",none,.cls ⟨"NodeOverrideError",[.type "Exception"],[.ref 132,.type "Exception",.type "BaseException",.type "object"],131,"NodeOverrideError",true,[],[],false,none,false⟩,#[some (.ref 123),none,some (.str "NodeOverrideError" 347),some (.str "NodeOverrideError" 355),some (.builtin "Exception.__new__"),some (.bool true)]⟩
def ly:Obj:=⟨.type "getset_descriptor",none,.fields #[.str "__weakref__" 360,.ref 132,.builtin "ExceptionGroup.__weakref__",.none],#[]⟩
def lN:Obj:=⟨.type "super",none,.fields #[.ref 132,.ref 132,.ref 132],#[]⟩
def kW:Obj:=⟨.type "builtin_function_or_method",none,.fields #[.builtin "object.__init_subclass__",.ref 132],#[]⟩
def lc(P:Params):Obj:=⟨.type "dict",none,.dict #[en P "__module__" 374 (.str "trie.exceptions" 305),en P "__qualname__" 376 (.str "InvalidKeyError" 375),en P "__firstlineno__" 378 (.int 26 377),en P "__static_attributes__" 379 (.ref 143)] 4,#[]⟩
def me:Obj:=cN "InvalidKeyError" "InvalidKeyError" 369 26 0 0 139 false 372
def mi:Obj:=⟨.type "frame",none,.plain,#[some (.ref 141),some (.ref 3),some (.ref 138),none,some (.str "trie.exceptions" 305),none,some (.ref 0)]⟩
def lS(P:Params):Obj:=⟨.type "dict",none,.dict #[en P "__module__" 374 (.str "trie.exceptions" 305),en P "__firstlineno__" 378 (.int 26 377),en P "__static_attributes__" 379 (.ref 143),en P "__weakref__" 381 (.ref 146),en P "__doc__" 382 .none] 3,#[]⟩
def mn:Obj:=⟨.type "type",none,.cls ⟨"InvalidKeyError",[.type "Exception"],[.ref 145,.type "Exception",.type "BaseException",.type "object"],144,"InvalidKeyError",true,[],[],false,none,false⟩,#[some (.ref 136),none,some (.str "InvalidKeyError" 367),some (.str "InvalidKeyError" 375),some (.builtin "Exception.__new__"),some (.bool true)]⟩
def lO:Obj:=⟨.type "getset_descriptor",none,.fields #[.str "__weakref__" 380,.ref 145,.builtin "ExceptionGroup.__weakref__",.none],#[]⟩
def lV:Obj:=⟨.type "super",none,.fields #[.ref 145,.ref 145,.ref 145],#[]⟩
def lx:Obj:=⟨.type "builtin_function_or_method",none,.fields #[.builtin "object.__init_subclass__",.ref 145],#[]⟩
def o0:Obj:=pO (aD 22) "partition_all"
def kZ:Obj:=cT "partition_all" "partition_all" 389 29 2 3 149 true 392
def l4:Obj:=fO (aD 22) "partition_all" 152 F8 .none
def pT:Obj:=tS 400 ["input_bin"]
def pU:Obj:=pO (aD 24) "decode_from_bin"
def my:Obj:=cS "decode_from_bin" "decode_from_bin" 397 32 1 3 154 true 401
def lI:Obj:=fO (aD 24) "decode_from_bin" 159 mE .none
def oM:Obj:=tS 407 ["input_bin","chunk"]
def pW:Obj:=pO (aD 25) "_decode_from_bin"
def fI:Obj:=cS "_decode_from_bin" "_decode_from_bin" 404 34 1 35 161 true 409
def lB:Obj:=fO (aD 25) "_decode_from_bin" 166 mE .none
def oK:Obj:=pO (aD 26) "encode_to_bin"
def lJ:Obj:=cT "encode_to_bin" "encode_to_bin" 412 37 1 3 168 true 415
def kU:Obj:=fO (aD 26) "encode_to_bin" 171 mE .none
def o8:Obj:=tS 421 ["value","char","exp"]
def pK:Obj:=pO (aD 27) "_encode_to_bin"
def lR:Obj:=cS "_encode_to_bin" "_encode_to_bin" 418 39 1 35 173 true 424
def lG:Obj:=fO (aD 27) "_encode_to_bin" 178 mE .none
def pA:Obj:=tS 430 ["input_bin","padded_bin","prefix"]
def o9:Obj:=pO (aD 28) "encode_from_bin_keypath"
def la:Obj:=cS "encode_from_bin_keypath" "encode_from_bin_keypath" 427 46 1 3 180 true 433
def l9:Obj:=fO (aD 28) "encode_from_bin_keypath" 185 mE .none
def pC:Obj:=tS 439 ["path","padded_len"]
def oO:Obj:=pO (aD 29) "decode_to_bin_keypath"
def md:Obj:=cS "decode_to_bin_keypath" "decode_to_bin_keypath" 436 53 1 3 187 true 441
def lM:Obj:=fO (aD 29) "decode_to_bin_keypath" 192 mE .none
def oX:Obj:=tS 449 ["value"]
def pN:Obj:=pO (aD 31) "validate_is_bytes"
def lY:Obj:=cS "validate_is_bytes" "validate_is_bytes" 446 61 1 3 194 true 450
def mq:Obj:=fO (aD 31) "validate_is_bytes" 199 wt .none
def pq:Obj:=tS 456 ["value","length"]
def pP:Obj:=pO (aD 32) "validate_length"
def lZ:Obj:=cS "validate_length" "validate_length" 453 64 2 3 201 true 458
def lU:Obj:=fO (aD 32) "validate_length" 206 wt .none
def oV:Obj:=tS 464 ["node"]
def px:Obj:=pO (aD 33) "validate_is_bin_node"
def l6:Obj:=cS "validate_is_bin_node" "validate_is_bin_node" 461 67 1 3 208 true 465
def lE:Obj:=fO (aD 33) "validate_is_bin_node" 213 wt .none
def pI:Obj:=tS 473 ["left_key","right_key","idx","left_nibble","right_nibble"]
def pp:Obj:=pO (aD 35) "get_common_prefix_length"
def lA:Obj:=cS "get_common_prefix_length" "get_common_prefix_length" 470 73 2 3 215 true 478
def lg:Obj:=fO (aD 35) "get_common_prefix_length" 220 qa .none
def pj:Obj:=tS 484 ["node"]
def o4:Obj:=pO (aD 36) "parse_node"
def k9:Obj:=cS "parse_node" "parse_node" 481 78 1 3 222 true 485
def lw:Obj:=fO (aD 36) "parse_node" 227 qa .none
def pJ:Obj:=tS 491 ["keypath","child_node_hash"]
def oR:Obj:=pO (aD 37) "encode_kv_node"
def lT:Obj:=cS "encode_kv_node" "encode_kv_node" 488 95 2 3 229 true 493
def lK:Obj:=fO (aD 37) "encode_kv_node" 234 qa .none
def pG:Obj:=tS 499 ["left_child_node_hash","right_child_node_hash"]
def pZ:Obj:=pO (aD 38) "encode_branch_node"
def ln:Obj:=cS "encode_branch_node" "encode_branch_node" 496 102 2 3 236 true 501
def ml:Obj:=fO (aD 38) "encode_branch_node" 241 qa .none
def pV:Obj:=tS 507 ["value"]
def pa:Obj:=pO (aD 39) "encode_leaf_node"
def lW:Obj:=cS "encode_leaf_node" "encode_leaf_node" 504 108 1 3 243 true 508
def lp:Obj:=fO (aD 39) "encode_leaf_node" 248 qa .none
def oH:Obj:=tS 516 ["db","node_hash"]
def pk:Obj:=pO (aD 41) "get_trie_nodes"
def ma:Obj:=cS "get_trie_nodes" "get_trie_nodes" 513 114 2 3 250 true 518
def lL:Obj:=fO (aD 41) "get_trie_nodes" 255 tV .none
def pY:Obj:=tS 524 ["db","node_hash","node","nodetype","left_child","right_child"]
def pf:Obj:=pO (aD 42) "_get_trie_nodes"
def lX:Obj:=cS "_get_trie_nodes" "_get_trie_nodes" 521 116 2 35 257 true 530
def lH:Obj:=fO (aD 42) "_get_trie_nodes" 262 tV .none
def py:Obj:=tS 536 ["db","node_hash","key"]
def o6:Obj:=pO (aD 43) "get_witness_for_key_prefix"
def l5:Obj:=cS "get_witness_for_key_prefix" "get_witness_for_key_prefix" 533 133 3 3 264 true 539
def k7:Obj:=fO (aD 43) "get_witness_for_key_prefix" 269 tV .none
def pv:Obj:=tS 545 ["db","node_hash","keypath","node","nodetype","left_child","right_child"]
def oU:Obj:=pO (aD 44) "_get_witness_for_key_prefix"
def lF:Obj:=cS "_get_witness_for_key_prefix" "_get_witness_for_key_prefix" 542 136 3 35 271 true 552
def lh:Obj:=fO (aD 44) "_get_witness_for_key_prefix" 276 tV .none
def s5(P:Params):Obj:=⟨.type "dict",none,.dict #[en P "__module__" 564 (.str "trie.binary" 555),en P "__qualname__" 566 (.str "BinaryTrie" 565),en P "__firstlineno__" 568 (.int 166 567),en P "__init__" 578 (.ref 292),en P "get" 586 (.ref 299),en P "_get" 598 (.ref 306),en P "set" 607 (.ref 313),en P "_set" 621 (.ref 321),en P "_set_kv_node" 643 (.ref 329),en P "_set_branch_node" 662 (.ref 337),en P "exists" 670 (.ref 344),en P "delete" 678 (.ref 351),en P "delete_subtrie" 686 (.ref 358),en P "root_node" 694 (.ref 366),en P "_hash_and_save" 704 (.ref 373),en P "__getitem__" 712 (.ref 380),en P "__setitem__" 721 (.ref 387),en P "__delitem__" 729 (.ref 394),en P "__contains__" 737 (.ref 401),en P "__static_attributes__" 741 (.ref 402)] 20,#[]⟩
def tM:Obj:=tO [(168,4,291),(174,4,298),(178,4,305),(202,4,312),(207,4,320),(236,4,328),(272,4,336),(290,4,343),(294,4,350),(298,4,357),(302,4,364),(305,4,372),(312,4,379),(315,4,386),(318,4,393),(321,4,400)]
def sH:Obj:=cN "BinaryTrie" "BinaryTrie" 559 166 0 0 281 false 562
def ty:Obj:=⟨.type "frame",none,.plain,#[some (.ref 283),some (.ref 3),some (.ref 280),none,some (.str "trie.binary" 555),none,some (.ref 0)]⟩
def oP:Obj:=⟨.type "tuple",none,.seq #[.bytes #[197,210,70,1,134,247,35,60,146,126,125,178,220,199,3,192,229,0,182,83,202,130,39,59,123,250,216,4,93,133,164,112] 196] 0,#[]⟩
def sR:Obj:=tS 572 ["self","db","hash_of","root_hash"]
def sJ:Obj:=pO (be 0) "BinaryTrie.__init__"
def oI:Obj:=cS "__init__" "BinaryTrie.__init__" 569 168 4 3 286 true 576
def o7:Obj:=fO (be 0) "BinaryTrie.__init__" 291 dA (.ref 285)
def sh:Obj:=tS 582 ["self","key"]
def r7:Obj:=pO (be 1) "BinaryTrie.get"
def pn:Obj:=cS "get" "BinaryTrie.get" 579 174 2 3 293 true 584
def ph:Obj:=fO (be 1) "BinaryTrie.get" 298 dA .none
def sf:Obj:=tS 590 ["self","node_hash","keypath","nodetype","left_child","right_child"]
def tK:Obj:=pO (be 2) "BinaryTrie._get"
def oY:Obj:=cS "_get" "BinaryTrie._get" 587 178 3 3 300 true 596
def oZ:Obj:=fO (be 2) "BinaryTrie._get" 305 dA .none
def sp:Obj:=tS 602 ["self","key","value"]
def tw:Obj:=pO (be 3) "BinaryTrie.set"
def oW:Obj:=cS "set" "BinaryTrie.set" 599 202 3 3 307 true 605
def pS:Obj:=fO (be 3) "BinaryTrie.set" 312 dA .none
def dN:Obj:=⟨.type "tuple",none,.seq #[.bool false] 0,#[]⟩
def tF:Obj:=tS 611 ["self","node_hash","keypath","value","if_delete_subtrie","nodetype","left_child","right_child"]
def sw:Obj:=pO (be 4) "BinaryTrie._set"
def oQ:Obj:=cS "_set" "BinaryTrie._set" 608 207 5 3 315 true 619
def pE:Obj:=fO (be 4) "BinaryTrie._set" 320 dA (.ref 314)
def sg:Obj:=tS 625 ["self","keypath","node_hash","node_type","left_child","right_child","value","if_delete_subtrie","subnode_hash","subnodetype","sub_left_child","sub_right_child","common_prefix_len","valnode","oldnode","newsub"]
def sX:Obj:=pO (be 5) "BinaryTrie._set_kv_node"
def pg:Obj:=cS "_set_kv_node" "BinaryTrie._set_kv_node" 622 236 8 3 323 true 641
def o5:Obj:=fO (be 5) "BinaryTrie._set_kv_node" 328 dA (.ref 322)
def sK:Obj:=tS 647 ["self","keypath","node_type","left_child","right_child","value","if_delete_subtrie","new_left_child","new_right_child","subnodetype","sub_left_child","sub_right_child","first_bit"]
def r8:Obj:=pO (be 6) "BinaryTrie._set_branch_node"
def pB:Obj:=cS "_set_branch_node" "BinaryTrie._set_branch_node" 644 272 7 3 331 true 660
def pH:Obj:=fO (be 6) "BinaryTrie._set_branch_node" 336 dA (.ref 330)
def sx:Obj:=tS 666 ["self","key"]
def sV:Obj:=pO (be 7) "BinaryTrie.exists"
def pz:Obj:=cS "exists" "BinaryTrie.exists" 663 290 2 3 338 true 668
def pM:Obj:=fO (be 7) "BinaryTrie.exists" 343 dA .none
def sI:Obj:=tS 674 ["self","key"]
def sM:Obj:=pO (be 8) "BinaryTrie.delete"
def pQ:Obj:=cS "delete" "BinaryTrie.delete" 671 294 2 3 345 true 676
def oJ:Obj:=fO (be 8) "BinaryTrie.delete" 350 dA .none
def sP:Obj:=tS 682 ["self","key"]
def s8:Obj:=pO (be 9) "BinaryTrie.delete_subtrie"
def sE:Obj:=cS "delete_subtrie" "BinaryTrie.delete_subtrie" 679 298 2 3 352 true 684
def si:Obj:=fO (be 9) "BinaryTrie.delete_subtrie" 357 dA .none
def tN:Obj:=tS 690 ["self"]
def r9:Obj:=pO (be 10) "BinaryTrie.root_node"
def sN:Obj:=cS "root_node" "BinaryTrie.root_node" 687 301 1 3 359 true 691
def sy:Obj:=fO (be 10) "BinaryTrie.root_node" 364 dA .none
def sv:Obj:=⟨.type "property",none,.fields #[.ref 365,.none,.none,.none,.str "root_node" 694,.bool false],#[]⟩
def sZ:Obj:=tS 698 ["self","node","keccak","node_hash"]
def sG:Obj:=pO (be 11) "BinaryTrie._hash_and_save"
def pD:Obj:=cS "_hash_and_save" "BinaryTrie._hash_and_save" 695 305 2 3 367 true 702
def pe:Obj:=fO (be 11) "BinaryTrie._hash_and_save" 372 dA .none
def sk:Obj:=tS 708 ["self","key"]
def ta:Obj:=pO (be 12) "BinaryTrie.__getitem__"
def sm:Obj:=cS "__getitem__" "BinaryTrie.__getitem__" 705 312 2 3 374 true 710
def rY:Obj:=fO (be 12) "BinaryTrie.__getitem__" 379 dA .none
def s9:Obj:=tS 716 ["self","key","value"]
def tj:Obj:=pO (be 13) "BinaryTrie.__setitem__"
def tu:Obj:=cS "__setitem__" "BinaryTrie.__setitem__" 713 315 3 3 381 true 719
def tG:Obj:=fO (be 13) "BinaryTrie.__setitem__" 386 dA .none
def sA:Obj:=tS 725 ["self","key"]
def sj:Obj:=pO (be 14) "BinaryTrie.__delitem__"
def sU:Obj:=cS "__delitem__" "BinaryTrie.__delitem__" 722 318 2 3 388 true 727
def sW:Obj:=fO (be 14) "BinaryTrie.__delitem__" 393 dA .none
def te:Obj:=tS 733 ["self","key"]
def tc:Obj:=pO (be 15) "BinaryTrie.__contains__"
def sD:Obj:=cS "__contains__" "BinaryTrie.__contains__" 730 321 2 3 395 true 735
def tH:Obj:=fO (be 15) "BinaryTrie.__contains__" 400 dA .none
def su:Obj:=tS 738 ["db","hash_of","root_hash"]
def r6(P:Params):Obj:=⟨.type "dict",none,.dict #[en P "__module__" 564 (.str "trie.binary" 555),en P "__firstlineno__" 568 (.int 166 567),en P "__init__" 578 (.ref 292),en P "get" 586 (.ref 299),en P "_get" 598 (.ref 306),en P "set" 607 (.ref 313),en P "_set" 621 (.ref 321),en P "_set_kv_node" 643 (.ref 329),en P "_set_branch_node" 662 (.ref 337),en P "exists" 670 (.ref 344),en P "delete" 678 (.ref 351),en P "delete_subtrie" 686 (.ref 358),en P "root_node" 694 (.ref 366),en P "_hash_and_save" 704 (.ref 373),en P "__getitem__" 712 (.ref 380),en P "__setitem__" 721 (.ref 387),en P "__delitem__" 729 (.ref 394),en P "__contains__" 737 (.ref 401),en P "__static_attributes__" 741 (.ref 402),en P "__dict__" 743 (.ref 405),en P "__weakref__" 745 (.ref 406),en P "__doc__" 746 .none] 4,#[]⟩
def sC:Obj:=⟨.type "type",none,.cls ⟨"BinaryTrie",[.type "object"],[.ref 404,.type "object"],403,"BinaryTrie",true,[],[],false,none,false⟩,#[none,none,some (.str "BinaryTrie" 557),some (.str "BinaryTrie" 565),some (.builtin "object.__new__"),some (.bool true)]⟩
def sr:Obj:=⟨.type "getset_descriptor",none,.fields #[.str "__dict__" 742,.ref 404,.builtin "function.__dict__",.builtin "function.__dict__#set"],#[]⟩
def s7:Obj:=⟨.type "getset_descriptor",none,.fields #[.str "__weakref__" 744,.ref 404,.builtin "ExceptionGroup.__weakref__",.none],#[]⟩
def tJ:Obj:=⟨.type "super",none,.fields #[.ref 404,.ref 404,.ref 404],#[]⟩
def s0:Obj:=⟨.type "builtin_function_or_method",none,.fields #[.builtin "object.__init_subclass__",.ref 404],#[]⟩
def s6:Obj:=⟨.type "list",none,.seq #[.bytes #[65,0] 751,.bytes #[65,1] 752,.bytes #[65,128] 753,.bytes #[65,255] 754,.bytes #[64,1] 755,.bytes #[97,1] 756,.bytes #[193,0] 757,.bytes #[193,1] 758] 0,#[]⟩
def wg:Obj:=pO (aD 49) "_law_octets"
def sq:Obj:=cS "_law_octets" "_law_octets" 760 325 0 3 410 true 763
def sb:Obj:=fO (aD 49) "_law_octets" 415 js .none
def vY:Obj:=pO (aD 50) "_law_ends"
def tC:Obj:=cS "_law_ends" "_law_ends" 766 327 0 3 417 true 769
def sQ:Obj:=fO (aD 50) "_law_ends" 422 js .none
def wj:Obj:=pO (aD 51) "_law_path"
def sL:Obj:=cT "_law_path" "_law_path" 772 329 1 3 424 true 775
def tD:Obj:=fO (aD 51) "_law_path" 427 js .none
def wd:Obj:=pO (aD 52) "_law_node"
def tE:Obj:=cT "_law_node" "_law_node" 778 334 3 3 429 true 781
def se:Obj:=fO (aD 52) "_law_node" 432 js .none
def v9:Obj:=pO (aD 53) "_law_tree"
def r5:Obj:=cT "_law_tree" "_law_tree" 784 348 2 3 434 true 787
def sO:Obj:=fO (aD 53) "_law_tree" 437 js .none
def wh:Obj:=tS 793 ["trie","key"]
def vZ:Obj:=pO (aD 54) "_law_told"
def tI:Obj:=cS "_law_told" "_law_told" 790 354 2 3 439 true 795
def sS:Obj:=fO (aD 54) "_law_told" 444 js .none
def wc:Obj:=pO (aD 55) "law"
def mz:Obj:=cT "law" "law" 798 359 1 3 446 true 801
def sY:Obj:=fO (aD 55) "law" 449 js .none
noncomputable def tB(P:Params):BT:=(Nd (boot_o_0 P) (Nd (boot_o_1 P) (Nd (boot_o_3 P) (Lf (boot_o_7 P)) (Lf aa)) (Nd (boot_o_5 P) (Lf (boot_o_9 P)) (Lf f9))) (Nd (boot_o_2 P) (Nd (boot_o_4 P) (Lf (boot_o_8 P)) (Lf af)) (Nd (boot_o_6 P) (Lf (boot_o_10 P)) (Lf ge))))
noncomputable def t2(P:Params):BT:=(Nd (boot_o_0 P) (Nd (boot_o_1 P) (Nd (o3 P) (Nd (boot_o_7 P) (Lf aa) .nil) (Nd aa (Lf gP) .nil)) (Nd (boot_o_5 P) (Nd (boot_o_9 P) (Lf gQ) .nil) (Nd f9 (Lf gS) .nil))) (Nd (boot_o_2 P) (Nd (boot_o_4 P) (Nd (boot_o_8 P) (Lf af) .nil) (Nd Fp (Lf gT) .nil)) (Nd (boot_o_6 P) (Nd (boot_o_10 P) (Lf aa) .nil) (Lf ge))))
noncomputable def t3(P:Params):BT:=(Nd (boot_o_0 P) (Nd (boot_o_1 P) (Nd (FP P) (Nd (boot_o_7 P) (Nd aa (Lf iD) .nil) (Nd iz (Lf gM) .nil)) (Nd aa (Nd gP (Lf iC) .nil) (Lf (iJ P)))) (Nd (boot_o_5 P) (Nd (boot_o_9 P) (Nd gQ (Lf iF) .nil) (Lf af)) (Nd f9 (Nd gS (Lf aa) .nil) (Lf iK)))) (Nd (boot_o_2 P) (Nd (boot_o_4 P) (Nd (boot_o_8 P) (Nd af (Lf aa) .nil) (Lf aa)) (Nd zc (Nd gT (Lf iM) .nil) (Lf iH))) (Nd (boot_o_6 P) (Nd (boot_o_10 P) (Nd aa (Lf iI) .nil) (Lf iN)) (Nd ge (Nd iL (Lf iG) .nil) (Lf aa)))))
noncomputable def zr(P:Params):BT:=(Nd (boot_o_0 P) (Nd (boot_o_1 P) (Nd (FD P) (Nd (boot_o_7 P) (Nd aa (Nd iD (Lf ej) (Lf aa)) (Nd jL (Lf ei) .nil)) (Nd iz (Nd gM (Lf iB) .nil) (Nd jr (Lf jD) .nil))) (Nd aa (Nd gP (Nd iC (Lf jT) .nil) (Nd bI (Lf bH) .nil)) (Nd (iJ P) (Nd aa (Lf aa) .nil) (Nd jX (Lf jt) .nil)))) (Nd (boot_o_5 P) (Nd (boot_o_9 P) (Nd gQ (Nd iF (Lf jC) .nil) (Nd jx (Lf jI) .nil)) (Nd af (Nd bI (Lf bH) .nil) (Nd jB (Lf ei) .nil))) (Nd f9 (Nd gS (Nd aa (Lf aa) .nil) (Nd aa (Lf aa) .nil)) (Nd iK (Nd jG (Lf jV) .nil) (Nd jz (Lf bH) .nil))))) (Nd (boot_o_2 P) (Nd (boot_o_4 P) (Nd (boot_o_8 P) (Nd af (Nd aa (Lf aa) (Lf jK)) (Nd aa (Lf aa) .nil)) (Nd aa (Nd jU (Lf jP) .nil) (Nd bI (Lf bH) .nil))) (Nd zc (Nd gT (Nd iM (Lf ju) .nil) (Nd jO (Lf jJ) .nil)) (Nd iH (Nd jS (Lf jE) .nil) (Nd gN (Lf jF) .nil)))) (Nd (boot_o_6 P) (Nd (boot_o_10 P) (Nd aa (Nd iI (Lf jw) .nil) (Nd jW (Lf jM) .nil)) (Nd iN (Nd ej (Lf ee) .nil) (Nd aa (Lf aa) .nil))) (Nd ge (Nd iL (Nd iG (Lf jA) .nil) (Nd jv (Lf jN) .nil)) (Nd aa (Nd bI (Lf bH) .nil) (Nd bI (Lf ee) .nil))))))
noncomputable def zA(P:Params):BT:=(Nd (boot_o_0 P) (Nd (boot_o_1 P) (Nd (FF P) (Nd (boot_o_7 P) (Nd aa (Nd iD (Nd ej (Lf af) .nil) (Lf aa)) (Nd jL (Nd ei (Lf aa) .nil) (Lf bY))) (Nd iz (Nd gM (Nd iB (Lf kW) .nil) (Lf mv)) (Nd jr (Lf jD) (Lf kS)))) (Nd aa (Nd gP (Nd iC (Nd jT (Lf (mx P)) .nil) (Lf (mG P))) (Nd bI (Nd bH (Lf lV) .nil) (Lf lf))) (Nd (iJ P) (Nd aa (Nd aa (Lf aa) .nil) (Lf lu)) (Nd jX (Lf jt) (Lf cx))))) (Nd (boot_o_5 P) (Nd (boot_o_9 P) (Nd gQ (Nd iF (Nd jC (Lf kT) .nil) (Lf cx)) (Nd jx (Nd jI (Lf mn) .nil) (Lf aa))) (Nd af (Nd bI (Nd bH (Lf bY) .nil) (Lf (lm P))) (Nd jB (Lf ei) (Lf lC)))) (Nd f9 (Nd gS (Nd aa (Nd aa (Lf ly) .nil) (Lf af)) (Nd aa (Lf aa) (Lf aa))) (Nd iK (Nd jG (Nd jV (Lf me) .nil) (Lf mj)) (Nd jz (Lf bH) (Lf (lP P))))))) (Nd (o2 P) (Nd (boot_o_4 P) (Nd (boot_o_8 P) (Nd af (Nd aa (Nd aa (Lf lb) .nil) (Lf jK)) (Nd aa (Nd aa (Lf (lS P)) .nil) (Lf (l8 P)))) (Nd aa (Nd jU (Nd jP (Lf cx) .nil) (Lf aa)) (Nd bI (Lf bH) (Lf lz)))) (Nd E0 (Nd gT (Nd iM (Nd ju (Lf mA) .nil) (Lf aa)) (Nd jO (Nd jJ (Lf lx) .nil) (Lf lj))) (Nd iH (Nd jS (Nd jE (Lf af) .nil) (Lf kV)) (Nd gN (Lf jF) (Lf bY))))) (Nd (boot_o_6 P) (Nd (boot_o_10 P) (Nd aa (Nd iI (Nd jw (Lf aa) .nil) (Lf bY)) (Nd jW (Nd jM (Lf lO) .nil) (Lf af))) (Nd iN (Nd ej (Nd ee (Lf (lc P)) .nil) (Lf mB)) (Nd aa (Lf aa) (Lf lQ)))) (Nd ge (Nd iL (Nd iG (Nd jA (Lf lN) .nil) (Lf l7)) (Nd jv (Lf jN) (Lf (lq P)))) (Nd aa (Nd bI (Nd bH (Lf mi) .nil) (Lf cx)) (Nd bI (Lf ee) (Lf aa)))))))
noncomputable def zv(P:Params):BT:=(Nd (boot_o_0 P) (Nd (boot_o_1 P) (Nd (Fy P) (Nd (boot_o_7 P) (Nd aa (Nd iD (Nd ej (Nd af (Lf ma) .nil) (Lf oO)) (Nd aa (Lf my) (Lf af))) (Nd jL (Nd ei (Nd aa (Lf aa) .nil) (Lf lU)) (Nd bY (Lf o8) (Lf aa)))) (Nd iz (Nd gM (Nd iB (Nd kW (Lf lH) .nil) (Lf lY)) (Nd mv (Lf lB) (Lf pJ))) (Nd jr (Nd jD (Lf o0) (Lf aa)) (Nd kS (Lf aa) (Lf pa))))) (Nd aa (Nd gP (Nd iC (Nd jT (Nd (mx P) (Lf pY) .nil) (Lf af)) (Nd (mG P) (Lf oM) (Lf k9))) (Nd bI (Nd bH (Nd lV (Lf oU) .nil) (Lf aa)) (Nd lf (Lf lG) (Lf aa)))) (Nd (iJ P) (Nd aa (Nd aa (Nd aa (Lf aa) .nil) (Lf pq)) (Nd lu (Lf lJ) (Lf lK))) (Nd jX (Nd jt (Lf af) (Lf pp)) (Nd cx (Lf aa) (Lf af)))))) (Nd (boot_o_5 P) (Nd (boot_o_9 P) (Nd gQ (Nd iF (Nd jC (Nd kT (Lf aa) .nil) (Lf lM)) (Nd cx (Lf aa) (Lf aa))) (Nd jx (Nd jI (Nd mn (Lf pv) .nil) (Lf af)) (Nd aa (Lf pK) (Lf ln)))) (Nd af (Nd bI (Nd bH (Nd bY (Lf af) .nil) (Lf aa)) (Nd (lm P) (Lf af) (Lf oR))) (Nd jB (Nd ei (Lf l4) (Lf pI)) (Nd lC (Lf la) (Lf lp))))) (Nd f9 (Nd gS (Nd aa (Nd aa (Nd ly (Lf pf) .nil) (Lf aa)) (Nd af (Lf pW) (Lf aa))) (Nd aa (Nd aa (Nd aa (Lf lh) .nil) (Lf l6)) (Nd aa (Lf af) (Lf pV)))) (Nd iK (Nd jG (Nd jV (Nd me (Lf l5) .nil) (Lf pP)) (Nd mj (Lf aa) (Lf af))) (Nd jz (Nd bH (Lf aa) (Lf lg)) (Nd (lP P) (Lf pC) (Lf aa))))))) (Nd (o2 P) (Nd (boot_o_4 P) (Nd (boot_o_8 P) (Nd af (Nd aa (Nd aa (Nd lb (Lf lL) .nil) (Lf md)) (Nd jK (Lf lI) (Lf pj))) (Nd aa (Nd aa (Nd (lS P) (Lf af) .nil) (Lf aa)) (Nd (l8 P) (Lf aa) (Lf pZ)))) (Nd aa (Nd jU (Nd jP (Nd cx (Lf aa) .nil) (Lf mq)) (Nd aa (Lf aa) (Lf aa))) (Nd bI (Nd bH (Lf kZ) (Lf af)) (Nd lz (Lf o9) (Lf lW))))) (Nd E3 (Nd gT (Nd iM (Nd ju (Nd mA (Lf aa) .nil) (Lf oX)) (Nd aa (Lf aa) (Lf lw))) (Nd jO (Nd jJ (Nd lx (Lf lF) .nil) (Lf px)) (Nd lj (Lf aa) (Lf af)))) (Nd iH (Nd jS (Nd jE (Nd af (Lf o6) .nil) (Lf aa)) (Nd kV (Lf kU) (Lf aa))) (Nd gN (Nd jF (Lf pT) (Lf lA)) (Nd bY (Lf af) (Lf oH)))))) (Nd (boot_o_6 P) (Nd (boot_o_10 P) (Nd aa (Nd iI (Nd jw (Nd aa (Lf af) .nil) (Lf aa)) (Nd bY (Lf af) (Lf o4))) (Nd jW (Nd jM (Nd lO (Lf aa) .nil) (Lf oV)) (Nd af (Lf lR) (Lf ml)))) (Nd iN (Nd ej (Nd ee (Nd (lc P) (Lf py) .nil) (Lf af)) (Nd mB (Lf oK) (Lf lT))) (Nd aa (Nd aa (Lf aa) (Lf aa)) (Nd lQ (Lf l9) (Lf aa))))) (Nd ge (Nd iL (Nd iG (Nd jA (Nd lN (Lf lX) .nil) (Lf pN)) (Nd l7 (Lf fI) (Lf af))) (Nd jv (Nd jN (Lf af) (Lf lE)) (Nd (lq P) (Lf pA) (Lf aa)))) (Nd aa (Nd bI (Nd bH (Nd mi (Lf k7) .nil) (Lf lZ)) (Nd cx (Lf af) (Lf pG))) (Nd bI (Nd ee (Lf pU) (Lf aa)) (Nd aa (Lf aa) (Lf pk))))))))
noncomputable def zy(P:Params):BT:=(Nd (boot_o_0 P) (Nd (boot_o_1 P) (Nd (FH P) (Nd (boot_o_7 P) (Nd aa (Nd iD (Nd ej (Nd af (Lf ma) (Lf s9)) (Nd oO (Lf sw) .nil)) (Nd aa (Nd my (Lf af) .nil) (Nd af (Lf oJ) .nil))) (Nd jL (Nd ei (Nd aa (Lf aa) (Lf tc)) (Nd lU (Lf r8) .nil)) (Nd bY (Nd o8 (Lf aa) .nil) (Nd aa (Lf aa) .nil)))) (Nd iz (Nd gM (Nd iB (Nd kW (Lf lH) (Lf aa)) (Nd lY (Lf sX) .nil)) (Nd mv (Nd lB (Lf sh) .nil) (Nd pJ (Lf aa) .nil))) (Nd jr (Nd jD (Nd o0 (Lf bY) (Lf tJ)) (Nd aa (Lf pz) .nil)) (Nd kS (Nd aa (Lf tw) .nil) (Nd pa (Lf af) .nil))))) (Nd aa (Nd gP (Nd iC (Nd jT (Nd (mx P) (Lf pY) (Lf tG)) (Nd af (Lf aa) .nil)) (Nd (mG P) (Nd oM (Lf oI) .nil) (Nd k9 (Lf aa) .nil))) (Nd bI (Nd bH (Nd lV (Lf oU) (Lf (r6 P))) (Nd aa (Lf af) .nil)) (Nd lf (Nd lG (Lf aa) .nil) (Nd aa (Lf sG) .nil)))) (Nd (iJ P) (Nd aa (Nd aa (Nd aa (Lf aa) (Lf aa)) (Nd pq (Lf aa) .nil)) (Nd lu (Nd lJ (Lf ph) .nil) (Nd lK (Lf r9) .nil))) (Nd jX (Nd jt (Nd af (Lf sH) .nil) (Nd pp (Lf sI) .nil)) (Nd cx (Nd aa (Lf aa) .nil) (Nd af (Lf sm) .nil)))))) (Nd (boot_o_5 P) (Nd (boot_o_9 P) (Nd gQ (Nd iF (Nd jC (Nd kT (Lf aa) (Lf tj)) (Nd lM (Lf pE) .nil)) (Nd cx (Nd aa (Lf aa) .nil) (Nd aa (Lf af) .nil))) (Nd jx (Nd jI (Nd mn (Lf pv) (Lf tH)) (Nd af (Lf pH) .nil)) (Nd aa (Nd pK (Lf oY) .nil) (Nd ln (Lf sZ) .nil)))) (Nd af (Nd bI (Nd bH (Nd bY (Lf af) (Lf sU)) (Nd aa (Lf o5) .nil)) (Nd (lm P) (Nd af (Lf r7) .nil) (Nd oR (Lf tN) .nil))) (Nd jB (Nd ei (Nd l4 (Lf aa) .nil) (Nd pI (Lf aa) .nil)) (Nd lC (Nd la (Lf pS) .nil) (Nd lp (Lf aa) .nil))))) (Nd f9 (Nd gS (Nd aa (Nd aa (Nd ly (Lf pf) (Lf af)) (Nd aa (Lf sg) .nil)) (Nd af (Nd pW (Lf aa) .nil) (Nd aa (Lf sE) .nil))) (Nd aa (Nd aa (Nd aa (Lf lh) (Lf sr)) (Nd l6 (Lf aa) .nil)) (Nd aa (Nd af (Lf sp) .nil) (Nd pV (Lf pe) .nil)))) (Nd iK (Nd jG (Nd jV (Nd me (Lf l5) (Lf te)) (Nd pP (Lf sK) .nil)) (Nd mj (Nd aa (Lf af) .nil) (Nd af (Lf sy) .nil))) (Nd jz (Nd bH (Nd aa (Lf oP) .nil) (Nd lg (Lf sM) .nil)) (Nd (lP P) (Nd pC (Lf tF) .nil) (Nd aa (Lf aa) .nil))))))) (Nd (o2 P) (Nd (boot_o_4 P) (Nd (boot_o_8 P) (Nd af (Nd aa (Nd aa (Nd lb (Lf lL) (Lf aa)) (Nd md (Lf oQ) .nil)) (Nd jK (Nd lI (Lf sR) .nil) (Nd pj (Lf aa) .nil))) (Nd aa (Nd aa (Nd (lS P) (Lf af) (Lf sD)) (Nd aa (Lf pB) .nil)) (Nd (l8 P) (Nd aa (Lf tK) .nil) (Nd pZ (Lf af) .nil)))) (Nd aa (Nd jU (Nd jP (Nd cx (Lf aa) (Lf sj)) (Nd mq (Lf pg) .nil)) (Nd aa (Nd aa (Lf aa) .nil) (Nd aa (Lf af) .nil))) (Nd bI (Nd bH (Nd kZ (Lf (s5 P)) (Lf s0)) (Nd af (Lf pM) .nil)) (Nd lz (Nd o9 (Lf oW) .nil) (Nd lW (Lf sk) .nil))))) (Nd Fb (Nd gT (Nd iM (Nd ju (Nd mA (Lf aa) (Lf aa)) (Nd oX (Lf af) .nil)) (Nd aa (Nd aa (Lf o7) .nil) (Nd lw (Lf s8) .nil))) (Nd jO (Nd jJ (Nd lx (Lf lF) (Lf sC)) (Nd px (Lf sx) .nil)) (Nd lj (Nd aa (Lf af) .nil) (Nd af (Lf pD) .nil)))) (Nd iH (Nd jS (Nd jE (Nd af (Lf o6) (Lf af)) (Nd aa (Lf af) .nil)) (Nd kV (Nd kU (Lf aa) .nil) (Nd aa (Lf sN) .nil))) (Nd gN (Nd jF (Nd pT (Lf ty) .nil) (Nd lA (Lf aa) .nil)) (Nd bY (Nd af (Lf af) .nil) (Nd oH (Lf rY) .nil)))))) (Nd (boot_o_6 P) (Nd (boot_o_10 P) (Nd aa (Nd iI (Nd jw (Nd aa (Lf af) (Lf tu)) (Nd aa (Lf dN) .nil)) (Nd bY (Nd af (Lf sJ) .nil) (Nd o4 (Lf sP) .nil))) (Nd jW (Nd jM (Nd lO (Lf aa) (Lf su)) (Nd oV (Lf aa) .nil)) (Nd af (Nd lR (Lf oZ) .nil) (Nd ml (Lf aa) .nil)))) (Nd iN (Nd ej (Nd ee (Nd (lc P) (Lf py) (Lf sW)) (Nd af (Lf dN) .nil)) (Nd mB (Nd oK (Lf pn) .nil) (Nd lT (Lf aa) .nil))) (Nd aa (Nd aa (Nd aa (Lf tM) .nil) (Nd aa (Lf af) .nil)) (Nd lQ (Nd l9 (Lf dN) .nil) (Nd aa (Lf ta) .nil))))) (Nd ge (Nd iL (Nd iG (Nd jA (Nd lN (Lf lX) (Lf sA)) (Nd pN (Lf aa) .nil)) (Nd l7 (Nd fI (Lf af) .nil) (Nd af (Lf si) .nil))) (Nd jv (Nd jN (Nd af (Lf aa) (Lf s7)) (Nd lE (Lf sV) .nil)) (Nd (lq P) (Nd pA (Lf aa) .nil) (Nd aa (Lf aa) .nil)))) (Nd aa (Nd bI (Nd bH (Nd mi (Lf k7) (Lf aa)) (Nd lZ (Lf aa) .nil)) (Nd cx (Nd af (Lf sf) .nil) (Nd pG (Lf sv) .nil))) (Nd bI (Nd ee (Nd pU (Lf aa) .nil) (Nd aa (Lf pQ) .nil)) (Nd aa (Nd aa (Lf aa) .nil) (Nd pk (Lf af) .nil))))))))
noncomputable def zw(P:Params):BT:=(Nd (boot_o_0 P) (Nd (boot_o_1 P) (Nd (iw P) (Nd (boot_o_7 P) (Nd aa (Nd iD (Nd ej (Nd af (Lf ma) (Lf s9)) (Nd oO (Lf sw) (Lf af))) (Nd aa (Nd my (Lf af) (Lf sq)) (Nd af (Lf oJ) .nil))) (Nd jL (Nd ei (Nd aa (Lf aa) (Lf tc)) (Nd lU (Lf r8) .nil)) (Nd bY (Nd o8 (Lf aa) (Lf wd)) (Nd aa (Lf aa) .nil)))) (Nd iz (Nd gM (Nd iB (Nd kW (Lf lH) (Lf aa)) (Nd lY (Lf sX) .nil)) (Nd mv (Nd lB (Lf sh) (Lf sQ)) (Nd pJ (Lf aa) .nil))) (Nd jr (Nd jD (Nd o0 (Lf bY) (Lf tJ)) (Nd aa (Lf pz) .nil)) (Nd kS (Nd aa (Lf tw) (Lf aa)) (Nd pa (Lf af) .nil))))) (Nd aa (Nd gP (Nd iC (Nd jT (Nd (mx P) (Lf pY) (Lf tG)) (Nd af (Lf aa) .nil)) (Nd (mG P) (Nd oM (Lf oI) (Lf aa)) (Nd k9 (Lf aa) .nil))) (Nd bI (Nd bH (Nd lV (Lf oU) (Lf (r6 P))) (Nd aa (Lf af) .nil)) (Nd lf (Nd lG (Lf aa) (Lf af)) (Nd aa (Lf sG) .nil)))) (Nd (iJ P) (Nd aa (Nd aa (Nd aa (Lf aa) (Lf aa)) (Nd pq (Lf aa) .nil)) (Nd lu (Nd lJ (Lf ph) (Lf sL)) (Nd lK (Lf r9) .nil))) (Nd jX (Nd jt (Nd af (Lf sH) (Lf af)) (Nd pp (Lf sI) .nil)) (Nd cx (Nd aa (Lf aa) (Lf vZ)) (Nd af (Lf sm) .nil)))))) (Nd (boot_o_5 P) (Nd (boot_o_9 P) (Nd gQ (Nd iF (Nd jC (Nd kT (Lf aa) (Lf tj)) (Nd lM (Lf pE) (Lf mz))) (Nd cx (Nd aa (Lf aa) (Lf aa)) (Nd aa (Lf af) .nil))) (Nd jx (Nd jI (Nd mn (Lf pv) (Lf tH)) (Nd af (Lf pH) .nil)) (Nd aa (Nd pK (Lf oY) (Lf se)) (Nd ln (Lf sZ) .nil)))) (Nd af (Nd bI (Nd bH (Nd bY (Lf af) (Lf sU)) (Nd aa (Lf o5) .nil)) (Nd (lm P) (Nd af (Lf r7) (Lf af)) (Nd oR (Lf tN) .nil))) (Nd jB (Nd ei (Nd l4 (Lf aa) (Lf s6)) (Nd pI (Lf aa) .nil)) (Nd lC (Nd la (Lf pS) (Lf wh)) (Nd lp (Lf aa) .nil))))) (Nd f9 (Nd gS (Nd aa (Nd aa (Nd ly (Lf pf) (Lf af)) (Nd aa (Lf sg) .nil)) (Nd af (Nd pW (Lf aa) (Lf vY)) (Nd aa (Lf sE) .nil))) (Nd aa (Nd aa (Nd aa (Lf lh) (Lf sr)) (Nd l6 (Lf aa) .nil)) (Nd aa (Nd af (Lf sp) (Lf r5)) (Nd pV (Lf pe) .nil)))) (Nd iK (Nd jG (Nd jV (Nd me (Lf l5) (Lf te)) (Nd pP (Lf sK) .nil)) (Nd mj (Nd aa (Lf af) (Lf aa)) (Nd af (Lf sy) .nil))) (Nd jz (Nd bH (Nd aa (Lf oP) (Lf aa)) (Nd lg (Lf sM) .nil)) (Nd (lP P) (Nd pC (Lf tF) (Lf sS)) (Nd aa (Lf aa) .nil))))))) (Nd (o2 P) (Nd (boot_o_4 P) (Nd (boot_o_8 P) (Nd af (Nd aa (Nd aa (Nd lb (Lf lL) (Lf aa)) (Nd md (Lf oQ) (Lf wc))) (Nd jK (Nd lI (Lf sR) (Lf sb)) (Nd pj (Lf aa) .nil))) (Nd aa (Nd aa (Nd (lS P) (Lf af) (Lf sD)) (Nd aa (Lf pB) .nil)) (Nd (l8 P) (Nd aa (Lf tK) (Lf tE)) (Nd pZ (Lf af) .nil)))) (Nd aa (Nd jU (Nd jP (Nd cx (Lf aa) (Lf sj)) (Nd mq (Lf pg) .nil)) (Nd aa (Nd aa (Lf aa) (Lf aa)) (Nd aa (Lf af) .nil))) (Nd bI (Nd bH (Nd kZ (Lf (s5 P)) (Lf s0)) (Nd af (Lf pM) .nil)) (Nd lz (Nd o9 (Lf oW) (Lf af)) (Nd lW (Lf sk) .nil))))) (Nd vR (Nd gT (Nd iM (Nd ju (Nd mA (Lf aa) (Lf aa)) (Nd oX (Lf af) .nil)) (Nd aa (Nd aa (Lf o7) (Lf aa)) (Nd lw (Lf s8) .nil))) (Nd jO (Nd jJ (Nd lx (Lf lF) (Lf sC)) (Nd px (Lf sx) .nil)) (Nd lj (Nd aa (Lf af) (Lf v9)) (Nd af (Lf pD) .nil)))) (Nd iH (Nd jS (Nd jE (Nd af (Lf o6) (Lf af)) (Nd aa (Lf af) .nil)) (Nd kV (Nd kU (Lf aa) (Lf tD)) (Nd aa (Lf sN) .nil))) (Nd gN (Nd jF (Nd pT (Lf ty) (Lf aa)) (Nd lA (Lf aa) .nil)) (Nd bY (Nd af (Lf af) (Lf tI)) (Nd oH (Lf rY) .nil)))))) (Nd (boot_o_6 P) (Nd (boot_o_10 P) (Nd aa (Nd iI (Nd jw (Nd aa (Lf af) (Lf tu)) (Nd aa (Lf dN) (Lf sY))) (Nd bY (Nd af (Lf sJ) (Lf af)) (Nd o4 (Lf sP) .nil))) (Nd jW (Nd jM (Nd lO (Lf aa) (Lf su)) (Nd oV (Lf aa) .nil)) (Nd af (Nd lR (Lf oZ) (Lf aa)) (Nd ml (Lf aa) .nil)))) (Nd iN (Nd ej (Nd ee (Nd (lc P) (Lf py) (Lf sW)) (Nd af (Lf dN) .nil)) (Nd mB (Nd oK (Lf pn) (Lf wj)) (Nd lT (Lf aa) .nil))) (Nd aa (Nd aa (Nd aa (Lf tM) (Lf aa)) (Nd aa (Lf af) .nil)) (Nd lQ (Nd l9 (Lf dN) (Lf aa)) (Nd aa (Lf ta) .nil))))) (Nd ge (Nd iL (Nd iG (Nd jA (Nd lN (Lf lX) (Lf sA)) (Nd pN (Lf aa) .nil)) (Nd l7 (Nd fI (Lf af) (Lf tC)) (Nd af (Lf si) .nil))) (Nd jv (Nd jN (Nd af (Lf aa) (Lf s7)) (Nd lE (Lf sV) .nil)) (Nd (lq P) (Nd pA (Lf aa) (Lf sO)) (Nd aa (Lf aa) .nil)))) (Nd aa (Nd bI (Nd bH (Nd mi (Lf k7) (Lf aa)) (Nd lZ (Lf aa) .nil)) (Nd cx (Nd af (Lf sf) (Lf af)) (Nd pG (Lf sv) .nil))) (Nd bI (Nd ee (Nd pU (Lf aa) (Lf wg)) (Nd aa (Lf pQ) .nil)) (Nd aa (Nd aa (Lf aa) (Lf aa)) (Nd pk (Lf af) .nil))))))))
noncomputable def pc(P:Params):Heap:=⟨#[(boot_o_0 P),(boot_o_1 P),(o2 P),(iw P),(boot_o_4 P),(boot_o_5 P),(boot_o_6 P),(boot_o_7 P),(boot_o_8 P),(boot_o_9 P),(boot_o_10 P),aa,vR,f9,ge,aa,af,gQ,aa,gP,gT,gS,iL,iz,aa,af,iN,(iJ P),iH,iK,aa,iD,aa,iF,iI,iC,iM,aa,iG,gM,jU,bI,ej,aa,jS,jG,bI,jL,aa,jx,jW,bI,jO,aa,jv,jr,bI,jB,aa,jX,gN,jz,bI,ej,aa,jC,jw,jT,ju,aa,jA,iB,jP,bH,ee,aa,jE,jV,bH,ei,aa,jI,jM,bH,jJ,aa,jN,jD,bH,ei,aa,jt,jF,bH,ee,aa,jK,cx,bY,(mG P),aa,af,l7,mv,aa,(lm P),mB,lu,kV,mj,cx,bY,(l8 P),aa,af,lf,lj,aa,(lq P),kS,lz,lC,lQ,cx,bY,(lP P),aa,af,lb,kT,aa,(mx P),mA,ly,lN,kW,cx,bY,(lc P),aa,af,me,mi,aa,(lS P),mn,lO,lV,lx,aa,af,o0,kZ,l4,aa,af,pT,aa,pU,my,lI,aa,af,oM,aa,pW,fI,lB,aa,af,oK,lJ,kU,aa,af,o8,aa,pK,lR,lG,aa,af,pA,aa,o9,la,l9,aa,af,pC,aa,oO,md,lM,aa,af,oX,aa,pN,lY,mq,aa,af,pq,aa,pP,lZ,lU,aa,af,oV,aa,px,l6,lE,aa,af,pI,aa,pp,lA,lg,aa,af,pj,aa,o4,k9,lw,aa,af,pJ,aa,oR,lT,lK,aa,af,pG,aa,pZ,ln,ml,aa,af,pV,aa,pa,lW,lp,aa,af,oH,aa,pk,ma,lL,aa,af,pY,aa,pf,lX,lH,aa,af,py,aa,o6,l5,k7,aa,af,pv,aa,oU,lF,lh,aa,bY,(s5 P),aa,tM,sH,ty,oP,aa,af,sR,aa,sJ,oI,o7,aa,af,sh,aa,r7,pn,ph,aa,af,sf,aa,tK,oY,oZ,aa,af,sp,aa,tw,oW,pS,dN,aa,af,tF,aa,sw,oQ,pE,dN,aa,af,sg,aa,sX,pg,o5,dN,aa,af,sK,aa,r8,pB,pH,aa,af,sx,aa,sV,pz,pM,aa,af,sI,aa,sM,pQ,oJ,aa,af,sP,aa,s8,sE,si,aa,af,tN,aa,r9,sN,sy,sv,aa,af,sZ,aa,sG,pD,pe,aa,af,sk,aa,ta,sm,rY,aa,af,s9,aa,tj,tu,tG,aa,af,sA,aa,sj,sU,sW,aa,af,te,aa,tc,sD,tH,su,(r6 P),sC,sr,s7,tJ,s0,s6,aa,af,aa,aa,wg,sq,sb,aa,af,aa,aa,vY,tC,sQ,aa,af,wj,sL,tD,aa,af,wd,tE,se,aa,af,v9,r5,sO,aa,af,wh,aa,vZ,tI,sS,aa,af,wc,mz,sY],{}⟩
noncomputable def hK(P:Params):Frag:=[(0,(boot_o_0 P)),(1,(boot_o_1 P)),(2,(o2 P)),(3,(iw P)),(4,(boot_o_4 P)),(5,(boot_o_5 P)),(6,(boot_o_6 P)),(7,(boot_o_7 P)),(8,(boot_o_8 P)),(9,(boot_o_9 P)),(10,(boot_o_10 P)),(11,aa),(12,vR),(13,f9),(14,ge),(15,aa),(16,af),(17,gQ),(18,aa),(19,gP),(20,gT),(21,gS),(22,iL),(23,iz),(24,aa),(25,af),(26,iN),(27,(iJ P)),(28,iH),(29,iK),(30,aa),(31,iD),(32,aa),(33,iF),(34,iI),(35,iC),(36,iM),(37,aa),(38,iG),(39,gM),(40,jU),(41,bI),(42,ej),(43,aa),(44,jS),(45,jG),(46,bI),(47,jL),(48,aa),(49,jx),(50,jW),(51,bI),(52,jO),(53,aa),(54,jv),(55,jr),(56,bI),(57,jB),(58,aa),(59,jX),(60,gN),(61,jz),(62,bI),(63,ej),(64,aa),(65,jC),(66,jw),(67,jT),(68,ju),(69,aa),(70,jA),(71,iB),(72,jP),(73,bH),(74,ee),(75,aa),(76,jE),(77,jV),(78,bH),(79,ei),(80,aa),(81,jI),(82,jM),(83,bH),(84,jJ),(85,aa),(86,jN),(87,jD),(88,bH),(89,ei),(90,aa),(91,jt),(92,jF),(93,bH),(94,ee),(95,aa),(96,jK),(97,cx),(98,bY),(99,(mG P)),(100,aa),(101,af),(102,l7),(103,mv),(104,aa),(105,(lm P)),(106,mB),(107,lu),(108,kV),(109,mj),(110,cx),(111,bY),(112,(l8 P)),(113,aa),(114,af),(115,lf),(116,lj),(117,aa),(118,(lq P)),(119,kS),(120,lz),(121,lC),(122,lQ),(123,cx),(124,bY),(125,(lP P)),(126,aa),(127,af),(128,lb),(129,kT),(130,aa),(131,(mx P)),(132,mA),(133,ly),(134,lN),(135,kW),(136,cx),(137,bY),(138,(lc P)),(139,aa),(140,af),(141,me),(142,mi),(143,aa),(144,(lS P)),(145,mn),(146,lO),(147,lV),(148,lx),(149,aa),(150,af),(151,o0),(152,kZ),(153,l4),(154,aa),(155,af),(156,pT),(157,aa),(158,pU),(159,my),(160,lI),(161,aa),(163,oM),(164,aa),(165,pW),(166,fI),(167,lB),(168,aa),(169,af),(170,oK),(171,lJ),(172,kU),(173,aa),(174,af),(175,o8),(176,aa),(177,pK),(178,lR),(179,lG),(180,aa),(181,af),(182,pA),(183,aa),(184,o9),(185,la),(186,l9),(187,aa),(188,af),(189,pC),(190,aa),(191,oO),(192,md),(193,lM),(194,aa),(195,af),(196,oX),(197,aa),(198,pN),(199,lY),(200,mq),(201,aa),(202,af),(203,pq),(204,aa),(205,pP),(206,lZ),(207,lU),(208,aa),(209,af),(210,oV),(211,aa),(212,px),(213,l6),(214,lE),(215,aa),(216,af),(217,pI),(218,aa),(219,pp),(220,lA),(221,lg),(222,aa),(223,af),(224,pj),(225,aa),(226,o4),(227,k9),(228,lw),(229,aa),(230,af),(231,pJ),(232,aa),(233,oR),(234,lT),(235,lK),(236,aa),(237,af),(238,pG),(239,aa),(240,pZ),(241,ln),(242,ml),(243,aa),(244,af),(245,pV),(246,aa),(247,pa),(248,lW),(249,lp),(250,aa),(251,af),(252,oH),(253,aa),(254,pk),(255,ma),(256,lL),(257,aa),(258,af),(259,pY),(260,aa),(261,pf),(262,lX),(263,lH),(264,aa),(265,af),(266,py),(267,aa),(268,o6),(269,l5),(270,k7),(271,aa),(272,af),(273,pv),(274,aa),(275,oU),(276,lF),(277,lh),(278,aa),(279,bY),(280,(s5 P)),(281,aa),(282,tM),(283,sH),(284,ty),(285,oP),(286,aa),(287,af),(288,sR),(289,aa),(290,sJ),(291,oI),(292,o7),(293,aa),(294,af),(295,sh),(296,aa),(297,r7),(298,pn),(299,ph),(300,aa),(301,af),(302,sf),(303,aa),(304,tK),(305,oY),(306,oZ),(307,aa),(308,af),(309,sp),(310,aa),(311,tw),(312,oW),(313,pS),(314,dN),(315,aa),(316,af),(317,tF),(318,aa),(319,sw),(320,oQ),(321,pE),(322,dN),(323,aa),(324,af),(325,sg),(326,aa),(327,sX),(328,pg),(329,o5),(330,dN),(331,aa),(332,af),(333,sK),(334,aa),(335,r8),(336,pB),(337,pH),(338,aa),(339,af),(340,sx),(341,aa),(342,sV),(343,pz),(344,pM),(345,aa),(346,af),(347,sI),(348,aa),(349,sM),(350,pQ),(351,oJ),(352,aa),(353,af),(354,sP),(355,aa),(356,s8),(357,sE),(358,si),(359,aa),(360,af),(361,tN),(362,aa),(363,r9),(364,sN),(365,sy),(366,sv),(367,aa),(368,af),(369,sZ),(370,aa),(371,sG),(372,pD),(373,pe),(374,aa),(375,af),(376,sk),(377,aa),(378,ta),(379,sm),(380,rY),(381,aa),(382,af),(383,s9),(384,aa),(385,tj),(386,tu),(387,tG),(388,aa),(389,af),(390,sA),(391,aa),(392,sj),(393,sU),(394,sW),(395,aa),(396,af),(397,te),(398,aa),(399,tc),(400,sD),(401,tH),(402,su),(403,(r6 P)),(404,sC),(405,sr),(406,s7),(407,tJ),(408,s0),(409,s6),(410,aa),(411,af),(412,aa),(413,aa),(414,wg),(415,sq),(416,sb),(417,aa),(418,af),(419,aa),(420,aa),(421,vY),(422,tC),(423,sQ),(424,aa),(425,af),(426,wj),(427,sL),(428,tD),(429,aa),(430,af),(431,wd),(432,tE),(433,se),(434,aa),(435,af),(436,v9),(437,r5),(438,sO),(439,aa),(440,af),(441,wh),(442,aa),(443,vZ),(444,tI),(445,sS),(446,aa),(448,wc),(449,mz),(450,sY)]
def rN:List Str:=(["_wall","BLANK_HASH","EXP","TWO_BITS","PREFIX_00","PREFIX_100000","KV_TYPE","BRANCH_TYPE","LEAF_TYPE","BINARY_TRIE_NODE_TYPES","KV_TYPE_PREFIX","BRANCH_TYPE_PREFIX","LEAF_TYPE_PREFIX","BYTE_1","BYTE_0","InvalidNode","ValidationError","NodeOverrideError","InvalidKeyError","partition_all","decode_from_bin","_decode_from_bin","encode_to_bin","_encode_to_bin","encode_from_bin_keypath","decode_to_bin_keypath","validate_is_bytes","validate_length","validate_is_bin_node","get_common_prefix_length","parse_node","encode_kv_node","encode_branch_node","encode_leaf_node","get_trie_nodes","_get_trie_nodes","get_witness_for_key_prefix","_get_witness_for_key_prefix","BinaryTrie","_law_keys","_law_octets","_law_ends","_law_path","_law_node","_law_tree","_law_told"]:List String).map Str.ofString
noncomputable def pX:Env:={scope:=P0.main.scope,locals:=mainNs,globals:=mainNs,cells:=[],code:=.ref 13,frame:=some 14}
def dB(i j:Nat):List Stmt:=(P0.main.body.drop i).take (j - i)
noncomputable abbrev cE:Code:=.body (behindTheImports P0) pX
noncomputable abbrev sT(t:Params→BT)(n k:Nat)(g:Array GenState)(w:World)(os:OsState):SharedT:=⟨t w.params,n,{},g,{},k,os⟩
noncomputable def pL(w:World)(n i j:Nat)(p:Pos)(a:SharedT):Option (Flow×SharedT×Code×Pos):=
 segRunT treeTable P0 w 11 (some (.ref 6)) 1 n a (piecesOf (dB i j) pX cE p [topFrame ⟨0,0,0,0⟩])
noncomputable def pR(q:Pos)(b:SharedT):Option (Flow×SharedT×Code×Pos):=some (.next,b,cE,q)
noncomputable def pF(w:World)(n i j:Nat)(p:Pos)(a:SharedT):Option (Flow×SharedT×Code×Pos):=
 PySem.W.Fast.tw10110043849684766642 PySem.W.Fast.tw14364793385576792824 P0 w 11 (some (.ref 6)) 1 n a (piecesOf (dB i j) pX cE p [topFrame ⟨0,0,0,0⟩])
theorem fH:pL=pF:=by
 unfold pL pF
 rw[PySem.W.Fast.te10110043849684766642,PySem.W.Fast.te14364793385576792824]
def FT(w:World):Prop:=∀os,pL w 50 0 3 ⟨0,0,0,0⟩ (sT tB 15 187 #[] w os)=pR ⟨5,0,5,10⟩ (sT t2 22 198 #[] w os)
theorem Ef(w:World):FT w:=by
 intro os
 rw[fH]
 kernel_rfl
def jH(w:World):Prop:=∀os,pL w 900 3 4 ⟨5,0,5,10⟩ (sT t2 22 198 #[] w os)=pR ⟨6,0,6,3⟩ (sT t3 40 255 #[.finished] w os)
theorem E7(w:World):jH ((w.withFollow "special-get-raises" false).withFollow "comprehension-iter-twice" false):=by
 intro os
 rw[fH]
 kernel_rfl
theorem E5(w:World):jH ((w.withFollow "special-get-raises" true).withFollow "comprehension-iter-twice" false):=by
 intro os
 rw[fH]
 kernel_rfl
theorem Fa(w:World):jH ((w.withFollow "special-get-raises" false).withFollow "comprehension-iter-twice" true):=by
 intro os
 rw[fH]
 kernel_rfl
theorem EY(w:World):jH ((w.withFollow "special-get-raises" true).withFollow "comprehension-iter-twice" true):=by
 intro os
 rw[fH]
 kernel_rfl
theorem El:∀w,jH w:=byRow2 "comprehension-iter-twice" (byRow2 (P:=λw=>jH (w.withFollow "comprehension-iter-twice" false)) "special-get-raises" E7 E5) (byRow2 (P:=λw=>jH (w.withFollow "comprehension-iter-twice" true)) "special-get-raises" Fa EY)
def wo(w:World):Prop:=∀os,pL w 1200 4 17 ⟨6,0,6,3⟩ (sT t3 40 255 #[.finished] w os)=pR ⟨19,0,19,8⟩ (sT zr 97 307 #[.finished] w os)
theorem FG(w:World):wo (w.withFollow "special-get-raises" false):=by
 intro os
 rw[fH]
 kernel_rfl
theorem FA(w:World):wo (w.withFollow "special-get-raises" true):=by
 intro os
 rw[fH]
 kernel_rfl
theorem Ep:∀w,wo w:=byRow2 "special-get-raises" FG FA
def FV(w:World):Prop:=∀os,pL w 900 17 21 ⟨19,0,19,8⟩ (sT zr 97 307 #[.finished] w os)=pR ⟨26,0,27,8⟩ (sT zA 149 387 #[.finished] w os)
theorem Ez(w:World):FV w:=by
 intro os
 rw[fH]
 kernel_rfl
def F0(w:World):Prop:=∀os,pL w 700 21 46 ⟨26,0,27,8⟩ (sT zA 149 387 #[.finished] w os)=pR ⟨165,0,165,8⟩ (sT zv 278 557 #[.finished] w os)
theorem Em(w:World):F0 w:=by
 intro os
 rw[fH]
 kernel_rfl
def F5(w:World):Prop:=∀os,pL w 900 46 47 ⟨165,0,165,8⟩ (sT zv 278 557 #[.finished] w os)=pR ⟨166,0,322,31⟩ (sT zy 409 749 #[.finished] w os)
theorem DY(w:World):F5 w:=by
 intro os
 rw[fH]
 kernel_rfl
def FU(w:World):Prop:=∀os,pL w 300 47 56 ⟨166,0,322,31⟩ (sT zy 409 749 #[.finished] w os)=pR ⟨359,0,401,162⟩ (sT zw 451 804 #[.finished] w os)
theorem EG(w:World):FU w:=by
 intro os
 rw[fH]
 kernel_rfl
abbrev q0:Pos:=⟨0,0,0,0⟩
noncomputable def sB(w:World)(os:OsState):Shared:=(sT tB 15 187 #[] w os).abs
noncomputable def FW(w:World)(os:OsState):Shared:=(sT zw 451 804 #[.finished] w os).abs
noncomputable def sF(w:World)(os:OsState):Shared:=⟨pc w.params,#[.finished],{},804,os⟩
noncomputable def FN(w:World)(os:OsState):=topGo treeTable P0 w 11 (some (.ref 6)) 12 ⟨boot_heap w.params,Array.mk [],boot_drawn,boot_toks,os⟩ (topStub P0)
noncomputable def Fv(w:World)(os:OsState):Option (Shared×Thread):=some (sB w os,⟨denote treeTable cE,cE,q0,[topFrame q0]⟩)
def FC:Prop:=∀w os,FN w os=Fv w os
theorem DC:FC:=by
 intro w os
 kernel_rfl
noncomputable def FM(w:World)(os:OsState):=topRun treeTable P0 w 11 (some (.ref 6)) 2 (FW w os) ⟨doneF .next,cE,⟨359,0,401,162⟩,[topFrame q0]⟩
noncomputable def FQ(w:World)(os:OsState):Option Shared:=some (sF w os)
def Fs:Prop:=∀w os,FM w os=FQ w os
theorem Dk:Fs:=by
 intro w os
 kernel_rfl
theorem CM:behindTheImports P0=dB 0 3++(dB 3 4++(dB 4 17++(dB 17 21++(dB 21 46++(dB 46 47++(dB 47 56++[])))))):=by kernel_rfl
theorem Ff(w:World)(os:OsState):topRun treeTable P0 w 11 (some (.ref 6)) (12+(1+(50+(900+(1200+(900+(700+(900+(300+2))))))))) ⟨boot_heap w.params,Array.mk [],boot_drawn,boot_toks,os⟩ (topStub P0)=some (sF w os):=by
 refine go_top (DC w os) (piece_block (p':=q0) (s':=sB w os) (by rfl) ?_)
 have e:restOf (behindTheImports P0) pX cE q0 [topFrame q0]=restOf (dB 0 3++(dB 3 4++(dB 4 17++(dB 17 21++(dB 21 46++(dB 46 47++(dB 47 56++[]))))))) pX cE q0 [topFrame q0]:=by rw[←CM]
 rw[e]
 refine kD (kE (Ef w os)) ?_
 refine kD (kE (El w os)) ?_
 refine kD (kE (Ep w os)) ?_
 refine kD (kE (Ez w os)) ?_
 refine kD (kE (Em w os)) ?_
 refine kD (kE (DY w os)) ?_
 refine kD (kE (EG w os)) ?_
 exact piece_nil (Dk w os)
noncomputable def qV:Program:={P0 with main:={P0.main with body:=[aD 55]}}
def wn(s:Shared):Bool:=recOk [] s
def zz:List Addr:=(List.range 451).filter λa=>a !=162&&a !=447
noncomputable def F6(w:World)(os:OsState):Bool:=staticsOk (importedModules P0.main.body) (boot_heap w.params) (pc w.params)&&namesBound P0 (pc w.params)&&gensDone (sF w os)&&laidKept (boot_heap w.params) (pc w.params)
def FY:Prop:=∀w os,F6 w os=true
theorem DT:FY:=by
 intro w os
 kernel_rfl
noncomputable def FX(w:World)(os:OsState):=openSeen qV rN (importedModules P0.main.body) wn false (sF w os)
noncomputable def FL:=openGood qV rN
def FS:Prop:=∀w os,FX w os=FL
theorem EC:FS:=by
 intro w os
 kernel_rfl
theorem DP:∀P,zz=(hK P).map (·.1):=λP=>by kernel_rfl
noncomputable abbrev Gu:Hook:=kmHook hK zz DP [162,447]
theorem En:∀w os,Gu.obs (sF w os)=Gu.val w:=by
 intro w os
 kernel_rfl
theorem EI:∀w:World,((boot_heap w.params).isNs mainGlobals&&(Array.mk ([]:List GenState)).size==0,(boot_heap w.params).objs.size,(boot_heap w.params).nsMap mainGlobals "__annotations__")=(true,11,some (.ref 6)):=by
 intro w
 kernel_rfl
theorem EA:∀w:World,(fencedOpening treeTable P0 w 10000).map (λs=>(s.heap,s.gens,s.drawn,s.toks))=some (boot_heap w.params,Array.mk [],boot_drawn,boot_toks):=
 boot_open (by kernel_rfl) (by kernel_rfl) (λs=>by kernel_rfl)
theorem EH:LeftO P0 qV rN wn Gu.obs Gu.val 10000 false:=
 LeftO.of_pieces (H₀:=boot_heap) (H₁:=pc) (gs₁:=#[.finished]) (d₁:={}) (k₁:=804) EA EI (λw os=>Ff w os) (by kernel_rfl) λw=>by
  funext os
  exact Prod.ext (DT w os) (Prod.ext (EC w os) (En w os))
noncomputable def X0(w:World):Cx:={w:=w,B:=λa=>(hK w.params).lookup a,tabs:=[(166,162)]}
def jR(o:Obj):Array DictEntry:=match o.data with|.dict es _=>es|_=>#[]
def oz(o:Obj):Bool:=match o.data with|.dict es _=>es.all (λe=>match e.key with|.str _ _=>true|_=>false)|_=>false
theorem kO{h:Heap}{a:Addr}{o:Obj}(ho:h.get? a=some o)(hs:oz o=true):h.Ns a (nsFind (jR o)):=by
 unfold oz at hs
 cases hd:o.data with
 |dict es ep=>
  rw[hd] at hs
  refine⟨o,es,ep,ho,hd,λe he=>?_,λname=>by unfold jR;rw[hd]⟩
  have hx:=Array.all_eq_true_iff_forall_mem.mp hs e he
  cases hk:e.key<;>rw[hk] at hx<;>first|exact⟨_,_,rfl⟩|cases hx
 |_=>rw[hd] at hs;cases hs
theorem rG(w:World):(hK w.params).lookup mainGlobals=some (iw w.params):=by kernel_rfl
theorem zd(w:World):(hK w.params).lookup builtinsNs=some (boot_o_0 w.params):=by kernel_rfl
theorem zp(w:World):(hK w.params).lookup cStatics=some (o2 w.params):=by kernel_rfl
theorem vE(w:World):oz (iw w.params)=true:=by kernel_rfl
theorem ze(w:World):oz (boot_o_0 w.params)=true:=by kernel_rfl
theorem Fu(w:World):oz (o2 w.params)=true:=by kernel_rfl
theorem bp{w:World}{x:Str}{V:AV}{v:Value}(r:Rep (X0 w).B V v)(e:nsFind (jR (iw w.params)) x=some v:=by kernel_rfl):aL (X0 w) x V:=
 ⟨v,λh hB=>⟨_,_,kO (hB _ _ (rG w)) (vE w),kO (hB _ _ (zd w)) (ze w),.inl e⟩,r⟩
theorem eG{w:World}{x:Str}{V:AV}{v:Value}(r:Rep (X0 w).B V v)(e1:nsFind (jR (iw w.params)) x=none:=by kernel_rfl)(e:nsFind (jR (boot_o_0 w.params)) x=some v:=by kernel_rfl):aL (X0 w) x V:=
 ⟨v,λh hB=>⟨_,_,kO (hB _ _ (rG w)) (vE w),kO (hB _ _ (zd w)) (ze w),.inr ⟨e1,e⟩⟩,r⟩
theorem yW{h:Heap}{w:World}(e:h.get? cStatics=some (o2 w.params)):h.NoLimit:=⟨_,kO e (Fu w),by kernel_rfl⟩
theorem bD{w:World}{a c:Addr}(o oc:Obj){st:Stmt}{q:Str}{pm d:Value}{vs:Array Value}{t:Tok}(h2:o.data=.func (cP st q (.ref c) pm d))(h4:oc.data=.fields vs)(h5:vs[1]?=some (.str q t))
  (h1:(hK w.params).lookup a=some o:=by kernel_rfl)(h3:(hK w.params).lookup c=some oc:=by kernel_rfl):FnAt (X0 w) a (cP st q (.ref c) pm d) (cj st):=
 ⟨⟨o,h1,h2⟩,⟨c,oc,vs,t,rfl,h3,h4,h5⟩,⟨_,zp w,λh e=>yW e⟩,rfl⟩
section
variable {g:View}
theorem ca:Rep g (.ref a) (.ref a):=by unfold Rep;rfl
theorem gF:Rep g (.typ n) (.type n):=by unfold Rep;rfl
theorem rU:Rep g (.blt n) (.builtin n):=by unfold Rep;rfl
theorem dM:Rep g (.int i) (.int i t):=by unfold Rep;exact⟨t,rfl⟩
theorem cX(h:a=b.toArray):Rep g (.bytes b) (.bytes a t):=by unfold Rep;exact⟨t,by rw[h]⟩
theorem vV(h1:g a=some o)(h2:o.cls=.type "list")(h3:o.data=.seq vs.toArray n)(h:RepL g l vs):Rep g (.lst l) (.ref a):=by unfold Rep;exact⟨a,vs,rfl,⟨o,n,h1,h2,h3⟩,h⟩
theorem zm(h1:g a=some o)(h2:o.cls=.type "tuple")(h3:o.data=.seq vs.toArray n)(h:RepL g l vs):Rep g (.tup l) (.ref a):=by unfold Rep;exact⟨a,vs,rfl,⟨o,n,h1,h2,h3⟩,h⟩
end
theorem Fh(w:World):Base (X0 w):={lim:=λh hB=>yW (hB _ _ (zp w)),bi:=λh hB=>⟨_,4,boot_o_4 w.params,kO (hB _ _ (rG w)) (vE w),by kernel_rfl,by decide,hB _ _ (by kernel_rfl),by kernel_rfl,by kernel_rfl,by kernel_rfl⟩,tbu:=λp hp q hq _=>by rw[fp.mp hp,fp.mp hq],g_isinstance:=eG rU,g_len:=eG rU,g_bytes:=eG gF,g_list:=eG gF,g_tuple:=eG gF,g_int:=eG gF,g_range:=eG gF,g_sum:=eG rU,g_enumerate:=eG gF,g_reversed:=eG gF,f_part:=⟨_,_,bD l4 kZ rfl rfl rfl⟩,g_part:=bp ca,f_dfb:=⟨_,_,bD lI my rfl rfl rfl⟩,g_dfb:=bp ca,f_dfb_:=⟨_,bD lB fI rfl rfl rfl⟩,g_dfb_:=bp ca,t_dfb_:=fp.mpr rfl,g_TWO:=bp (v:=(.ref 60)) (vV (o:=gN) (vs:=[.bytes #[0,0] 257,.bytes #[0,1] 260,.bytes #[1,0] 263,.bytes #[1,1] 266]) (by kernel_rfl) rfl rfl (.cons (cX rfl) (.cons (cX rfl) (.cons (cX rfl) (.cons (cX rfl) .nil))))),g_TWOr:=bp ca,o_TWO:=⟨gN,257,260,263,266,by kernel_rfl,rfl,rfl,0,rfl⟩,g_P00:=bp (v:=(.bytes #[0,0] 270)) (cX (by decide)),g_P10:=bp (v:=(.bytes #[1,0,0,0,0,0] 278)) (cX (by decide)),f_efk:=⟨_,_,bD l9 la rfl rfl rfl⟩,g_efk:=bp ca,f_dtk:=⟨_,_,bD lM md rfl rfl rfl⟩,g_dtk:=bp ca,g_BLANK:=bp (v:=(.bytes #[197,210,70,1,134,247,35,60,146,126,125,178,220,199,3,192,229,0,182,83,202,130,39,59,123,250,216,4,93,133,164,112] 196)) (cX (by decide)),g_KV:=bp (v:=(.int 0 280)) dM,g_BR:=bp (v:=(.int 1 282)) dM,g_LEAF:=bp (v:=(.int 2 284)) dM,g_TYPES:=bp (v:=(.ref 71)) (zm (o:=iB) (vs:=[.int 0 286,.int 1 287,.int 2 288]) (by kernel_rfl) rfl rfl (.cons dM (.cons dM (.cons dM .nil)))),g_KVP:=bp (v:=(.bytes #[0] 291)) (cX (by decide)),g_BRP:=bp (v:=(.bytes #[1] 294)) (cX (by decide)),g_LEAFP:=bp (v:=(.bytes #[2] 297)) (cX (by decide)),g_B1:=bp (v:=(.bytes #[1] 300)) (cX (by decide)),g_B0:=bp (v:=(.bytes #[0] 303)) (cX (by decide)),f_vbn:=⟨_,_,bD lE l6 rfl rfl rfl⟩,g_vbn:=bp ca,f_gcp:=⟨_,_,bD lg lA rfl rfl rfl⟩,g_gcp:=bp ca,f_parse:=⟨_,_,bD lw k9 rfl rfl rfl⟩,g_parse:=bp ca,f_ekv:=⟨_,_,bD lK lT rfl rfl rfl⟩,g_ekv:=bp ca,f_ebr:=⟨_,_,bD ml ln rfl rfl rfl⟩,g_ebr:=bp ca,f_elf:=⟨_,_,bD lp lW rfl rfl rfl⟩,g_elf:=bp ca,f_gtn:=⟨_,_,bD lL ma rfl rfl rfl⟩,g_gtn:=bp ca,f_gtn_:=⟨_,_,bD lH lX rfl rfl rfl⟩,g_gtn_:=bp ca,g_EXP:=bp (v:=(.ref 39)) (zm (o:=gM) (vs:=[.int 128 240,.int 64 236,.int 32 232,.int 16 228,.int 8 224,.int 4 220,.int 2 216,.int 1 212]) (by kernel_rfl) rfl rfl (.cons dM (.cons dM (.cons dM (.cons dM (.cons dM (.cons dM (.cons dM (.cons dM .nil))))))))),f_vib:=⟨_,_,bD mq lY rfl rfl rfl⟩,g_vib:=bp ca,f_vl:=⟨_,_,bD lU lZ rfl rfl rfl⟩,g_vl:=bp ca,f_etb:=⟨_,_,bD kU lJ rfl rfl rfl⟩,g_etb:=bp ca,f_etb_:=⟨_,_,bD lG lR rfl rfl rfl⟩,g_etb_:=bp ca}
theorem Eg(w:World):Base2 (X0 w):={toBase:=Fh w,nou:=λ_ h=>h,f_gwp:=⟨_,_,bD k7 l5 rfl rfl rfl⟩,g_gwp:=bp ca,f_gwp_:=⟨_,_,bD lh lF rfl rfl rfl⟩,g_gwp_:=bp ca}
theorem EO(w:World):Base3 (X0 w):={toBase2:=Eg w,g_zip:=eG gF}
theorem Fe(w:World):ClsOk (hK w.params) where
 ga:=by kernel_rfl
 gk:=by kernel_rfl
 sa:=by kernel_rfl
 over:=by kernel_rfl
 hd:=by kernel_rfl
 mks:=by kernel_rfl
 init:=by kernel_rfl
 initf:=by kernel_rfl
 at_db:=by kernel_rfl
 at_ho:=by kernel_rfl
 at_rh:=by kernel_rfl
 meth:=λp hp=>by
  have e:(b8.all λp=>findIn (hK w.params) (.ref 404) p.1==some (some (.ref p.2))&&typeIn (hK w.params) (.ref p.2)==some (.type "function"))=true:=by kernel_rfl
  have:=gq.mp e p hp
  rw[fq,bd,bd] at this
  exact this
 keep:=by kernel_rfl
theorem D8(w:World):Base4 (X0 w):={toBase3:=EO w,cls:=⟨hK w.params,λh hB=>hB,Fe w⟩,g_BT:=bp ca}
theorem DW(w:World):Base5 (X0 w):={toBase4:=D8 w,m_init:=⟨285,oP,_,_,⟨_,_,bD o7 oI rfl rfl rfl⟩,by kernel_rfl,rfl⟩,m_get:=⟨_,_,bD ph pn rfl rfl rfl⟩,m__get:=⟨_,_,bD oZ oY rfl rfl rfl⟩,m_set:=⟨_,_,bD pS oW rfl rfl rfl⟩,m__set:=⟨314,dN,_,⟨_,_,bD pE oQ rfl rfl rfl⟩,by kernel_rfl,rfl⟩,m_kv:=⟨322,dN,_,⟨_,_,bD o5 pg rfl rfl rfl⟩,by kernel_rfl,rfl⟩,m_br:=⟨330,dN,_,⟨_,_,bD pH pB rfl rfl rfl⟩,by kernel_rfl,rfl⟩,m_exists:=⟨_,_,bD pM pz rfl rfl rfl⟩,m_delete:=⟨_,_,bD oJ pQ rfl rfl rfl⟩,m_has:=⟨_,_,bD pe pD rfl rfl rfl⟩}
theorem Ea(w:World):Base6 (X0 w):={toBase5:=DW w,f_told:=⟨_,_,bD sS tI rfl rfl rfl⟩,g_told:=bp ca,g_KeyError:=eG gF}
theorem D5(w:World):Base7 (X0 w):={toBase6:=Ea w,g_sorted:=eG rU,g_keys:=bp (v:=(.ref 409)) (vV (o:=s6) (vs:=[.bytes #[65,0] 751,.bytes #[65,1] 752,.bytes #[65,128] 753,.bytes #[65,255] 754,.bytes #[64,1] 755,.bytes #[97,1] 756,.bytes #[193,0] 757,.bytes #[193,1] 758]) (by kernel_rfl) rfl rfl (.cons (cX rfl) (.cons (cX rfl) (.cons (cX rfl) (.cons (cX rfl) (.cons (cX rfl) (.cons (cX rfl) (.cons (cX rfl) (.cons (cX rfl) .nil))))))))),f_octets:=⟨_,_,bD sb sq rfl rfl rfl⟩,g_octets:=bp ca,f_ends:=⟨_,_,bD sQ tC rfl rfl rfl⟩,g_ends:=bp ca,f_path:=⟨_,_,bD tD sL rfl rfl rfl⟩,g_path:=bp ca,f_node:=⟨_,_,bD se tE rfl rfl rfl⟩,g_node:=bp ca,f_tree:=⟨_,_,bD sO r5 rfl rfl rfl⟩,g_tree:=bp ca}
theorem yZ(w:World):Base8 (X0 w):={toBase7:=D5 w,f_law:=⟨_,bD sY mz rfl rfl rfl⟩,cd:=λh hB=>codeHd_of_K (K:=hK w.params) hB (by kernel_rfl),t447:=λp hp=>by rw[fp.mp hp];decide}
abbrev r0:OpenRow:=PySem.Challenge.rw_bc0033_01.row
theorem Ee{w:World}{s₀ s₁:Shared}{args:List WData}{vs:List Value}{as:List Addr}(hpre:r0.toRowW.claim.pre args=true)(hlay:WData.layableAll args=true)(hrd:ReadsAllW r0.records (classAt s₀.heap) s₁.heap vs args as)(hwl:WellAll w.params s₁.heap vs args)(hlo:∀a∈as,(a==sysModules)=false):
  ∃a us ns,vs=[.ref a]∧s₁.heap.IsList a us.toArray∧IntsAre us ns∧ns.length≤63:=by
 wrow_args hpre hlay hrd hwl hlo
 refine⟨_,_,_,rfl,by assumption,by assumption,?_⟩
 omega
theorem CS(h:IntsAre us ns):RepL g (ns.map .int) us:=by
 induction h with
 |nil=>exact .nil
 |cons n t _ ih=>exact .cons dM ih
noncomputable def g0(s:Shared):View:=λb=>if b=162∨b=447 then none else s.heap.get? b
def σ0:St:=λb=>if b=447 then some (.obj (cR #[])) else none
theorem Fm(hK':(hK w.params).In s.heap)(ht:∀P∈[162,447],s.heap.get? P=some (tabObj #[])):Sat (X0 w) (g0 s) σ0 s:=by
 have nk:∀a o,(hK w.params).lookup a=some o→¬(a=162∨a=447):=by
  intro a o e q
  rcases q with q|q
  ·rw[q,show(hK w.params).lookup 162=none from by kernel_rfl] at e;cases e
  ·rw[q,show(hK w.params).lookup 447=none from by kernel_rfl] at e;cases e
 have k166:s.heap.get? 166=some fI:=hK' _ _ (by kernel_rfl)
 refine⟨λa o e=>?_,λa o e=>?_,λa t e=>?_,λp hp=>?_⟩
 ·unfold g0;rw[ae (nk a o e)];exact hK' a o e
 ·unfold g0 at e;split at e
  ·cases e
  ·exact e
 ·unfold σ0 at e;split at e
  ·rename_i q;cases e;subst q
   exact⟨by unfold g0;rw[ah (.inr rfl)],ht 447 (by simp)⟩
  ·cases e
 ·rw[fp.mp hp]
  refine⟨by unfold g0;rw[ah (.inl rfl)],rfl,?_,#[],⟨fI,_,_,_,_,_,_,_,_,tabObj #[],k166,rfl,rfl,rfl,rfl,rfl,rfl,ht 162 (by simp),rfl,by trivial,by decide⟩,⟨⟨fI,_,k166,rfl,rfl,rfl⟩,ht 162 (by simp)⟩⟩
  show g0 s 166≠none
  unfold g0;rw[ae (by decide),k166];simp
theorem E8(hK':(hK w.params).In s.heap)(ht:∀P∈[162,447],s.heap.get? P=some (tabObj #[]))(G:Go (X0 w) am (g0 s) σ0 s g' σ' s')(h4:σ' 447=some (.obj (cR ps))):OldK s.heap s'.heap:=by
 have k166:s.heap.get? 166=some fI:=hK' _ _ (by kernel_rfl)
 have k449:s.heap.get? 449=some mz:=hK' _ _ (by kernel_rfl)
 have h7:s'.heap.get? 447=some (cR ps):=(G.sat.trk 447 _ h4).2
 obtain⟨more,h2⟩:=G.run.tab (166,162) (fp.mpr rfl) (tabObj #[]) #[] (ht 162 (by simp)) rfl
 refine⟨λb o e=>?_,λb o e=>?_⟩
 ·by_cases q2:b=162
  ·subst q2
   rw[ht 162 (by simp)] at e;cases e
   exact .inr (.inl ⟨⟨166,fI,_,k166,rfl,rfl,rfl⟩,rfl,#[],more,rfl,h2⟩)
  ·by_cases q7:b=447
   ·subst q7
    rw[ht 447 (by simp)] at e;cases e
    exact .inr (.inl ⟨⟨449,mz,_,k449,rfl,rfl,rfl⟩,rfl,#[],ps,rfl,by rw[h7];simp[cR]⟩)
   ·exact .inl (G.sat.in_ b o (G.le b o (by unfold g0;rw[ae (by simp[q2,q7])];exact e)))
 ·obtain⟨o',e'⟩:=G.run.dom b o e id
  exact⟨o',e'⟩
theorem Ei(hK':(hK w.params).In s.heap)(ht:∀P∈[162,447],s.heap.get? P=some (tabObj #[]))(hl:s.heap.IsList a us.toArray)(hi:IntsAre us ns)(hz:ns.length≤63):
  aI (model P0 w) callerA (PySem.call (.ref 450) [.ref a]) (λv s'=>v=.bool true∧OldK s.heap s'.heap∧s'.os=s.os∧(∀(i:Nat) (x:GenState),s'.gens[i]?=some x→s.gens[i]?=some x∨x.bare=true)∧(∀(i:Nat) (x:GenState),s.gens[i]?=some x→s'.gens[i]?=some x)) ai s:=by
 have S:=Fm hK' ht
 have na:¬(a=162∨a=447):=by
  obtain⟨o,e,hc,_⟩:=hl
  intro q
  rcases q with q|q
  ·rw[q,ht 162 (by simp)] at e;cases e;cases hc
  ·rw[q,ht 447 (by simp)] at e;cases e;cases hc
 have rv:Rep (g0 s) (.lst (ns.map .int)) (.ref a):=by
  obtain⟨o,e,hc,n,hd⟩:=hl
  exact vV (by unfold g0;rw[ae na];exact e) hc hd (CS hi)
 have C:=CF (yZ w) (Q:=λV σ'=>V=.bool true∧∃ps,σ' 447=some (.obj (cR ps))) S rv (by rfl) λpm A L f d σ' hR hfr nm keep tb=>
  CE (yZ w) hz hR hfr nm tb
 refine rz (nD C λr s' ⟨v,e,g',V,σ',G,rV,eV,ps,h4⟩=>⟨v,e,?_⟩)
 subst eV
 refine⟨by unfold Rep at rV;exact rV,E8 hK' ht G h4,G.run.os,λi x h=>?_,λi x h=>G.run.gold i x h id⟩
 rcases G.run.gbare i x h with h|h|h
 ·exact .inl h
 ·exact .inr h
 ·exact h.elim
def Fq:Stmt→Pos|.FunctionDef _ _ _ _ _ _ _ _ _ p=>p|_=>⟨0,0,0,0⟩
noncomputable def d0:DefRec:=⟨vP (aD 55),ox (aD 55),cj (aD 55),jl (aD 55),Fq (aD 55)⟩
theorem E4:defOf qV r0.name=some (d0,[]):=by kernel_rfl
theorem Fi:r0.prog.theDef r0.name=some (d0.params,d0.body,d0.scope):=by kernel_rfl
theorem Fz:kwWritten? d0.params.kwonlyargs d0.params.kw_defaults=some []:=by kernel_rfl
theorem Fx:(chainsOk qV&&opensWell r0.prog&&(PySem.W.frees r0.toRowW&&r0.within.isEmpty))=true:=by kernel_rfl
theorem D9:r0.toRowW.promised:=⟨[.list []],by kernel_rfl,by kernel_rfl⟩
theorem DS{w:World}{h:Heap}{mg:Str→Option Value}(hK':(hK w.params).In h)(hn:h.Ns mainGlobals mg):mg r0.name=some (.ref 450):=by
 obtain⟨o,es,ep,e,hd,_,hf⟩:=hn
 rw[hK' _ _ (rG w)] at e
 cases e
 have e2:jR (iw w.params)=es:=by unfold jR;rw[hd]
 rw[←hf,←e2]
 kernel_rfl
theorem Gl(said:r0.wellSaid=true):r0.Holds:=by
 refine A0 (r:=r0) (q:=qV) (loose:=rN) (Xt:=wn) (XP:=λ_ _=>True) (Yf:=Gu.obs) (Ya:=Gu.val) (YP:=Gu.says) (d:=d0) (kwd:=[]) (N:=10000)
  EH Gu.of Gu.keeps (λ_ _=>trivial) (λ_ _ _ _ _=>trivial) E4 Fi Fz (λs e=>recFacts_of e) (by rfl) said Fx ⟨rfl,rfl,rfl,rfl,rfl,by decide+kernel⟩ D9 ?_
 intro w s₀ s₁ mg mb G Y hfin args vs as hpre hlay hrd hwl hlo
 obtain⟨a,us,ns,rfl,hl,hi,hz⟩:=Ee hpre hlay hrd hwl hlo
 have hK':(hK w.params).In s₁.heap:=km_in_of Y
 have ht:=km_tabs_of Y
 refine⟨.ref 450,DS hK' G.T.g,dG (Ei hK' ht hl hi hz) (λv s' ⟨e,o,os,gb,gk⟩=>⟨⟨.inl ⟨v,.bool true,[],rfl,λ_=>rfl,e▸.bool true,?_,λ_=>⟨.nil,nofun⟩⟩,o,os,λy hy=>?_⟩,gk⟩) i2⟩
 ·wrow_post
 ·obtain⟨i,hi',e⟩:=Array.mem_iff_getElem.mp hy
  rcases gb i y (by rw[Array.getElem?_eq_getElem hi',e]) with h|h
  ·rw[hfin y (Array.mem_of_getElem? h)];rfl
  ·exact h
end
end Tw
open PySem PySem.W PyProof.Rows PySem.W.X Tw
set_option maxHeartbeats 4000000 in
theorem PySem.Challenge.cw_bc0033_01_holds : PySem.Challenge.rw_bc0033_01.Holds := by
  w_on
  o_law
  exact Gl (by assumption)
#print axioms PySem.Challenge.cw_bc0033_01_holds
