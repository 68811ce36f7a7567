import PyProof.Rows.All
import Wide.All
import OpenK.AllK
import Wide.FinOn
import Lean
import PySem.Challenge.RW_rj0001_01
set_option genSizeOf false
set_option linter.unusedVariables false
open PySem PySem.W PyProof.Rows
namespace Mine
local macro_rules | `(tactic| omega) => `(tactic| first | lia | omega (splitDisjunctions := true))
section
set_option linter.all false
def au:=@congrArg
def aw:=@Nat.le_trans
def ax:=@wpAny_bind
def aG:=@wpAny_pure
def aL:=@Nat.le_of_eq
def aN:=@Classical.em
def a0:=@List.not_mem_nil
def a6:=@List.mem_singleton
def bc:=@Option.some.inj
def bg:=@List.mem_map
def bq:=@List.forall_mem_cons
def bx:=@List.length_map
def bz:=@if_pos
def bD:=@if_neg
def bH:=@Nat.zero_le
def bO:=@List.mem_append
def bZ:=@wpAny_ite_false
def b7:=@Nat.lt_of_le_of_lt
def cm:=@List.getElem?_eq_some_iff
def cw:=@List.length_append
def cB:=@Nat.le_refl
def cD:=@List.mem_append_right
def cE:=@decide_eq_true
def cN:=@Nat.le_of_lt
def cP:=@List.mem_of_getElem?
def cQ:=@decide_eq_false
def cS:=@Nat.succ_le_succ
def cU:=@of_decide_eq_true
def c8:=@wpAny_holding
def c9:=@Heap.get?_push_of_some
def dD:=@Nat.lt_of_lt_of_le
def dK:=@wpAny_mono
def dP:=@List.mem_cons
def dW:=@Heap.get?_push_size
def d5:=@List.all_eq_true
def eH:=@Nat.le_of_ble_eq_true
def eL:=@List.getElem?_map
def eM:=@List.mem_append_left
def eV:=@Nat.add_le_add_left
def fu:=@List.getElem?_eq_getElem
def fw:=@Nat.add_le_add
def fC:=@List.mem_filter
def fH:=@or_congr_right
def f5:=@Nat.lt_of_lt_of_eq
def gh:=@trivial
def gj:=@List.map_map
def gk:=@List.mem_cons_self
def gx:=@Int.natCast_nonneg
def gy:=@List.append_nil
def gE:=@List.cons.inj
def gF:=@List.map_append
def gX:=@List.nodup_cons
def ip:=@Classical.byContradiction
def iu:=@Heap.SameBut.update
def iw:=@List.length_range
def iy:=@List.mem_cons_of_mem
def iz:=@Nat.le_antisymm
def iA:=@Nat.succ_pos
def iF:=@beq_self_eq_true
def iR:=@wpAny_ite_true
def iW:=@Int.ofNat_lt
def i6:=@beq_iff_eq
def jd:=@Bool.false_ne_true
def jg:=@List.nodup_nil
def jh:=@Nat.le_add_right
def ji:=@Nat.le_of_lt_succ
def jj:=@Nat.le_succ
def jk:=@Nat.ne_of_gt
def jD:=@wpAny_call_entry
def jH:=@Heap.lt_size
def jI:=@Int.not_lt
def jJ:=@Int.ofNat.inj
def jK:=@Int.ofNat_le
def jL:=@List.mem_iff_getElem?
def jM:=@Nat.lt_succ_self
def jN:=@Nat.mul_le_mul_right
def jX:=@wpAny_newObj_type
def jY:=@wpAny_standAt
def j6:=@Bool.and_eq_true_iff
def j7:=@Bool.eq_false_iff
def kh:=@Nat.lt_irrefl
def kG:=@congr
def kY:=@List.append_assoc
def kZ:=@List.mem_range
def lg:=@bne_iff_ne
def lM:=@Bool.or_eq_true
def lQ:=@List.getElem?_eq_none_iff
def lR:=@Nat.lt_or_ge
def mO:=@wpAny_rule
def mT:=@Array.length_toList
def m5:=@Int.le_trans
def m8:=@Nat.ne_of_lt
def m9:=@Nat.not_lt_zero
def ni:=@Prod.ext
def nF:=@beq_eq_false_iff_ne
def og:=@Nat.zero_add
def o6:=@wpAny_ite_split
def o7:=@wpAny_of_eq
def o8:=@wpAny_setField
def pp:=@List.nodup_append
def pA:=@Nat.lt_of_sub_ne_zero
def qk:=@wpAny_callSpecial?_slot
def ql:=@wpAny_dictEntries
def qv:=@Heap.get?_update_self
def qy:=@List.map_congr_left
def qz:=@List.pairwise_singleton
def qA:=@Nat.le_of_succ_le
def qB:=@Nat.lt_trans
def qC:=@Nat.succ_mul
def qM:=@codeAny_builtin
def qZ:=@or_congr_left
def rK:=@Array.getElem?_eq_some_iff
def rS:=@Heap.get?_update_ne
def rV:=@List.eq_nil_of_length_eq_zero
def rW:=@List.length_drop
def rX:=@List.length_filter_le
def rY:=@Nat.le_add_left
def rZ:=@Nat.lt_of_le_of_ne
def r0:=@Nat.sub_add_cancel
def sA:=@and_congr_right
def sI:=@congrFun
def sX:=@isSubtype_of_subB
def tD:=@or_assoc
def tU:=@tail_any
def t8:=@wpAny_isInstance
def t9:=@wpAny_setState_of
def uz:=@List.getElem?_append_left
def uB:=@Nat.add_le_add_right
def uC:=@Nat.le_succ_of_le
def uD:=@Nat.succ_add_eq_add_succ
def uF:=@Ne.symm
def u9:=@evalPart_none_step
def vc:=@funext
def v6:=@wpAny_dictEpoch
def wk:=@Int.lt_of_le_of_lt
def wq:=@List.foldl_append
def wr:=@List.getElem?_inj
def wu:=@List.mem_flatMap
def wx:=@Nat.add_assoc
def wz:=@Nat.add_comm
def wA:=@Nat.min_le_left
def wB:=@Nat.mod_lt
def wC:=@Nat.mul_le_mul_left
def wD:=@Nat.ne_of_beq_eq_false
def wE:=@Nat.not_lt
def wF:=@Nat.sub_le
def wG:=@Nat.succ_lt_succ
def wH:=@Nat.succ_ne_zero
def wJ:=@Obj.data_mapFields
def wN:=@Prod.mk.inj
def wU:=@Subtype.ext
def xp:=@codeAny_of_tree
def yy:=@or_iff_left
def yM:=@slot_dict_getitem
def y3:=@wpAny_specialOf
def y4:=@wpAny_typeOf
def zb:=@Array.getElem?_eq_getElem
def zc:=@Array.toList_inj
def zi:=@Bool.and_eq_true
def zI:=@Int.toNat_of_nonneg
def zJ:=@List.getElem?_range
def zK:=@List.isEmpty_iff
def zL:=@List.mem_of_mem_drop
def zM:=@List.mem_zipIdx_iff_le_and_getElem?_sub
def zO:=@Nat.le_zero
def zP:=@Nat.not_le
def zQ:=@Nat.not_succ_le_zero
def zR:=@Nat.succ.inj
def zU:=@Option.ite_none_right_eq_some
def zV:=@Option.map_eq_some_iff
def z5:=@Subscript_
def Ao:=@decide_eq_decide
def Bm:=@or_congr
def Br:=@plainId_quiet
def Cc:=@wpAny_askSetting
def Cd:=@wpAny_bindName
def Ce:=@wpAny_seqItems
def Cq:=@Bool.eq_iff_iff
def CB:=@F.called_set
def C8:=@Heap.SameBut.refl
def C9:=@Heap.size_push
def Db:=@Int.add_sub_cancel
def Dc:=@Int.le_of_lt
def Dh:=@List.Pairwise.map
def Di:=@List.any_eq_true
def Dj:=@List.contains_iff_mem
def Dk:=@List.getElem?_eq_none
def Dm:=@List.getElem_mem
def Dn:=@List.length_pos_of_mem
def Do:=@List.length_take_of_le
def Dp:=@List.map_drop
def Dq:=@List.map_inj_left
def Dr:=@List.perm_middle
def Ds:=@List.take_append_drop
def Dy:=@Nat.add_right_comm
def Dz:=@Nat.eq_of_beq_eq_true
def DA:=@Nat.lt_add_of_pos_right
def DB:=@Nat.max_le
def DC:=@Nat.not_succ_le_self
def DX:=@Value.isStrOf_shape
def Ey:=@bne_self_eq_false
def EK:=@decide_eq_true_iff
def E6:=@get?_update_seq
def Hw:=@plainGet_of
def Iy:=@wpAny_call
def Iz:=@wpAny_execs_nil
def IA:=@wpAny_missed_other
def IB:=@wpAny_pyIter_list
def IC:=@wpAny_sequenceKey
def ID:=@wpAny_truthy_bool
def Je:=@Array.getElem?_toList
def Jf:=@Array.toList_append
def Jm:=@Bool.or_false
def Jn:=@Calls.call_function_entry
def Jo:=@Calls.spliced_cons
def JK:=@F.entry_dict_get
def JL:=@F.slot_dict_get
def JM:=@F.slot_dict_keyiterator_next
def JN:=@F.slot_dict_len
def J6:=@Heap.get?_update_other
def Kb:=@Int.lt_irrefl
def Kc:=@Int.natCast_pos
def Ke:=@Int.ne_of_gt
def Kf:=@Int.neg_nonpos_of_nonneg
def Kg:=@Int.ofNat_sub
def Kt:=@List.append_cancel_left
def Ku:=@List.getElem?_append_right
def Kv:=@List.getElem?_toArray
def Kw:=@List.lookup_cons_self
def Kx:=@List.map_inj_right
def KH:=@Nat.add_lt_add_left
def KI:=@Nat.add_zero
def KJ:=@Nat.le_of_sub_eq_zero
def KK:=@Nat.lt_of_sub_eq_succ
def KL:=@Nat.lt_one_iff
def KM:=@Nat.lt_succ_of_le
def KN:=@Nat.mul_succ
def KO:=@Nat.pos_of_ne_zero
def KP:=@Nat.sub_self
def KY:=@Obj.isFreed_of_fields
def KZ:=@Option.map_eq_none_iff
def Lg:=@PySem.F.plainAttrs_list
def LT:=@Value.type.inj
def Mf:=@and_congr_left
def Pf:=@looks_findIn
def RP:=@of_decide_eq_false
def Tb:=@slot_dict_contains
def Tn:=@sub_set_self
def Uf:=@wpAny_attempt
def Ug:=@wpAny_execs_cons
def Uh:=@wpAny_fieldsOf
def Ui:=@wpAny_formatField_str
def Uj:=@wpAny_handled
def Uk:=@wpAny_notOrdered_dict
def Ul:=@wpAny_onRaise
def Um:=@wpAny_pyNext_list_end
def Un:=@wpAny_pyNext_list_item
def Uo:=@wpAny_runValue
def Up:=@wpAny_setEntries_of
def Uq:=@wpAny_typeNameOfWhole_keyiter
def Ur:=@wpAny_updateSeq
def U0:=@Array.getElem?_eq_none
def U4:=@Calls.Name_function_global
def U7:=@F.entry_set_update_loop
def U8:=@F.slot_tuple_iterator_next
def U9:=@F.typeCall_enumerate_1
def Vn:=@List.countP_eq_length_filter
def Vo:=@List.drop_eq_getElem_cons
def Vp:=@List.filterMap_cons_some
def Vr:=@Nat.add_lt_add_of_lt_of_le
def Vs:=@Nat.le_of_succ_le_succ
def Vv:=@Option.bind_eq_some_iff
def Vw:=@Option.isSome_iff_exists
def VC:=@PySem.F.slot_list_insert
def VD:=@PySem.F.slot_tuple_getitem
def VE:=@PySem.getMethod_builtin
def VF:=@PySem.slot_list_setitem
end
section
noncomputable abbrev aa:=Value->Shared->Prop
noncomputable abbrev ag:=List (Str×NameKind)
noncomputable abbrev ao:=List Value
noncomputable abbrev aq:=Array Value
theorem BR{n i k:Nat}(h:n - i=k+1):n - (i+1)=k:=au Nat.pred h
theorem Q2{m a b N:Nat}(h:m+a=N)(l:a<b)(u:b<=N):N - b<m:=Nat.sub_lt_left_of_lt_add u (h▸wz a m▸Nat.add_lt_add_right l m)
theorem B4{a k c n:Nat}(h:a+10*k+200<c)(d:n<=200):a+n<c:=b7 (fw (jh a _) d) h
theorem TL{a k c n:Nat}(h:a+10*k+200<c)(d:n+1<=200):a+1+n<c:=b7 (aL (Dy a 1 n)) (B4 (n:=n+1) h d)
theorem OI{p:Int->Prop}(h:∀n:Nat,p n){a:Int}(w:0<=a):p a:=zI w▸h a.toNat
theorem iM{n:Nat}(h:n<=1000000):n<=sizeLine:=aw h (by decide)
theorem dj{α:Type}{a:α}{o:Option α}(e:o=some a):o≠none:=λz=>nomatch e.symm.trans z
theorem cK{α:Type}{a:α}{o:Option α}(e:o=some a)(z:o=none){p:Prop}:p:=nomatch e.symm.trans z
theorem gQ{α:Type}{o:Option α}{p:Prop}(n:o≠none)(k:∀a,o=some a->p):p:=(Option.ne_none_iff_exists'.mp n).elim k
theorem n5{a b:String}(h:(a==b)=false):Value.type a≠.type b:=λe=>(nF.1 h) (LT e)
inductive L where
 |ay(n:Nat)
 |mk(tag:Nat)(s:Str)(ix:List (Nat×Nat))
 deriving DecidableEq
inductive V where
 |none
 |bool(b:Bool)
 |int(i:Int)
 |str(s:Str)
 |tup(vs:List V)
 |ref(l:L)
inductive CN where
 |dX|dg|item|table
 deriving DecidableEq
inductive O where
 |lst(vs:List V)
 |ro(vs:List V)
 |aF(es:List (V×V))(n:Nat)
 |set(ys:List Str)
 |pR(vs:List V)
 |inst(C:CN)(as:Str->Option V)
noncomputable abbrev H:=L->Option O
noncomputable abbrev ab:=V->H->Prop
noncomputable abbrev ac:=Str->Option V
noncomputable abbrev af:=List (V×V)
noncomputable abbrev aj:=List V
noncomputable def H.upd(h:H)(a:L)(o:O):H:=λb=>if b=a then some o else h b
set_option genInjectivity false in
structure HA where
 c:H
 adr:L->Addr
 gM:L->Addr
noncomputable abbrev TupAt(g:Heap)(a:Addr)(xs:aq):Prop:=g.get? a=some {cls:=.type "tuple",dict:=none,data:=.seq xs,slots:=#[]}
noncomputable abbrev LstAt(g:Heap)(a:Addr)(xs:aq)(n:Nat):Prop:=g.get? a=some {cls:=.type "list",dict:=none,data:=.seq xs n,slots:=#[]}
mutual
noncomputable def aP(h:HA)(g:Heap):V->Value->Prop
 | .none,x=>x= .none
 | .bool b,x=>x= .bool b
 | .int i,x=>∃t,x= .int i t
 | .str s,x=>∃t,x= .str s t
 | .tup vs,x=>∃a xs,x= .ref a/\TupAt g a xs/\aY h g vs xs.toList
 | .ref l,x=>x= .ref (h.adr l)/\h.c l≠none
noncomputable def aY(h:HA)(g:Heap):aj->ao->Prop
 |[],xs=>xs=[]
 |v::vs,xs=>∃y ys,xs=y::ys/\aP h g v y/\aY h g vs ys
end
structure dH(h:HA)(g:Heap)(h':HA)(g':Heap):Prop where
 tup:∀a xs,TupAt g a xs->TupAt g' a xs
 u4:∀l,h.c l≠none->h'.c l≠none/\h'.adr l=h.adr l
section
variable{h h':HA}{g g':Heap}{v:V}{vs ws:aj}{x:Value}{xs ys:ao}{p:Value->Prop}{P:ao->Prop}
theorem aY.nil:aY h g [] []:=rfl
theorem aY.cons(a:aP h g v x)(b:aY h g vs xs):aY h g (v::vs) (x::xs):=⟨_,_,rfl,a,b⟩
@[elab_as_elim] theorem aY.mG(r:aY h g [] xs)(k:P []):P xs:=Eq.symm r▸k
@[elab_as_elim] theorem aY.hW(r:aY h g (v::vs) xs)(k:∀x ys,aP h g v x->aY h g vs ys->P (x::ys)):P xs:=r.elim λy r=>r.elim λys r=>r.1.symm▸k y ys r.2.1 r.2.2
@[elab_as_elim] theorem aP.none_(r:aP h g .none x)(k:p .none):p x:=Eq.symm r▸k
@[elab_as_elim] theorem aP.Ak{b:Bool}(r:aP h g (.bool b) x)(k:p (.bool b)):p x:=Eq.symm r▸k
@[elab_as_elim] theorem aP.dG{i:Int}(r:aP h g (.int i) x)(k:∀t,p (.int i t)):p x:=r.elim λt e=>e.symm▸k t
@[elab_as_elim] theorem aP.eZ{i:Str}(r:aP h g (.str i) x)(k:∀t,p (.str i t)):p x:=r.elim λt e=>e.symm▸k t
@[elab_as_elim] theorem aP.iP(r:aP h g (.tup vs) x)(k:∀a xs,TupAt g a xs->aY h g vs xs.toList->p (.ref a)):p x:=r.elim λa r=>r.elim λxs r=>r.1.symm▸k a xs r.2.1 r.2.2
@[elab_as_elim] theorem aP.cA{l:L}(r:aP h g (.ref l) x)(k:h.c l≠none->p (.ref (h.adr l))):p x:=r.1.symm▸k r.2
theorem aP.bM(k:dH h g h' g'):∀{v:V} {x:Value},aP h g v x->aP h' g' v x:=
 λ{v}=>V.rec (motive_1:=λv=>∀{x},aP h g v x->aP h' g' v x) (motive_2:=λvs=>∀{xs},aY h g vs xs->aY h' g' vs xs) id (λ_=>id) (λ_=>id) (λ_=>id)
  (λvs ih {x} r=>r.iP (p:=aP h' g' (.tup vs)) λ_ _ t q=>⟨_,_,rfl,k.tup _ _ t,ih q⟩) (λl {_} r=>⟨(k.u4 l r.2).2.symm▸r.1,(k.u4 l r.2).1⟩) id
  (λv vs a b {_} r=>r.hW (P:=aY h' g' (v::vs)) λ_ _ ra rb=>.cons (a ra) (b rb)) v
theorem aY.bM(k:dH h g h' g'):∀{vs:aj} {xs:ao},aY h g vs xs->aY h' g' vs xs:=λ{vs}=>by
 induction vs with
 |nil=>exact id
 |cons v vs ih=>exact λr=>r.hW (P:=aY h' g' (v::vs)) λ_ _ a b=>.cons (a.bM k) (ih b)
theorem aY.length:∀{xs:ao},aY h g vs xs->vs.length=xs.length:=by
 induction vs with
 |nil=>exact λr=>r.mG (P:=λxs=>[].length=xs.length) rfl
 |cons v vs ih=>exact λr=>r.hW (P:=λxs=>(v::vs).length=xs.length) λ_ _ _ b=>au (·+1) (ih b)
theorem aY.size{xs:aq}(r:aY h g vs xs.toList):vs.length=xs.size:=r.length
theorem aY.append:∀{xs:ao},aY h g vs xs->aY h g ws ys->aY h g (vs++ws) (xs++ys):=by
 induction vs with
 |nil=>exact λr q=>r.mG (P:=λxs=>aY h g _ (xs++ys)) q
 |cons v vs ih=>exact λr q=>r.hW (P:=λxs=>aY h g _ (xs++ys)) λ_ _ a b=>.cons a (ih b q)
theorem aY.get{i:Nat}{v:V}(e:vs[i]?=some v){q:Prop}:∀{xs:ao},aY h g vs xs->(∀x,xs[i]?=some x->aP h g v x->q)->q:=by
 induction vs generalizing i with
 |nil=>cases e
 |cons u vs ih=>
  cases i with
  |zero=>cases e;exact λr=>r.hW (P:=λxs=>(∀x,xs[0]?=some x->aP h g _ x->q)->q) λ_ _ a _ k=>k _ rfl a
  |succ i=>exact λr=>r.hW (P:=λxs=>(∀x,xs[i+1]?=some x->aP h g _ x->q)->q) λ_ _ _ b k=>ih e b k
theorem aY.get'{xs:aq}(r:aY h g vs xs.toList){n:Nat}{v:V}(e:vs[n]?=some v){q:Prop}(k:∀x,xs[n]?=some x->aP h g v x->q):q:=r.get e λx a b=>k x (Je▸a) b
@[elab_as_elim] theorem aY.one{a:V}(r:aY h g [a] xs)(k:∀x,aP h g a x->P [x]):P xs:=r.hW λx _ a r=>r.mG (P:=λl=>P (x::l)) (k x a)
@[elab_as_elim] theorem aY.two{a b:V}(r:aY h g [a,b] xs)(k:∀x y,aP h g a x->aP h g b y->P [x,y]):P xs:=r.hW λx _ a r=>r.one (P:=λl=>P (x::l)) λy b=>k x y a b
@[elab_as_elim] theorem aY.three{a b c:V}(r:aY h g [a,b,c] xs)(k:∀x y z,aP h g a x->aP h g b y->aP h g c z->P [x,y,z]):P xs:=r.hW λx _ a r=>r.two (P:=λl=>P (x::l)) λy z b c=>k x y z a b c
theorem aY.drop(n:Nat):∀{vs:aj} {xs:ao},aY h g vs xs->aY h g (vs.drop n) (xs.drop n):=by
 induction n with
 |zero=>exact id
 |succ n ih=>
  intro vs xs r
  cases vs with
  |nil=>exact r.mG (P:=λxs=>aY h g _ (xs.drop (n+1))) rfl
  |cons v vs=>exact r.hW (P:=λxs=>aY h g _ (xs.drop (n+1))) λ_ _ _ b=>ih b
theorem aY.take(n:Nat):∀{vs:aj} {xs:ao},aY h g vs xs->aY h g (vs.take n) (xs.take n):=by
 induction n with
 |zero=>exact λ_=>rfl
 |succ n ih=>
  intro vs xs r
  cases vs with
  |nil=>exact r.mG (P:=λxs=>aY h g _ (xs.take (n+1))) rfl
  |cons v vs=>exact r.hW (P:=λxs=>aY h g _ (xs.take (n+1))) λ_ _ a b=>.cons a (ih b)
end
noncomputable def V.toPy(v:V):PyData:=v.rec (motive_2:=λ_=>List PyData) .none .bool .int .str (λ_ ds=>.tuple ds) (λ_=>.none) [] λ_ _ d ds=>d::ds
noncomputable def V.kO(v:V):WData:=v.rec (motive_2:=λ_=>List WData) .none .bool .int .str (λ_ ds=>.tuple ds) (λ_=>.none) [] λ_ _ d ds=>d::ds
noncomputable def cI(P:Params)(v:V):Int:=hashW P v.kO
inductive cz:Nat->V->Prop
 |int{n:Nat}{i:Int}:cz n (.int i)
 |str{n:Nat}{s:Str}:PyData.strOk s=true->cz n (.str s)
 |tup{n:Nat}{vs:aj}:(∀u∈vs,cz n u)->cz (n+1) (.tup vs)
noncomputable abbrev Jd(n:Nat)(vs:aj):Prop:=∀u∈vs,cz n u
inductive gi(P:Params)(h:HA)(g:Heap):af->List DictEntry->Prop
 |nil:gi P h g [] []
 |cons{k v:V}{es:af}{e:DictEntry}{aQ:List DictEntry}:e.hash=cI P k->aP h g k e.key->aP h g v e.val->gi P h g es aQ->gi P h g ((k,v)::es) (e::aQ)
structure r7(P:Params)(es:Array (Int×Value))(ys:List Str):Prop where
 elems:∀e∈es.toList,∃y t,e.2= .str y t/\e.1=PyData.keyHash P y
 mem:∀y,y∈ys↔∃e∈es.toList,∃t,e.2= .str y t
 nodup:ys.Nodup
 size:es.size=ys.length
 small:es.size<scanBound
section
variable{h h':HA}{g g':Heap}{P:Params}
theorem gi.bM(k:dH h g h' g'){es:af}{aQ:List DictEntry}(a:gi P h g es aQ):gi P h' g' es aQ:=by
 induction a with
 |nil=>exact .nil
 |cons e r q _ ih=>exact .cons e (r.bM k) (q.bM k) ih
theorem gi.length{es:af}{aQ:List DictEntry}(a:gi P h g es aQ):es.length=aQ.length:=by
 induction a with
 |nil=>rfl
 |cons _ _ _ _ ih=>exact au (·+1) ih
end
noncomputable def lY:List Str:=(["name","prod","number","func","callable","file","line","prec","len","usyms","lr_items","lr_next","str","reduced","lr0_added"]:List Str)++
 (["lr_index","lookaheads","lr_after","lr_before","Productions","Prodnames","Prodmap","Terminals","Nonterminals","First","Follow","Precedence","UsedPrecedence","Start"]:List Str)++
 (["grammar","lr_method","lr_action","lr_goto","lr_productions","lr_goto_cache","lr0_cidhash","_add_count","sr_conflict","rr_conflict","conflicts","sr_conflicts","rr_conflicts"]:List Str)
structure m0(h:HA)(g:Heap)(as:ac)(aQ:List DictEntry):Prop where
 no:∀x,as x=none->aQ.find? (·.key.isStr x)=none
 yes:∀x v,as x=some v->∃e,aQ.find? (·.key.isStr x)=some e/\aP h g v e.val
 ref:aQ.any (·.refKey)=false
 len:aQ.length<=(lY.filter λx=>(as x).isSome).length
theorem m0.bM{h h':HA}{g g':Heap}{as:ac}{aQ:List DictEntry}(k:dH h g h' g')(a:m0 h g as aQ):m0 h' g' as aQ:=⟨a.no,λx v e=>(a.yes x v e).imp λ_ z=>⟨z.1,z.2.bM k⟩,a.ref,a.len⟩
theorem m0.short{h:HA}{g:Heap}{as:ac}{aQ:List DictEntry}(a:m0 h g as aQ):aQ.length<=100:=aw a.len (aw (rX _ _) (by decide+kernel))
theorem aeG{α:Type}[DecidableEq α]{l:List α}:∀{m:List α},l.Nodup->(∀x∈l,x∈m)->l.length<=m.length:=by
 induction l with
 |nil=>exact λ_ _=>bH _
 |cons a l ih=>
  intro m n s
  have n:=gX.1 n
  have ha:a∈m:=s a gk
  exact aw (cS (ih n.2 λx hx=>(List.mem_erase_of_ne λ(z:_=a)=>n.1 (z▸hx)).mpr (s x (iy _ hx)))) (aL (List.length_erase_of_mem ha▸Nat.succ_pred_eq_of_pos (Dn ha)))
structure zf(P:Params)(es:Array (Int×Value))(t:SetTable):Prop where
 fits:t.fits es.size=true
 led:t.led= !P.followText "set-order"
 plain:es.size<=1\/t.plain=false
noncomputable def oh(P:Params)(cls:CN->Addr)(av:Heap)(h:HA)(g:Heap)(l:L):O->Prop
 | .lst vs=>∃xs n,LstAt g (h.adr l) xs n/\aY h g vs xs.toList
 | .ro vs=>∃xs n,LstAt g (h.adr l) xs n/\aY h g vs xs.toList/\(av.get? (h.adr l)).isSome=true
 | .aF es n=>∃aQ,g.get? (h.adr l)=some (dictOf aQ n)/\gi P h g es aQ/\(es.map (·.1)).Nodup/\∀p∈es,cz 8 p.1
 | .set ys=>∃es ep t,g.get? (h.adr l)=some {cls:=.type "set",dict:=none,data:=.set es ep t,slots:=#[]}/\r7 P es ys/\t.fits es.size=true
 | .pR vs=>∃es ep t,g.get? (h.adr l)=some {cls:=.type "set",dict:=none,data:=.set es ep t,slots:=#[]}/\aY h g vs (es.toList.map (·.2))/\zf P es t
 | .inst C as=>∃aQ n,g.get? (h.adr l)=some {cls:=.ref (cls C),dict:=some (h.gM l),data:=.plain,slots:=#[]}/\g.get? (h.gM l)=some (dictOf aQ n)/\m0 h g as aQ
section
variable{P:Params}{cls:CN->Addr}{av:Heap}{h h':HA}{g g':Heap}{a:L}{o:O}
theorem oh.at_(r:oh P cls av h g a o):∃ob,g.get? (h.adr a)=some ob/\ob.cls≠.type "tuple":=by
 cases o with
 |lst vs=>exact r.elim λ_ r=>r.elim λ_ r=>⟨_,r.1,n5 rfl⟩
 |ro vs=>exact r.elim λ_ r=>r.elim λ_ r=>⟨_,r.1,n5 rfl⟩
 |aF vs n=>exact r.elim λ_ r=>⟨_,r.1,n5 rfl⟩
 |set vs=>exact r.elim λ_ r=>r.elim λ_ r=>r.elim λ_ r=>⟨_,r.1,n5 rfl⟩
 |pR vs=>exact r.elim λ_ r=>r.elim λ_ r=>r.elim λ_ r=>⟨_,r.1,n5 rfl⟩
 |inst C as=>exact r.elim λ_ r=>r.elim λ_ r=>⟨_,r.1,nofun⟩
theorem oh.same(st:dH h g h' g')(hn:h.c a≠none)(ha:g'.get? (h.adr a)=g.get? (h.adr a))
 (hd:∀C as,o= .inst C as->h'.gM a=h.gM a/\g'.get? (h.gM a)=g.get? (h.gM a))(r:oh P cls av h g a o):oh P cls av h' g' a o:=by
 have ea:h'.adr a=h.adr a:=(st.u4 a hn).2
 cases o with
 |lst vs=>exact r.imp λ_ r=>r.imp λ_ r=>⟨ea▸ha.trans r.1,r.2.bM st⟩
 |ro vs=>exact r.imp λ_ r=>r.imp λ_ r=>⟨ea▸ha.trans r.1,r.2.1.bM st,ea▸r.2.2⟩
 |aF vs n=>exact r.imp λ_ r=>⟨ea▸ha.trans r.1,r.2.1.bM st,r.2.2⟩
 |set vs=>exact r.imp λ_ r=>r.imp λ_ r=>r.imp λ_ r=>⟨ea▸ha.trans r.1,r.2⟩
 |pR vs=>exact r.imp λ_ r=>r.imp λ_ r=>r.imp λ_ r=>⟨ea▸ha.trans r.1,r.2.1.bM st,r.2.2⟩
 |inst C as=>exact r.imp λ_ r=>r.imp λ_ r=>⟨ea▸(hd C as rfl).1▸ha.trans r.1,(hd C as rfl).1▸(hd C as rfl).2.trans r.2.1,r.2.2.bM st⟩
end
end
set_option genInjectivity false in
structure Bk where
 prog:Program
 w:World
 s₀:Shared
 K:Frag
 mg:Str->Option Value
 mb:Str->Option Value
 cls:CN->Addr
 cW:List Addr
 low:∃o,s₀.heap.get? cStatics=some o
noncomputable abbrev Bk.av(B:Bk):Heap:=B.s₀.heap
noncomputable abbrev Bk.M(B:Bk):Model:=model B.prog B.w
structure U3(B:Bk):Prop where
 X:B.K.In B.av
 lim:B.av.NoLimit
 g:B.av.Ns mainGlobals B.mg
 b:B.av.Ns builtinsNs B.mb
 builtins:∀x:Str,x≠"__name__"->B.mb x=bootBuiltins x
noncomputable def HA.on(h:HA)(l:L):Bool->Prop
 |false=>h.c l≠none
 |true=>∃C as,h.c l=some (.inst C as)
noncomputable def HA.pl(h:HA)(l:L):Bool->Addr
 |false=>h.adr l
 |true=>h.gM l
noncomputable def HA.used(h:HA)(a:Addr):Prop:=∃l b,h.on l b/\h.pl l b=a
noncomputable def wT(B:Bk)(h:HA)(g:Heap):Prop:=∀L∈B.cW,B.av.get? L=none/\¬h.used L/\∃o es ep,g.get? L=some o/\o.data= .dict es ep
structure aI(B:Bk)(h:HA)(s:Shared):Prop where
 keep:∀b o,B.av.get? b=some o->s.heap.get? b=some o
 objs:∀l o,h.c l=some o->oh B.w.params B.cls B.av h s.heap l o
 fresh:∀l b,h.on l b->B.av.get? (h.pl l b)=none\/∃vs,h.c l=some (.ro vs)
 mods:∀l es n,h.c l=some (.aF es n)->(h.adr l==sysModules)=false
 inj:∀l b l' b',h.on l b->h.on l' b'->h.pl l b=h.pl l' b'->l=l'/\b=b'
 ay:∃N,∀n,N<=n->h.c (.ay n)=none
 os:s.os=B.s₀.os
 gens:s.gens=B.s₀.gens
 cW:wT B h s.heap
inductive j9(o:Obj):Obj->Prop
 |same:j9 o o
 |slots{es:Array DictEntry}{ep:Nat}{sl:Array (Option Value)}:o.data= .dict es ep->j9 o {o with slots:=sl}
section
variable{o o' RM:Obj}
theorem j9.data(l:j9 o o'):o'.data=o.data:=by cases l<;>rfl
theorem j9.exact(l:j9 o o')(n:∀es ep,o.data≠.dict es ep):o'=o:=by
 cases l with
 |same=>rfl
 |slots e=>exact absurd e (n _ _)
theorem j9.trans(a:j9 o o')(b:j9 o' RM):j9 o RM:=by
 cases b with
 |same=>exact a
 |slots e=>cases a with
  |same=>exact .slots e
  |slots e=>exact .slots e
end
structure Step(F:Addr->Prop)(h:HA)(g:Heap)(h':HA)(g':Heap):Prop where
 oL:∀b o,g.get? b=some o->¬h.used b->¬F b->∃o',g'.get? b=some o'/\j9 o o'
 grow:∀l,h.c l≠none->h'.c l≠none/\h'.adr l=h.adr l
 new:∀b,¬h.used b->h'.used b->g.get? b=none
 alive:∀b,g.get? b≠none->g'.get? b≠none
noncomputable abbrev c0:Addr->Prop:=λ_=>False
section
variable{F G:Addr->Prop}{h h' bP:HA}{g g' nL:Heap}{a b:Addr}{o:Obj}
theorem Step.more(k:∀b o,g.get? b=some o->g'.get? b=some o)(grow:∀l,h.c l≠none->h'.c l≠none/\h'.adr l=h.adr l)(new:∀b,¬h.used b->h'.used b->g.get? b=none):Step F h g h' g':=
 ⟨λb o e _ _=>⟨o,k b o e,.same⟩,grow,new,λb e=>gQ e λo e=>dj (k b o e)⟩
theorem Step.but(k:∀b,¬F b->g'.get? b=g.get? b)(al:∀b,F b->g'.get? b≠none):Step F h g h g':=
 ⟨λb o e _ f=>⟨o,(k b f).trans e,.same⟩,λ_ e=>⟨e,rfl⟩,λ_ a b=>absurd b a,λb e=>(aN (F b)).elim (al b) λf=>k b f▸e⟩
theorem Step.keep(S:Step F h g h' g')(b:Addr)(o:Obj)(e:g.get? b=some o)(u:¬h.used b)(f:¬F b)(n:∀es ep,o.data≠.dict es ep):g'.get? b=some o:=
 (S.oL b o e u f).elim λ_ z=>z.2.exact n▸z.1
theorem Step.refl:Step F h g h g:=.more (λ_ _ e=>e) (λ_ e=>⟨e,rfl⟩) λ_ a b=>absurd b a
theorem Step.trans(a:Step F h g h' g')(b:Step F h' g' bP nL):Step F h g bP nL:=
 ⟨λx o e q f=>(a.oL x o e q f).elim λo' z=>(b.oL x o' z.1 (λr=>cK e (a.new x q r)) f).imp λ_ z'=>⟨z'.1,z.2.trans z'.2⟩,
  λx e=>⟨(b.grow x (a.grow x e).1).1,(b.grow x (a.grow x e).1).2.trans (a.grow x e).2⟩,
  λx e q=>ip λz=>a.alive x z (b.new x (λr=>z (a.new x e r)) q),λx e=>b.alive x (a.alive x e)⟩
theorem Step.wide(a:Step F h g h' g')(hF:∀x,F x->G x):Step G h g h' g':=⟨λx o e q f=>a.oL x o e q λz=>f (hF x z),a.grow,a.new,a.alive⟩
theorem Step.all(a:Step c0 h g h' g'):Step G h g h' g':=a.wide λ_ e=>e.elim
theorem Step.unused(S:Step F h g h' g')(n:¬h.used b)(e:g.get? b≠none):¬h'.used b:=λr=>e (S.new b n r)
end
structure iC(env:Env)(nm:ag):Prop where
 nodup:(nm.map (·.1)).Nodup
 kind:env.scope.kind= .function
 glob:env.globals=mainGlobals
 blt:env.builtins=builtinsNs
 loc:∀x,nm.lookup x=some .local->env.kindOf x=some .local
 gl:∀x,nm.lookup x=some .globalImplicit->env.kindOf x=some .globalImplicit
 ce:∀x,nm.lookup x=some .cell->env.kindOf x=some .cell
 cl:∀x,nm.lookup x=some .cell\/nm.lookup x=some .free->env.kindOf x=some .cell\/env.kindOf x=some .free
noncomputable abbrev Loc:=Str->Option V
noncomputable def Loc.set(loc:Loc)(x:Str)(v:V):Loc:=λy=>if y=x then some v else loc y
noncomputable abbrev Fm:=List (Option V)
noncomputable def cj(nm:ag)(loc:Loc):Fm:=nm.map λp=>loc p.1
noncomputable def gq(nm:ag)(x:Str):Nat:=nm.rec 0 λp _ n=>if p.1=x then 0 else n+1
section
variable{nm:ag}{loc:Loc}{x:Str}{kd:NameKind}{v:V}
theorem OO{p:Str×NameKind}(e:p.1=x):gq (p::nm) x=0:=bz e
theorem ON{p:Str×NameKind}(e:¬p.1=x):gq (p::nm) x=gq nm x+1:=bD e
theorem Pg{p:Str×NameKind}(e:¬p.1=x):List.lookup x (p::nm)=nm.lookup x:=by
 rw [List.lookup_cons,beq_eq_false_iff_ne.mpr λz=>e z.symm]
theorem NW:nm.lookup x=some kd->(cj nm loc)[gq nm x]?=some (loc x):=by
 induction nm with
 |nil=>exact nofun
 |cons p r ih=>exact λh=>(aN (p.1=x)).elim (λe=>e▸(au (λi=>(cj (p::r) loc)[i]?) (OO (nm:=r) (p:=p) rfl))) λe=>ON (nm:=r) e▸ih (Pg e▸h)
theorem sN:(nm.map (·.1)).Nodup->nm.lookup x=some kd->cj nm (loc.set x v)=(cj nm loc).set (gq nm x) (some v):=by
 induction nm with
 |nil=>exact λ_=>nofun
 |cons p r ih=>
  intro d h
  have d:=gX.1 d
  refine(aN (p.1=x)).elim (λe=>?_) λe=>?_
  ·rw [OO e]
   exact kG (au List.cons (bz e)) (qy λq hq=>bD λ(z:q.1=x)=>d.1 (bg.2 ⟨q,hq,z.trans e.symm⟩))
  ·rw [ON e]
   exact kG (au List.cons (bD e)) (ih d.2 (Pg e▸h))
end
noncomputable def dM(env:Env):Addr->Prop:=λb=>b=env.locals\/∃x,env.cells.lookup x=some b
noncomputable def oF(env:Env):Addr->Prop:=λb=>b=env.locals
inductive wI(env:Env)(loc:Loc)(h:HA)(g:Heap):Prop
 |mk(m:Str->Option Value):g.Ns env.locals m->(∀x v,loc x=some v->env.kindOf x=some .local->∃y,m x=some y/\aP h g v y)->wI env loc h g
inductive we(env:Env)(h:HA)(g:Heap)(x:Str)(v:V):Prop
 |mk(c:Addr)(o:Obj)(y:Value):env.cells.lookup x=some c->g.get? c=some o->o.data= .cell (some y)->aP h g v y->we env h g x v
structure iV(B:Bk)(env:Env)(loc:Loc)(h:HA)(g:Heap):Prop where
 ns:wI env loc h g
 cell:∀x v,loc x=some v->env.kindOf x=some .cell\/env.kindOf x=some .free->we env h g x v
 off:∀b,dM env b->¬h.used b
 fresh:∀b,dM env b->B.av.get? b=none
 cells:∀x,env.kindOf x=some .cell->∃c,env.cells.lookup x=some c
 sW:∀x c,env.cells.lookup x=some c->∃o y,g.get? c=some o/\o.data= .cell y
 inj:∀x y c,env.cells.lookup x=some c->env.cells.lookup y=some c->x=y
 apart:∀x c,env.cells.lookup x=some c->c≠env.locals
 frame:∃L∈B.cW,env.frame=some L
structure fM(B:Bk)(t:Bool)(k:Nat)(A:Around):Prop where
 depth:A.depth+k<recursionLimit
 units:A.units+10*k+200<cLine
 guards:A.guards=some []
 handled:t=true->A.handled=none
 frames:∃l:List Env,A.frames=some l/\l.map (·.frame)=B.cW.map some/\∀e∈l,e.scope.kind≠.module
noncomputable abbrev EW:=Fm->H->(ab)->Prop
inductive EPost(B:Bk)(h:HA)(s:Shared)(Q:ab)(x:Value)(s':Shared):Prop
 |mk(v:V)(h':HA):aP h' s'.heap v x->aI B h' s'->Step c0 h s.heap h' s'.heap->Q v h'.c->EPost B h s Q x s'
structure At(B:Bk)(t:Bool)(k:Nat)(nm:ag)(env:Env)(loc:Loc)(h:HA)(s:Shared)(A:Around):Prop where
 S:iC env nm
 F:iV B env loc h s.heap
 R:aI B h s
 T:fM B t k A
noncomputable def aV(B:Bk)(t:Bool)(k:Nat)(nm:ag)(e:Expr)(m:EW):Prop:=
 ∀env loc h s A (Q:ab) (E:aa),At B t k nm env loc h s A->m (cj nm loc) h.c Q->wpAny B.M A (eval e env) (EPost B h s Q) E s
noncomputable def fb(B:Bk)(t:Bool)(k:Nat)(op:Value->Value->Sem Value)(f:V->V->H->(ab)->Prop):Prop:=
 ∀A h s (Q:ab) (E:aa) a b x y,aI B h s->fM B t k A->aP h s.heap a x->aP h s.heap b y->f a b h.c Q->wpAny B.M A (op x y) (EPost B h s Q) E s
section
variable{B:Bk}{t:Bool}{k:Nat}{nm:ag}{env:Env}{loc:Loc}{F:Addr->Prop}{h h':HA}{s s':Shared}{g g':Heap}{A:Around}{l:L}{a b d:Addr}{o:O}{v:V}{vs:aj}{x:Value}{xs:aq}{n:Nat}{C:CN}{as:ac}{p:Prop}{E:aa}{Q:ab}
theorem aI.lst(R:aI B h s)(e:h.c l=some (.lst vs))(k:∀xs n,LstAt s.heap (h.adr l) xs n->aY h s.heap vs xs.toList->p):p:=(R.objs _ _ e).elim λxs r=>r.elim λn r=>k xs n r.1 r.2
theorem aI.ro(R:aI B h s)(e:h.c l=some (.ro vs))(k:∀xs n,LstAt s.heap (h.adr l) xs n->aY h s.heap vs xs.toList->p):p:=(R.objs _ _ e).elim λxs r=>r.elim λn r=>k xs n r.1 r.2.1
theorem aI.aF{es:af}(R:aI B h s)(e:h.c l=some (.aF es n))(k:∀aQ,s.heap.get? (h.adr l)=some (dictOf aQ n)->gi B.w.params h s.heap es aQ->(es.map (·.1)).Nodup->(∀p∈es,cz 8 p.1)->p):p:=(R.objs _ _ e).elim λaQ r=>k aQ r.1 r.2.1 r.2.2.1 r.2.2.2
theorem aI.set{ys:List Str}(R:aI B h s)(e:h.c l=some (.set ys))(k:∀es ep t,s.heap.get? (h.adr l)=some {cls:=.type "set",dict:=none,data:=.set es ep t,slots:=#[]}->r7 B.w.params es ys->t.fits es.size=true->p):p:=
 (R.objs _ _ e).elim λes r=>r.elim λep r=>r.elim λt r=>k es ep t r.1 r.2.1 r.2.2
theorem aI.at_(R:aI B h s)(e:h.c l≠none)(k:∀ob,s.heap.get? (h.adr l)=some ob->ob.cls≠.type "tuple"->p):p:=gQ e λo z=>(R.objs l o z).at_.elim λob r=>k ob r.1 r.2
theorem aI.get(R:aI B h s)(e:h.c l≠none):s.heap.get? (h.adr l)≠none:=R.at_ e λ_ z _=>dj z
theorem aI.gM(R:aI B h s)(e:h.c l=some (.inst C as))(k:∀aQ n,s.heap.get? (h.gM l)=some (dictOf aQ n)->p):p:=(R.objs l _ e).elim λaQ r=>r.elim λn r=>k aQ n r.2.1
theorem aI.RU(R:aI B h s){b:Bool}(e:h.on l b)(k:∀ob,s.heap.get? (h.pl l b)=some ob->ob.cls≠.type "tuple"->p):p:=by
 cases b with
 |false=>exact R.at_ e k
 |true=>exact e.elim λC e=>e.elim λas e=>R.gM e λaQ n z=>k _ z (n5 rfl)
theorem aI.Ig(R:aI B h s)(e:h.used a)(k:∀ob,s.heap.get? a=some ob->ob.cls≠.type "tuple"->p):p:=e.elim λ_ e=>e.elim λ_ e=>R.RU e.1 λob=>e.2▸k ob
theorem aI.vd(R:aI B h s)(e:h.used a):s.heap.get? a≠none:=R.Ig e λ_ z _=>dj z
theorem aI.ltU(R:aI B h s)(e:h.used a):a<s.heap.objs.size:=R.Ig e λ_ z _=>jH z
theorem aI.S9(R:aI B h s):¬h.used s.heap.objs.size:=λe=>kh _ (R.ltU e)
theorem aiM(e:h.c l≠none):h.used (h.adr l):=⟨l,false,e,rfl⟩
theorem TR(e:h.c l=some (.inst C as)):h.used (h.gM l):=⟨l,true,⟨C,as,e⟩,rfl⟩
theorem aI.qW(R:aI B h s)(t:TupAt s.heap a xs):¬h.used a:=λu=>R.Ig u λ_ e c=>c (bc (e.symm.trans t)▸rfl)
theorem Step.stays(R:aI B h s)(k:Step F h s.heap h' g')(hF:∀a xs,F a->¬TupAt s.heap a xs):dH h s.heap h' g':=⟨λa xs t=>k.keep a _ t (R.qW t) (λz=>hF a xs z t) nofun,k.grow⟩
theorem Step.tN(R:aI B h s)(k:Step c0 h s.heap h' g'):dH h s.heap h' g':=k.stays R λ_ _ f=>f.elim
theorem aP.step(r:aP h s.heap v x)(R:aI B h s)(S:Step c0 h s.heap h' g'):aP h' g' v x:=r.bM (S.tN R)
theorem tO(k:∀b o,g.get? b=some o->g'.get? b=some o):dH h g h g':=⟨λ_ _ e=>k _ _ e,λ_ e=>⟨e,rfl⟩⟩
theorem E8(k:∀b o,g.get? b=some o->g'.get? b=some o){b:Addr}(e:g.get? b≠none):g'.get? b=g.get? b:=gQ e λo z=>(k b o z).trans z.symm
theorem aI.gd(R:aI B h s)(keep:∀b o,B.av.get? b=some o->s'.heap.get? b=some o)(st:dH h s.heap h s'.heap)(eq:∀b,h.used b->s'.heap.get? b=s.heap.get? b)(cW:wT B h s'.heap)(ho:s'.os=s.os)(hg:s'.gens=s.gens):aI B h s':=
 ⟨keep,λl o e=>(R.objs l o e).same st (dj e) (eq _ (aiM (dj e))) λC as q=>⟨rfl,eq _ (TR (q▸e))⟩,R.fresh,R.mods,R.inj,R.ay,ho.trans R.os,hg.trans R.gens,cW⟩
theorem wT.keep(R:wT B h g)(k:∀b x,g.get? b=some x->g'.get? b=some x):wT B h g':=λL hL=>⟨(R L hL).1,(R L hL).2.1,(R L hL).2.2.imp λ_ z=>z.imp λ_ z=>z.imp λ_ z=>⟨k _ _ z.1,z.2⟩⟩
theorem aI.more(R:aI B h s)(k:∀b o,s.heap.get? b=some o->s'.heap.get? b=some o)(ho:s'.os=s.os)(hg:s'.gens=s.gens):aI B h s':=
 R.gd (λb o e=>k b o (R.keep b o e)) (tO k) (λ_ u=>E8 k (R.vd u)) (R.cW.keep k) ho hg
theorem aI.toks(R:aI B h s)(n:Nat):aI B h {s with toks:=n}:={R with}
theorem aI.push(R:aI B h s)(o:Obj):aI B h {s with heap:=s.heap.push o}:=R.more (λ_ _ e=>c9 _ e) rfl rfl
theorem Step.push(o:Obj):Step F h g h (g.push o):=.more (λ_ _ e=>c9 _ e) (λ_ e=>⟨e,rfl⟩) λ_ a b=>absurd b a
theorem rm{ob:Obj}(t:TupAt g a xs)(e:g.get? a=some ob):ob.data= .seq xs:=au Obj.data (bc (e.symm.trans t))
theorem iV.qW(F:iV B env loc h g):∀a xs,dM env a->¬TupAt g a xs:=λa xs f q=>by
 cases f with
 |inl e=>
  cases F.ns with
  |mk m z=>exact z.elim λo z=>z.elim λes z=>z.elim λep z=>Data.noConfusion ((rm q (e▸z.1)).symm.trans z.2.1)
 |inr e=>exact e.elim λx e=>(F.sW x a e).elim λo z=>z.elim λy z=>Data.noConfusion ((rm q z.1).symm.trans z.2)
theorem iV.Ed(F:iV B env loc h g)(f:dM env a):g.get? a≠none:=by
 cases f with
 |inl e=>
  cases F.ns with
  |mk m z=>exact z.elim λo z=>z.elim λes z=>z.elim λep z=>dj (e▸z.1)
 |inr e=>exact e.elim λx e=>(F.sW x a e).elim λo z=>z.elim λy z=>dj z.1
theorem wI.step(N:wI env loc h g)(st:dH h g h' g')(k:∀o,g.get? env.locals=some o->∃o',g'.get? env.locals=some o'/\o'.data=o.data):wI env loc h' g':=by
 cases N with
 |mk m n q=>exact .mk m (n.elim λo z=>z.elim λes z=>z.elim λep z=>(k o z.1).elim λo' y=>⟨o',es,ep,y.1,y.2.trans z.2.1,z.2.2⟩) λx v e kx=>(q x v e kx).imp λy z=>⟨z.1,z.2.bM st⟩
theorem we.step{x:Str}(c:we env h g x v)(st:dH h g h' g')(k:∀c o y,env.cells.lookup x=some c->g.get? c=some o->o.data= .cell y->g'.get? c=some o):we env h' g' x v:=by
 cases c with
 |mk c o y e1 e2 e3 r=>exact .mk c o y e1 (k c o _ e1 e2 e3) e3 (r.bM st)
theorem iV.gd(F:iV B env loc h g)(st:dH h g h' g')(off:∀b,dM env b->¬h'.used b)(kl:∀o,g.get? env.locals=some o->∃o',g'.get? env.locals=some o'/\o'.data=o.data)
 (kc:∀x c o y,env.cells.lookup x=some c->g.get? c=some o->o.data= .cell y->g'.get? c=some o):iV B env loc h' g':=
 ⟨F.ns.step st kl,λx v e kx=>(F.cell x v e kx).step st λc o y=>kc x c o y,off,F.fresh,F.cells,λx c e=>(F.sW x c e).imp λo z=>z.imp λy z=>⟨kc x c o y e z.1 z.2,z.2⟩,F.inj,F.apart,F.frame⟩
theorem iV.step(F:iV B env loc h s.heap)(R:aI B h s)(S:Step c0 h s.heap h' g'):iV B env loc h' g':=
 F.gd (S.tN R) (λb f=>S.unused (F.off b f) (F.Ed f)) (λo e=>(S.oL _ o e (F.off _ (.inl rfl)) id).imp λ_ z=>⟨z.1,z.2.data⟩) λx c o y e eo ed=>S.keep c o eo (F.off c (.inr ⟨x,e⟩)) id λ_ _ z=>nomatch ed.symm.trans z
theorem At.step(a:At B t k nm env loc h s A)(R:aI B h' s')(S:Step c0 h s.heap h' s'.heap):At B t k nm env loc h' s' A:=⟨a.S,a.F.step a.R S,R,a.T⟩
theorem EPost.mono{az:HA}{s₁:Shared}(S:Step c0 h s.heap az s₁.heap)(e:EPost B az s₁ Q x s'):EPost B h s Q x s':=by
 cases e with
 |mk v h' a b c d=>exact .mk v h' a b (S.trans c) d
theorem jE{m:Sem Value}{az:HA}{s₁ cr:Shared}(S:Step c0 h s.heap az s₁.heap)(w:wpAny B.M A m (EPost B az s₁ Q) E cr):wpAny B.M A m (EPost B h s Q) E cr:=dK w (λ_ _ e=>e.mono S) λ_ _ e=>e
theorem aV.go{e:Expr}{m:EW}(he:aV B t k nm e m)(a:At B t k nm env loc h s A)(q:m (cj nm loc) h.c Q){P:aa}
 (kk:∀v az x s₁,aP az s₁.heap v x->aI B az s₁->Step c0 h s.heap az s₁.heap->At B t k nm env loc az s₁ A->Q v az.c->P x s₁):wpAny B.M A (eval e env) P E s:=
 dK (he env loc h s A Q E a q) (λx s₁ z=>by cases z with|mk v az r R S q=>exact kk v az x s₁ r R S (a.step R S) q) λ_ _ e=>e
theorem EPost.val{tk:Nat}(R:aI B h s)(r:aP h s.heap v x)(q:Q v h.c):EPost B h s Q x {s with toks:=tk}:=.mk v h r (R.toks tk) .refl q
theorem EPost.iQ(R:aI B h s)(r:aP h s.heap v x)(q:Q v h.c):EPost B h s Q x s:=.mk v h r R .refl q
theorem aV.cInt{i:Int}{c:Nat}{pos:Pos}:aV B t k nm (.Constant (.int i) c pos) λ_ h Q=>Q (.int i) h:=λ_ _ _ _ _ _ _ a q=>wpAny_Constant_int (.val (v:=.int i) a.R ⟨_,rfl⟩ q)
theorem aV.cStr{x:Str}{c:Nat}{pos:Pos}:aV B t k nm (.Constant (.str x) c pos) λ_ h Q=>Q (.str x) h:=λ_ _ _ _ _ _ _ a q=>Calls.Constant_str (.val (v:=.str x) a.R ⟨_,rfl⟩ q)
theorem aV.WI{c:Nat}{pos:Pos}:aV B t k nm (.Constant .none c pos) λ_ h Q=>Q .none h:=λ_ _ _ _ _ _ _ a q=>aG (.iQ (v:=.none) a.R rfl q)
theorem aV.cBool{b:Bool}{c:Nat}{pos:Pos}:aV B t k nm (.Constant (.bool b) c pos) λ_ h Q=>Q (.bool b) h:=λ_ _ _ _ _ _ _ a q=>aG (.iQ (v:=.bool b) a.R rfl q)
noncomputable def an(i:Nat):EW:=λg h Q=>∃v,g[i]?=some (some v)/\Q v h
theorem AV{y:Str}{kd:NameKind}(hx:nm.lookup y=some kd)(e:(cj nm loc)[gq nm y]?=some (some v)):loc y=some v:=bc ((NW hx).symm.trans e)
theorem aV.name{x:Str}{pos:Pos}(hx:nm.lookup x=some .local)(hd:(x==("__debug__":Str))=false):aV B t k nm (.Name x pos) (an (gq nm x)):=λenv loc h s A Q E a q=>by
 cases a.F.ns with
 |mk m n z=>exact q.elim λv q=>(z x v (AV hx q.1) (a.S.loc x hx)).elim λy r=>wpAny_Name (wpAny_loadName_local a.S.kind (a.S.loc x hx) n r.1 (.iQ a.R r.2 q.2)) hd
theorem aV.aes{x:Str}{pos:Pos}(hx:nm.lookup x=some .cell\/nm.lookup x=some .free)(hd:(x==("__debug__":Str))=false)(hn:x≠"__classdict__"):aV B t k nm (.Name x pos) (an (gq nm x)):=λenv loc h s A Q E a q=>
 have kx:=a.S.cl x hx
 q.elim λv q=>by
  cases a.F.cell x v (hx.elim (λhx=>AV hx q.1) λhx=>AV hx q.1) kx with
  |mk c o y hc ho xR r=>exact wpAny_Name (kx.elim (λz=>wpAny_loadName_cell a.S.kind z hc ⟨o,ho,xR⟩ (.iQ a.R r q.2)) λz=>wpAny_loadName_free a.S.kind z hc ⟨o,ho,xR⟩ (.iQ a.R r q.2) (nF.2 hn)) hd
theorem aV.binOp{l r:Expr}{op:Operator}{pos:Pos}{ml mr:EW}{f:V->V->H->(ab)->Prop}(hl:aV B t k nm l ml)(hr:aV B t k nm r mr)(ho:fb B t k (binaryOp op) f):
 aV B t k nm (.BinOp l op r pos) λloc h Q=>ml loc h λa az=>mr loc az λb aU=>f a b aU Q:=λ_ _ _ _ A Q E a q=>
 wpAny_BinOp (hl.go a q λu _ x _ ru br aR bG aX=>hr.go bG aX λv aU y cr rv dd be _ ck=>jE (aR.trans be) (ho A aU cr Q E u v x y dd a.T (ru.step br be) rv ck))
noncomputable abbrev DU(h:H):Prop:=∃N,∀n,N<=n->h (.ay n)=none
noncomputable def dJ(o:O)(h:H)(Q:ab):Prop:=DU h->∃l,h l=none/\Q (.ref l) (h.upd l o)
theorem gO{o:O}{h:H}{Q:ab}(l:L)(e:h l=none)(q:Q (.ref l) (h.upd l o)):dJ o h Q:=λ_=>⟨l,e,q⟩
theorem gA{o:O}{h:H}{Q:ab}(q:∀n,h (.ay n)=none->Q (.ref (.ay n)) (h.upd (.ay n) o)):dJ o h Q:=λ⟨N,e⟩=>⟨.ay N,e N (cB _),q N (e N (cB _))⟩
theorem H.aJ{h:H}{a:L}{o:O}:(h.upd a o) a=some o:=bz rfl
theorem H.bp{h:H}{a b:L}{o:O}(n:b≠a):(h.upd a o) b=h b:=bD n
theorem H.TQ{h:H}{a b:L}{o:O}(n:h b≠none):(h.upd a o) b≠none:=(aN (b=a)).elim (λe=>e▸dj H.aJ) λe=>H.bp e▸n
theorem TA{h:H}{l:L}{o:O}(e:DU h):DU (h.upd l o):=e.elim λN e=>by
 cases l with
 |ay m=>exact⟨max N (m+1),λn hn=>(H.bp λz=>DC m (aw (Nat.le_max_right N _) (aw hn (aL (L.ay.inj z))))).trans (e n (aw (Nat.le_max_left _ _) hn))⟩
 |mk a b c=>exact⟨N,λn hn=>(H.bp (L.noConfusion:L.ay n≠L.mk a b c)).trans (e n hn)⟩
theorem jv{g:Heap}:g.get? g.objs.size=none:=ip λz=>gQ z λ_ e=>kh _ (jH e)
noncomputable def HA.add(h:HA)(l:L)(o:O)(a d:Addr):HA:=⟨h.c.upd l o,λx=>if x=l then a else h.adr x,λx=>if x=l then d else h.gM x⟩
theorem HA.nD:(h.add l o a d).adr l=a:=bz rfl
theorem HA.w6:(h.add l o a d).gM l=d:=bz rfl
theorem HA.D8{x:L}(n:x≠l):(h.add l o a d).adr x=h.adr x:=bD n
theorem HA.L8{x:L}(n:x≠l):(h.add l o a d).gM x=h.gM x:=bD n
theorem HA.oo{x:L}{b:Bool}(n:x≠l)(z:(h.add l o a d).on x b):h.on x b/\(h.add l o a d).pl x b=h.pl x b:=by
 cases b with
 |false=>exact⟨λw=>z ((H.bp n).trans w),HA.D8 n⟩
 |true=>exact⟨z.imp λ_ z=>z.imp λ_ z=>(H.bp n (h:=h.c) (o:=o)).symm.trans z,HA.L8 n⟩
theorem HA.D9{y:O}(z:(h.add l o a d).c l=some y):o=y:=bc (H.aJ.symm.trans z)
theorem HA.L9(e:h.c l=none)(x:L)(n:h.c x≠none):(h.add l o a d).c x≠none/\(h.add l o a d).adr x=h.adr x:=⟨H.TQ n,HA.D8 λz=>n (z▸e)⟩
theorem aI.add(R:aI B h s)(e:h.c l=none)(k:∀b x,s.heap.get? b=some x->s'.heap.get? b=some x)(ha:s.heap.get? a=none)(hd:s.heap.get? d=none)(Ze:(∃C as,o= .inst C as)->d≠a)(hm:(∃es n,o= .aF es n)->(a==sysModules)=false)
 (rep:dH h s.heap (h.add l o a d) s'.heap->oh B.w.params B.cls B.av (h.add l o a d) s'.heap l o)(ho:s'.os=s.os)(hg:s'.gens=s.gens):
 aI B (h.add l o a d) s'/\Step c0 h s.heap (h.add l o a d) s'.heap:=by
 have st:dH h s.heap (h.add l o a d) s'.heap:=⟨λ_ _ t=>k _ _ t,λx n=>HA.L9 e x n⟩
 have free:∀{b:Bool},s.heap.get? ((h.add l o a d).pl l b)=none:=λ{b}=>by
  cases b with
  |false=>exact(au s.heap.get? HA.nD).trans ha
  |true=>exact(au s.heap.get? HA.w6).trans hd
 have old:∀{x:L} {y:O},x≠l->(h.add l o a d).c x=some y->h.c x=some y:=λn q=>(H.bp n).symm.trans q
 have ne:∀{x:L} {b b':Bool},x≠l->(h.add l o a d).on x b->(h.add l o a d).pl x b≠(h.add l o a d).pl l b':=λn z w=>R.RU (HA.oo n z).1 λ_ q _=>cK q ((HA.oo n z).2▸w▸free)
 have new:∀b,¬h.used b->(h.add l o a d).used b->s.heap.get? b=none:=λb n u=>u.elim λx u=>u.elim λc u=>(aN (x=l)).elim (λz=>u.2▸z▸free) λz=>absurd ⟨x,c,(HA.oo z u.1).1,(HA.oo z u.1).2▸u.2⟩ n
 refine⟨⟨λb x q=>k _ _ (R.keep b x q),λx y q=>?_,λx b z=>?_,λx es n q=>?_,λx b y c z w q=>?_,TA R.ay,ho.trans R.os,hg.trans R.gens,λL hL=>?_⟩,.more k (λx n=>HA.L9 e x n) new⟩
 ·refine(aN (x=l)).elim (λn=>?_) λn=>?_
  ·cases n
   exact HA.D9 q▸rep st
  ·exact(R.objs x y (old n q)).same st (dj (old n q)) (E8 k (R.get (dj (old n q)))) λC as z=>⟨HA.L8 n,E8 k (R.vd (TR (z▸old n q)))⟩
 ·refine(aN (x=l)).elim (λn=>.inl ?_) λn=>?_
  ·exact ip λw=>gQ w λob w=>cK (R.keep _ _ w) (n▸free)
  ·exact(HA.oo n z).2▸(R.fresh x b (HA.oo n z).1).imp id λw=>w.imp λ_ w=>(H.bp n).trans w
 ·refine(aN (x=l)).elim (λz=>?_) λz=>(au (·==sysModules) (HA.D8 z)).trans (R.mods x es n (old z q))
  cases z
  exact(au (·==sysModules) HA.nD).trans (hm ⟨es,n,HA.D9 q⟩)
 ·refine(aN (x=l)).elim (λn=>(aN (y=l)).elim (λm=>⟨n.trans m.symm,?_⟩) λm=>absurd (n▸q).symm (ne m w)) λn=>(aN (y=l)).elim (λm=>absurd (m▸q) (ne n z)) λm=>?_
  ·subst n;subst m
   have dn:∀{C as},(h.add y o a d).c y=some (.inst C as)->d≠a:=λz=>Ze ⟨_,_,HA.D9 z⟩
   cases b with
   |false=>cases c with
    |false=>rfl
    |true=>exact w.elim λ_ w=>w.elim λ_ w=>absurd (HA.w6.symm.trans (q.symm.trans HA.nD)) (dn w)
   |true=>cases c with
    |false=>exact z.elim λ_ w=>w.elim λ_ w=>absurd (HA.w6.symm.trans (q.trans HA.nD)) (dn w)
    |true=>rfl
  ·exact R.inj x b y c (HA.oo n z).1 (HA.oo m w).1 ((HA.oo n z).2.symm.trans (q.trans (HA.oo m w).2))
 ·exact⟨(R.cW L hL).1,λu=>(R.cW L hL).2.2.elim λob z=>z.elim λes z=>z.elim λep z=>cK z.1 (new L (R.cW L hL).2.1 u),(R.cW.keep k L hL).2.2⟩
theorem aI.ahO(R:aI B h s):(s.heap.objs.size==sysModules)=false:=B.low.elim λ_ e=>nF.2 λz=>absurd (z▸jH (R.keep _ _ e)) (by decide)
noncomputable def O.tag(o:O):Nat:=o.rec (λ_=>0) (λ_=>1) (λ_ _=>2) (λ_=>3) (λ_=>4) λ_ _=>5
theorem aI.alloc(R:aI B h s){ob:Obj}(e:h.c l=none)(hi:Nat.beq o.tag 5=false)(rep:dH h s.heap (h.add l o s.heap.objs.size s.heap.objs.size) (s.heap.push ob)->oh B.w.params B.cls B.av (h.add l o s.heap.objs.size s.heap.objs.size) (s.heap.push ob) l o):
 aI B (h.add l o s.heap.objs.size s.heap.objs.size) {s with heap:=s.heap.push ob}/\Step c0 h s.heap (h.add l o s.heap.objs.size s.heap.objs.size) (s.heap.push ob):=
 R.add (s':={s with heap:=s.heap.push ob}) e (λ_ _ q=>c9 _ q) jv jv (λz=>z.elim λC z=>z.elim λas z=>nomatch (z▸hi:Nat.beq (O.inst C as).tag 5=false)) (λ_=>R.ahO) rep rfl rfl
theorem yW:aP (h.add l o a d) g (.ref l) (.ref a):=⟨au Value.ref HA.nD.symm,dj H.aJ⟩
theorem EPost.new(R:aI B h s)(q:dJ o h.c Q){ob:Obj}(hi:Nat.beq o.tag 5=false)(rep:∀l,dH h s.heap (h.add l o s.heap.objs.size s.heap.objs.size) (s.heap.push ob)->(h.add l o s.heap.objs.size s.heap.objs.size).adr l=s.heap.objs.size->(s.heap.push ob).get? s.heap.objs.size=some ob->oh B.w.params B.cls B.av (h.add l o s.heap.objs.size s.heap.objs.size) (s.heap.push ob) l o)
 (hf:ob.isFreed=false):EPost B h s Q (.ref s.heap.objs.size) {s with heap:=s.heap.push ob}:=
 (q R.ay).elim λl q=>
  have z:=R.alloc (ob:=ob) q.1 hi λst=>rep l st HA.nD (dW _ hf)
  .mk (.ref l) _ yW z.1 z.2 q.2
end
section
variable{B:Bk}{t:Bool}{k:Nat}{h:HA}{s:Shared}{A:Around}{a b v:V}{x y:Value}{vs:aj}{xs:ao}{d da db:PyData}{ds:List PyData}
noncomputable def Rd(h:H)(v:V)(d:PyData):Prop:=∀(B:Bk) (g:HA) (s:Shared) (x:Value),g.c=h->aI B g s->aP g s.heap v x->∃as,Reads s.heap x d as
noncomputable def jO(h:H)(vs:aj)(ds:List PyData):Prop:=∀(B:Bk) (g:HA) (s:Shared) (xs:ao),g.c=h->aI B g s->aY g s.heap vs xs->∃as,ReadsAll s.heap xs ds as
noncomputable def dR(h:H)(a:L)(vs:aj):Prop:=h a=some (.lst vs)\/h a=some (.ro vs)
theorem dR.rep{a:L}{p:Prop}(R:aI B h s)(e:dR h.c a vs)(k:∀xs n,LstAt s.heap (h.adr a) xs n->aY h s.heap vs xs.toList->p):p:=e.elim (λe=>R.lst e k) λe=>R.ro e k
section
variable{h:H}
theorem Rd.int(i:Int):Rd h (.int i) (.int i):=λ_ _ _ _ _ _ r=>r.dG (p:=λx=>∃as,Reads _ x _ as) λ_=>⟨_,.int i _⟩
theorem Rd.str(i:Str):Rd h (.str i) (.str i):=λ_ _ _ _ _ _ r=>r.eZ (p:=λx=>∃as,Reads _ x _ as) λ_=>⟨_,.str i _⟩
theorem Rd.tup(q:jO h vs ds):Rd h (.tup vs) (.tuple ds):=λ_ _ _ _ e R r=>r.iP (p:=λx=>∃as,Reads _ x _ as) λ_ _ ho z=>(q _ _ _ _ e R z).imp λ_ z=>.tuple ho rfl rfl z
theorem Rd.lst{a:L}(ha:dR h a vs)(q:jO h vs ds):Rd h (.ref a) (.list ds):=λ_ _ _ _ e R r=>r.cA (p:=λx=>∃as,Reads _ x _ as) λ_=>dR.rep R (e▸ha) λ_ _ ho z=>(q _ _ _ _ e R z).elim λ_ z=>⟨_,.list ho rfl rfl z⟩
theorem jO.nil:jO h [] []:=λ_ _ _ _ _ _ r=>r.mG (P:=λx=>∃as,ReadsAll _ x _ as) ⟨_,.nil⟩
theorem jO.cons(p:Rd h v d)(q:jO h vs ds):jO h (v::vs) (d::ds):=λ_ _ _ _ e R r=>r.hW (P:=λx=>∃as,ReadsAll _ x _ as) λ_ _ r1 r2=>(p _ _ _ _ e R r1).elim λ_ z=>(q _ _ _ _ e R r2).elim λ_ zs=>⟨_,.cons z zs⟩
end
theorem Rd.reads(r:Rd h.c v d)(R:aI B h s)(rv:aP h s.heap v x):∃as,Reads s.heap x d as:=r _ _ _ _ rfl R rv
theorem B3(T:fM B t k A){n:Nat}(d:n<=100):A.units+n<cLine:=B4 T.units (aw d (by decide))
theorem rp(T:fM B t k A){n:Nat}(d:n<=100):A.units+1+n<cLine:=TL T.units (cS (aw d (by decide)))
inductive zu(h:H)(Q:Bool->Prop):V->V->Prop
 |str{x y:Str}:Q (x==y)->zu h Q (.str x) (.str y)
 |int{x y:Int}:Q (x==y)->zu h Q (.int x) (.int y)
 |dat{a b:V}{da db:PyData}:Rd h a da->Rd h b db->da.canLay0=true->db.canLay0=true->min da.depth db.depth<=100->Q (PyData.eqv da db)->zu h Q a b
noncomputable abbrev xB(a b:V)(h:H)(Q:Bool->Prop):Prop:=zu h Q a b
noncomputable abbrev Gives(B:Bk)(A:Around)(s:Shared)(m:Sem Value)(z:Value):Prop:=∀{E:aa} {P:aa},P z s->wpAny B.M A m P E s
theorem R0{op:CmpOp}(f:Bool->Bool)(ws:∀{A s} x y tx ty,Gives B A s (compareOp op (.str x tx) (.str y ty)) (.bool (f (x==y))))(wi:∀{A s} x y tx ty,Gives B A s (compareOp op (.int x tx) (.int y ty)) (.bool (f (x==y))))
 (wd:∀{A s x y da db as bs},Reads s.heap x da as->Reads s.heap y db bs->da.canLay0=true->db.canLay0=true->A.units+min da.depth db.depth<cLine->Gives B A s (compareOp op x y) (.bool (f (PyData.eqv da db)))):
 fb B t k (compareOp op) λa b h Q=>xB a b h λr=>Q (.bool (f r)) h:=λA h s Q E a b x y R T ra rb q=>by
 induction q with
 |str q=>exact ra.eZ λ_=>rb.eZ λ_=>ws _ _ _ _ (.iQ (v:=.bool _) R rfl q)
 |int q=>exact ra.dG λ_=>rb.dG λ_=>wi _ _ _ _ (.iQ (v:=.bool _) R rfl q)
 |dat r1 r2 c1 c2 hd q=>exact(r1.reads R ra).elim λ_ z1=>(r2.reads R rb).elim λ_ z2=>wd z1 z2 c1 c2 (B3 T hd) (.iQ (v:=.bool _) R rfl q)
theorem ae9:fb B t k (compareOp .Eq) λa b h Q=>xB a b h λr=>Q (.bool r) h:=R0 id (λ_ _ _ _=>PyProof.Rows.eq_str) (λ_ _ _ _=>PyProof.Rows.eq_int) λr1 r2 c1 c2 u=>SeqAt.compareEq_reads r1 r2 c1 c2 u
theorem afj:fb B t k (compareOp .NotEq) λa b h Q=>xB a b h λr=>Q (.bool (!r)) h:=R0 not (λ_ _ _ _=>PyProof.Rows.ne_str) (λ_ _ _ _=>PyProof.Rows.ne_int) λr1 r2 c1 c2 u=>SeqAt.compareNe_reads r1 r2 c1 c2 u
inductive De(f:Int->Int->V)(h:H)(Q:ab):V->V->Prop
 |mk{x y:Int}:Q (f x y) h->De f h Q (.int x) (.int y)
noncomputable abbrev nN(f:Int->Int->V)(a b:V)(h:H)(Q:ab):Prop:=De f h Q a b
theorem yx{op:Value->Value->Sem Value}{f:Int->Int->V}(w:∀{A s E} {P:aa} x y tx ty,(∀z n,(∀h g,aP h g (f x y) z)->P z {s with toks:=n})->wpAny B.M A (op (.int x tx) (.int y ty)) P E s):fb B t k op (nN f):=λA h s Q E a b x y R T ra rb q=>by
 induction q with
 |mk q=>exact ra.dG λ_=>rb.dG λ_=>w _ _ _ _ λz n r=>.val R (r _ _) q
theorem aff:fb B t k (compareOp .Lt) (nN λx y=>.bool (decide (x<y))):=yx λ_ _ _ _ q=>PyProof.Rows.lt_int (q _ _ λ_ _=>rfl)
theorem afe:fb B t k (compareOp .LtE) (nN λx y=>.bool (decide (x<=y))):=yx λ_ _ _ _ q=>PyProof.Rows.le_int (q _ _ λ_ _=>rfl)
theorem afa:fb B t k (compareOp .Gt) (nN λx y=>.bool (decide (y<x))):=yx λ_ _ _ _ q=>PyProof.Rows.gt_int (q _ _ λ_ _=>rfl)
theorem ae':fb B t k (compareOp .GtE) (nN λx y=>.bool (decide (y<=x))):=yx λ_ _ _ _ q=>PyProof.Rows.ge_int (q _ _ λ_ _=>rfl)
theorem afm:fb B t k (binaryOp .Sub) (nN λx y=>.int (x - y)):=yx λ_ _ _ _ q=>PyProof.Rows.sub_int (q _ _ λ_ _=>⟨_,rfl⟩)
theorem EPost.lst{Q:ab}{n:Nat}(R:aI B h s)(r:aY h s.heap vs xs)(q:dJ (.lst vs) h.c Q):EPost B h s Q (.ref s.heap.objs.size) {s with heap:=s.heap.push {cls:=.type "list",data:=.seq xs.toArray n}}:=
 .new R q rfl (λ_ st ea eg=>⟨xs.toArray,n,ea.symm▸eg,r.bM st⟩) rfl
theorem EPost.aF{Q:ab}{n:Nat}(R:aI B h s)(q:dJ (.aF [] n) h.c Q):EPost B h s Q (.ref s.heap.objs.size) {s with heap:=s.heap.push {cls:=.type "dict",data:=.dict #[] n}}:=
 .new R q rfl (λ_ st ea eg=>⟨[],ea.symm▸eg,.nil,.nil,λ_ e=>absurd e a0⟩) rfl
theorem EPost.tup{Q:ab}(R:aI B h s)(r:aY h s.heap vs xs)(q:Q (.tup vs) h.c):EPost B h s Q (.ref s.heap.objs.size) {s with heap:=s.heap.push {cls:=.type "tuple",data:=.seq xs.toArray}}:=
 .mk (.tup vs) h ⟨_,xs.toArray,rfl,dW _ rfl,r.bM (tO λ_ _ e=>c9 _ e)⟩ (R.push _) (.push _) q
inductive za(h:H)(Q:ab):V->V->Prop
 |int{x y:Int}:Q (.int (x+y)) h->za h Q (.int x) (.int y)
 |str{x y:Str}:x.length+y.length<=1000000->Q (.str (x++y)) h->za h Q (.str x) (.str y)
 |lst{a b:L}{vs ws:aj}:h a=some (.lst vs)->h b=some (.lst ws)->vs.length+ws.length<=1000000->dJ (.lst (vs++ws)) h Q->za h Q (.ref a) (.ref b)
noncomputable abbrev addW(a b:V)(h:H)(Q:ab):Prop:=za h Q a b
theorem ae5:fb B t k (binaryOp .Add) addW:=λA h s Q E a b x y R T ra rb q=>by
 induction q with
 |int q=>exact ra.dG λ_=>rb.dG λ_=>PyProof.Rows.add_int (.val (v:=.int _) R ⟨_,rfl⟩ q)
 |str hl q=>exact ra.eZ λ_=>rb.eZ λ_=>PyProof.Rows.add_str (λ_ _=>.val (v:=.str _) R ⟨_,rfl⟩ q) (iM hl)
 |lst ha hb hl q=>exact ra.cA λ_=>rb.cA λ_=>R.lst ha λxs n hx rx=>R.lst hb λys m hy ry=>PySem.P.add_list hx hy (Array.toArray_toList (xs:=xs++ys)▸Jf (xs:=xs) (ys:=ys)▸EPost.lst R (rx.append ry) q) (rx.size▸ry.size▸iM hl)
end
structure gB(B:Bk):Prop where
 bk:U3 B
 truth:findIn B.K (.ref (B.cls .item)) "__bool__"=some none/\findIn B.K (.ref (B.cls .item)) "__len__"=some none
inductive pM(h:H)(Q:Bool->Prop):V->Prop
 |none:Q false->pM h Q .none
 |bool{b:Bool}:Q b->pM h Q (.bool b)
 |int{i:Int}:Q (i !=0)->pM h Q (.int i)
 |str{s:Str}:s.length<=1000000->Q ((s.length:Int)!=0)->pM h Q (.str s)
 |tup{vs:aj}:vs.length<=1000000->Q (!vs.isEmpty)->pM h Q (.tup vs)
 |lst{a:L}{vs:aj}:h a=some (.lst vs)->vs.length<=1000000->Q (!vs.isEmpty)->pM h Q (.ref a)
 |aF{a:L}{es:af}{n:Nat}:h a=some (.aF es n)->es.length<=1000000->Q (!es.isEmpty)->pM h Q (.ref a)
 |item{a:L}{as:ac}:h a=some (.inst .item as)->Q true->pM h Q (.ref a)
noncomputable abbrev vW(v:V)(h:H)(Q:Bool->Prop):Prop:=pM h Q v
inductive mU(B:Bk)(h:HA)(s:Shared)(Q:Bool->H->Prop)(b:Bool)(s':Shared):Prop
 |mk(h':HA):aI B h' s'->Step c0 h s.heap h' s'.heap->Q b h'.c->mU B h s Q b s'
section
variable{prog:Program}{w:World}{A:Around}{E:aa}{s:Shared}{d:Addr}{aQ:List DictEntry}{n:Nat}
theorem tv{n:Nat}(h:n<=1000000):(n:Int)<2^63:=wk (jK.2 h) (by decide)
theorem yt{n:Nat}(h:n<=1000000):¬(n:Int)≥2^63:=Int.not_le.mpr (tv h)
theorem aef(hd:(d==sysModules)=false):
 MeetsIn prog w (Builtin.«dict.__len__» ⟨[.ref d],[]⟩) (λ_ R s=>∃aQ n,s.heap.get? d=some (dictOf aQ n)/\R (.ok (.ret (.int aQ.length s.toks))) {s with toks:=s.toks+1}):=
 .of_wp λA R s z=>z.elim λ_ z=>z.elim λ_ z=>ax (m:=dictSize d) (ax (ql z.1 rfl (aG (ax (m:=Builtin.Dict.pendingCount d) (wpAny_pendingCount_other hd (wpAny_ret_mkInt z.2))))))
theorem O6{Q:aa}(hd:(d==sysModules)=false)(ho:s.heap.get? d=some (dictOf aQ n))(xU:aQ.length<=1000000)
 (h:Q (.int aQ.length (s.toks+1)) {s with toks:=s.toks+1+1}):wpAny (model prog w) A (Builtin.«len» ⟨[.ref d],[]⟩) (λfin s'=>∃r,fin= .done (.ret r)/\Q r s') E s:=
 have hT:s.TypeIs (.ref d) "dict":=⟨_,ho,rfl⟩
 ax (m:=oneArg "len" _) (aG (ax (m:=callSpecial? (.ref d) (Str.ofString "__len__")) (qk (name:=Str.ofString "__len__") hT JN
  (call_meetsIn JN hT F.entry_dict_len (F.args_dict_len_1 _) (aef hd) ⟨aQ,n,ho,ax (c8 (aG (ax (wpAny_letGo (bZ (cQ (jI.2 (gx _)))
   (bZ (cQ (yt xU)) (ax (wpAny_mkInt (aG ⟨_,rfl,h⟩)))))))))⟩))))
theorem aau{Q:aa}(hd:(d==sysModules)=false)(ho:s.heap.get? d=some (dictOf aQ n))(xU:aQ.length<=1000000)
 (h:Q (.int aQ.length (s.toks+1)) {s with toks:=s.toks+1+1}):wpAny (model prog w) A (call (.builtin "len") [.ref d]) Q E s:=
 Jn kind_len plain_len entry_len (args_len1 _) (O6 hd ho xU h)
theorem FZ{α:Type}(l:List α):((l.length:Int)!=0)= !l.isEmpty:=by
 cases l with
 |nil=>rfl
 |cons a l=>exact lg.2 (Ke (Kc.2 (iA _)))
theorem aiD{Q:Bool->Shared->Prop}(hd:(d==sysModules)=false)(ho:s.heap.get? d=some (dictOf aQ n))(xU:aQ.length<=1000000)
 (h:Q ((aQ.length:Int)!=0) {s with toks:=s.toks+1+1}):wpAny (model prog w) A (truthy (.ref d)) Q E s:=
 have hT:s.TypeIs (.ref d) "dict":=⟨_,ho,rfl⟩
 ax (wpAny_callSpecial?_none (name:=Str.ofString "__bool__") hT noBool_dict (ax (y3 (name:=Str.ofString "__len__") hT JN.lookup
  (ax (Uo (qM entry_len (by
   rw [Around.under_plainId plain_len _]
   exact dK (O6 (Q:=λr s'=>∃i t,r= .int i t/\Q (i !=0) s') hd ho xU ⟨_,_,rfl,h⟩) (λfin s' z=>z.elim λr z=>z.1.symm▸z.2.elim λi z=>z.elim λt z=>z.1.symm▸aG z.2) λ_ _ e=>e)))))))
theorem aiE{M:Model}{K:Frag}{x:Addr}{ox:Obj}{C:Addr}{od:Option Obj}{Q:Bool->Shared->Prop}(X:K.In s.heap)(I:InstAt s.heap x ox C od)(hs:findIn K (.ref C) "__bool__"=some none)(hl:findIn K (.ref C) "__len__"=some none)
 (h:Q true s):wpAny M A (truthy (.ref x)) Q E s:=
 ax (m:=callSpecial? (.ref x) (Str.ofString "__bool__")) (ax (ax (I.type.here ((Pf X hs).here (aG
  (ax (m:=specialOf (.ref x) (Str.ofString "__len__")) (ax (I.type.here ((Pf X hl).here (aG h))))))))))
end
section
variable{B:Bk}{t:Bool}{k:Nat}{nm:ag}{env:Env}{loc:Loc}{h az:HA}{s s₁ s':Shared}{A:Around}{Q:Bool->H->Prop}{E:aa}{v:V}{x:Value}{l:L}{C:CN}{as:ac}{p:Prop}{b:Bool}{e:Expr}{es:List Expr}{pos:Pos}{m n:BW}
theorem mU.mono(S:Step c0 h s.heap az s₁.heap)(e:mU B az s₁ Q b s'):mU B h s Q b s':=by
 cases e with
 |mk h' b c d=>exact .mk h' b (S.trans c) d
theorem IE{m:Sem Bool}{cr:Shared}(S:Step c0 h s.heap az s₁.heap)(w:wpAny B.M A m (mU B az s₁ Q) E cr):wpAny B.M A m (mU B h s Q) E cr:=dK w (λ_ _ e=>e.mono S) λ_ _ e=>e
theorem aI.X(C:gB B)(R:aI B h s):B.K.In s.heap:=λa o e=>R.keep _ _ (C.bk.X a o e)
theorem aI.inst(R:aI B h s)(e:h.c l=some (.inst C as))(k:∀aQ n,InstAt s.heap (h.adr l) {cls:=.ref (B.cls C),dict:=some (h.gM l),data:=.plain,slots:=#[]} (B.cls C) (some (dictOf aQ n))->m0 h s.heap as aQ->p):p:=
 (R.objs _ _ e).elim λaQ r=>r.elim λn r=>k aQ n ⟨r.1,rfl,rfl,r.2.1⟩ r.2.2
theorem TB(xs:aq):(!xs.isEmpty)= !xs.toList.isEmpty:=by rw [Array.isEmpty_toList]
theorem FY{α β:Type}{l:List α}{m:List β}(e:l.length=m.length):(!l.isEmpty)= !m.isEmpty:=FZ l▸FZ m▸e▸rfl
theorem Ho(C:gB B)(R:aI B h s)(r:aP h s.heap v x)(q:vW v h.c λb=>Q b h.c):wpAny B.M A (truthy x) (mU B h s Q) E s:=by
 have done:∀{b:Bool} {n:Nat},Q b h.c->mU B h s Q b {s with toks:=n}:=λq=>.mk h (R.toks _) .refl q
 induction q with
 |none q=>exact r.none_ (aG (done q))
 |bool q=>exact r.Ak (aG (done q))
 |int q=>exact r.dG λ_=>PySem.P.truthy_int (done (n:=s.toks) q)
 |str l q=>exact r.eZ λ_=>PySem.P.truthy_str (yt l) (done q)
 |tup l q=>exact r.iP λa xs hx rx=>PyProof.Rows.truthy_tuple ⟨_,hx,rfl,_,rfl⟩ (tv (rx.size▸l)) (done ((TB xs).trans (FY rx.length.symm)▸q))
 |lst e l q=>exact r.cA λ_=>R.lst e λxs n hx rx=>wpAny_truthy_list ⟨_,hx,rfl,_,rfl⟩ (tv (rx.size▸l)) (done ((TB xs).trans (FY rx.length.symm)▸q))
 |aF e l q=>exact r.cA λ_=>R.aF e λaQ hx rx _ _=>aiD (R.mods _ _ _ e) hx (rx.length▸l) (done ((FZ aQ).trans (FY rx.length.symm)▸q))
 |item e q=>exact r.cA λ_=>R.inst e λ_ _ I _=>aiE (R.X C) I C.truth.1 C.truth.2 (done (n:=s.toks) q)
noncomputable abbrev BW:=Fm->H->(Bool->H->Prop)->Prop
noncomputable def gZ(B:Bk)(t:Bool)(k:Nat)(nm:ag)(e:Expr)(m:BW):Prop:=
 ∀env loc h s A (Q:Bool->H->Prop) (E:aa),At B t k nm env loc h s A->m (cj nm loc) h.c Q->wpAny B.M A (isTrue e env (eval e env)) (mU B h s Q) E s
theorem gZ.go(he:gZ B t k nm e m)(a:At B t k nm env loc h s A)(q:m (cj nm loc) h.c Q){P:Bool->Shared->Prop}
 (kk:∀b az s₁,aI B az s₁->Step c0 h s.heap az s₁.heap->At B t k nm env loc az s₁ A->Q b az.c->P b s₁):wpAny B.M A (isTrue e env (eval e env)) P E s:=
 dK (he env loc h s A Q E a q) (λx s₁ z=>by cases z with|mk az R S q=>exact kk x az s₁ R S (a.step R S) q) λ_ _ e=>e
theorem gZ.plain(C:gB B){m:EW}(he:aV B t k nm e m)(hp:∀env whole,isTrue e env whole=(do let v<-whole;standAt e.pos;holding [v] (truthy v))):
 gZ B t k nm e λloc h Q=>m loc h λv h'=>vW v h' λb=>Q b h':=λ_ _ _ _ _ _ _ a q=>
 isTrue_plain (he.go a q λ_ _ _ _ r br aR _ aX=>IE aR (Ho C br r aX)) (hp _ _)
theorem gZ.not{m:BW}(he:gZ B t k nm e m):gZ B t k nm (.UnaryOp .Not e pos) λloc h Q=>m loc h λb h'=>Q (!b) h':=λ_ _ _ _ _ _ _ a q=>
 isTrue_not (he.go a q λ_ az _ br aR _ aX=>.mk az br aR aX)
noncomputable def du(a b:BW):BW:=λloc h Q=>a loc h λx h'=>if x then b loc h' Q else Q false h'
noncomputable def lB(a b:BW):BW:=λloc h Q=>a loc h λx h'=>if x then Q true h' else b loc h' Q
noncomputable def lV(B:Bk)(t:Bool)(k:Nat)(nm:ag)(op:BoolOp)(es:List Expr)(m:BW):Prop:=
 ∀env loc h s A (Q:Bool->H->Prop) (E:aa),At B t k nm env loc h s A->m (cj nm loc) h.c Q->wpAny B.M A (allTrue op es env) (mU B h s Q) E s
theorem lV.aev:lV B t k nm .And [] λ_ h Q=>Q true h:=λ_ _ h _ _ _ _ a q=>aG (.mk h a.R .refl q)
theorem lV.aew:lV B t k nm .Or [] λ_ h Q=>Q false h:=λ_ _ h _ _ _ _ a q=>aG (.mk h a.R .refl q)
theorem lV.and(he:gZ B t k nm e m)(dY:lV B t k nm .And es n):lV B t k nm .And (e::es) (du m n):=λenv loc h s A Q E a q=>by
 refine arm_allTrue_cons ..▸ax (he.go a q λb az s₁ br aR bG aX=>?_)
 cases b
 ·exact aG (.mk az br aR aX)
 ·exact IE aR (dY env loc az s₁ A Q E bG aX)
theorem lV.or(he:gZ B t k nm e m)(dY:lV B t k nm .Or es n):lV B t k nm .Or (e::es) (lB m n):=λenv loc h s A Q E a q=>by
 refine arm_allTrue_cons ..▸ax (he.go a q λb az s₁ br aR bG aX=>?_)
 cases b
 ·exact IE aR (dY env loc az s₁ A Q E bG aX)
 ·exact aG (.mk az br aR aX)
theorem gZ.boolOp{op:BoolOp}(h:lV B t k nm op es m):gZ B t k nm (.BoolOp op es pos) m:=λenv loc h' s A Q E a q=>wpAny_isTrue_BoolOp (h env loc h' s A Q E a q)
section
variable{l r:Expr}{op:CmpOp}{ml mr:EW}{f:V->V->H->(ab)->Prop}
theorem MP(hl:aV B t k nm l ml)(hr:aV B t k nm r mr)(ho:fb B t k (compareOp op) f){Q:ab}(a:At B t k nm env loc h s A)(q:ml (cj nm loc) h.c λa az=>mr (cj nm loc) az λb aU=>f a b aU Q):
 wpAny B.M A (eval l env) (λx s₁=>wpAny B.M A (eval r env) (λy cr=>wpAny B.M A (compareOp op x y) (EPost B h s Q) E cr) E s₁) E s:=
 hl.go a q λu _ x _ ru br aR bG aX=>hr.go bG aX λv aU y cr rv dd be _ ck=>jE (aR.trans be) (ho A aU cr Q E u v x y dd a.T (ru.step br be) rv ck)
theorem aV.compare(hl:aV B t k nm l ml)(hr:aV B t k nm r mr)(ho:fb B t k (compareOp op) f)(hm:behindInMarks op r=false):
 aV B t k nm (.Compare l [op] [r] pos) λloc h Q=>ml loc h λa az=>mr loc az λb aU=>f a b aU Q:=λ_ _ _ _ _ _ _ a q=>wpAny_Compare1 (MP hl hr ho a q) hm
theorem gZ.compare(hl:aV B t k nm l ml)(hr:aV B t k nm r mr)(ho:fb B t k (compareOp op) f)(hm:behindInMarks op r=false):
 gZ B t k nm (.Compare l [op] [r] pos) λloc h Q=>ml loc h λa az=>mr loc az λb aU=>f a b aU λv c6=>∃c,v= .bool c/\Q c c6:=λ_ _ _ _ _ Q E a q=>
 wpAny_isTrue_Compare1 (dK (MP hl hr ho (Q:=λv c6=>∃c,v= .bool c/\Q c c6) a q) (λx s₁ w=>dK w (λy cr w=>dK w (λz fL e=>by
  cases e with
  |mk v c6 rv qF eN q=>exact q.elim λc q=>(q.1▸rv:aP c6 fL.heap (.bool c) z).Ak (ID (.mk c6 qF eN q.2))) λ_ _ e=>e) λ_ _ e=>e) λ_ _ e=>e) hm
end
theorem aV.ZK{c a b:Expr}{mc:BW}{ma mb:EW}(hc:gZ B t k nm c mc)(ha:aV B t k nm a ma)(hb:aV B t k nm b mb):
 aV B t k nm (.IfExp c a b pos) λloc h Q=>mc loc h λx h'=>if x then ma loc h' Q else mb loc h' Q:=λenv loc h s A Q E a q=>by
 refine wpAny_IfExp (hc.go a q λx az s₁ br aR bG aX=>?_)
 cases x
 ·exact jE aR (hb env loc az s₁ A Q E bG aX)
 ·exact jE aR (ha env loc az s₁ A Q E bG aX)
noncomputable def oK(v:V):Bool:=v.rec (motive_2:=λ_=>Bool) true (λ_=>false) (λ_=>false) (λ_=>false) (λ_ _=>false) (λ_=>false) false λ_ _ _ _=>false
inductive Kh(f:Bool->Bool)(h:H)(Q:ab)(v:V):V->Prop
 |mk:Q (.bool (f (oK v))) h->Kh f h Q v .none
noncomputable abbrev x7(f:Bool->Bool)(v u:V)(h:H)(Q:ab):Prop:=Kh f h Q v u
theorem aP.oK{g:Heap}(r:aP h g v x):(oK v=true->x= .none)/\(oK v=false->x≠.none/\PySem.plainIs x Value.none=true):=by
 cases v with
 |none=>exact⟨λ_=>r,nofun⟩
 |bool b=>exact r.Ak ⟨nofun,λ_=>⟨Value.noConfusion,rfl⟩⟩
 |int i=>exact r.dG λ_=>⟨nofun,λ_=>⟨Value.noConfusion,rfl⟩⟩
 |str i=>exact r.eZ λ_=>⟨nofun,λ_=>⟨Value.noConfusion,rfl⟩⟩
 |tup vs=>exact r.iP λ_ _ _ _=>⟨nofun,λ_=>⟨Value.noConfusion,rfl⟩⟩
 |ref l=>exact r.cA λ_=>⟨nofun,λ_=>⟨Value.noConfusion,rfl⟩⟩
theorem R6{op:CmpOp}(f:Bool->Bool)(w1:∀{A s},Gives B A s (compareOp op .none .none) (.bool (f true)))(w2:∀{A s x},PySem.plainIs x Value.none=true->x≠.none->Gives B A s (compareOp op x .none) (.bool (f false))):fb B t k (compareOp op) (x7 f):=λA h s Q E a b x y R T ra rb q=>by
 induction q with
 |mk q=>
  refine rb.none_ ?_
  cases z:Mine.oK a with
  |true=>exact(ra.oK.1 z).symm▸w1 (.iQ (v:=.bool _) R rfl (z▸q))
  |false=>exact w2 (ra.oK.2 z).2 (ra.oK.2 z).1 (.iQ (v:=.bool _) R rfl (z▸q))
theorem afc:fb B t k (compareOp .Is) (x7 id):=R6 id (wpAny_is_self rfl) λp n=>wpAny_is_other p n
theorem afd:fb B t k (compareOp .IsNot) (x7 not):=R6 not (wpAny_isNot_self rfl) λp n=>wpAny_isNot_other p n
end
section
noncomputable abbrev fZ:=Fm->H->(aj->H->Prop)->Prop
variable{B:Bk}{t:Bool}{k:Nat}{nm:ag}{env:Env}{loc:Loc}{h:HA}{s:Shared}{A:Around}{E:aa}{e:Expr}{es:List Expr}{m:EW}{ms:fZ}{f v:Value}{pos:Pos}{x:Str}
inductive JG(B:Bk)(h:HA)(s:Shared)(Q:aj->H->Prop)(xs:ao)(s':Shared):Prop
 |mk(vs:aj)(h':HA):aY h' s'.heap vs xs->aI B h' s'->Step c0 h s.heap h' s'.heap->Q vs h'.c->JG B h s Q xs s'
noncomputable def gI(B:Bk)(t:Bool)(k:Nat)(nm:ag)(es:List Expr)(m:fZ):Prop:=
 ∀env loc h s A (Q:aj->H->Prop) (E:aa),At B t k nm env loc h s A->m (cj nm loc) h.c Q->wpAny B.M A (spliced (es.map λe=>(false,eval e env))) (JG B h s Q) E s
theorem gI.go(he:gI B t k nm es ms){Q:aj->H->Prop}(a:At B t k nm env loc h s A)(q:ms (cj nm loc) h.c Q){P:ao->Shared->Prop}
 (kk:∀vs az xs s₁,aY az s₁.heap vs xs->aI B az s₁->Step c0 h s.heap az s₁.heap->At B t k nm env loc az s₁ A->Q vs az.c->P xs s₁):wpAny B.M A (spliced (es.map λe=>(false,eval e env))) P E s:=
 dK (he env loc h s A Q E a q) (λx s₁ z=>by cases z with|mk v az r R S q=>exact kk v az x s₁ r R S (a.step R S) q) λ_ _ e=>e
theorem gI.nil:gI B t k nm [] λ_ h Q=>Q [] h:=λ_ _ h _ _ _ _ a q=>Calls.spliced_nil (.mk [] h rfl a.R .refl q)
theorem gI.cons(he:aV B t k nm e m)(dY:gI B t k nm es ms):gI B t k nm (e::es) λloc h Q=>m loc h λv az=>ms loc az λvs aU=>Q (v::vs) aU:=λ_ _ _ _ _ _ _ a q=>
 Jo (he.go a q λv _ _ _ r br aR bG aX=>dY.go bG aX λvs aU _ _ rs dd be _ ck=>.mk (v::vs) aU (.cons (r.step br be) rs) dd (aR.trans be) ck)
noncomputable abbrev ng(es:List Expr):Prop:=∀env,starEach es env=es.map λe=>(false,eval e env)
theorem uU(hs:ng es):backTo pos (starEach es env)=es.map λe=>(false,eval e env):=(au (backTo pos) (hs env)).trans gj
noncomputable def jf(B:Bk)(f:Value):Prop:=∀h,B.K.In h->∃k,(k=Keeper.frame\/k=Keeper.machine\/k=Keeper.boundFrame)/\Looks B.M h (keeperOf f) k
theorem jf.builtin{id:String}:jf B (.builtin id):=λ_ _=>⟨.machine,.inr (.inl rfl),.now⟩
theorem jf.type{T:String}:jf B (.type T):=λ_ _=>⟨.machine,.inr (.inl rfl),.now⟩
theorem jf.ref(h:keepIn B.K f=true):jf B f:=λg X=>keeps_K h g X
theorem Ny{M:Model}{Q:Args->Shared->Prop}(h:wpAny M A (spliced (es.map λe=>(false,eval e env))) (λvs s'=>Q ⟨vs,[]⟩ s') E s):wpAny M A (evalArgs f true (es.map λe=>(false,eval e env)) []) Q E s:=by
 cases es with
 |nil=>exact λΓ p OC=>PyProof.Rows.evalArgs_none (Q:=Q) (h Γ p OC) Γ p OC
 |cons e es=>exact Calls.evalArgs_plain h
noncomputable def dp(B:Bk)(t:Bool)(k:Nat)(f:Value)(Fw:aj->H->(ab)->Prop):Prop:=
 ∀A h s (Q:ab) (E:aa) vs xs,aI B h s->fM B t k A->aY h s.heap vs xs->Fw vs h.c Q->wpAny B.M A (call f xs) (EPost B h s Q) E s
variable{Fw:aj->H->(ab)->Prop}
theorem xm(C:gB B){first:ao}{fv:aj}(hk:jf B f)(hs:ng es)(dY:gI B t k nm es ms)(hc:dp B t k f Fw){Q:ab}(a:At B t k nm env loc h s A)(rf:aY h s.heap fv first)
 (q:ms (cj nm loc) h.c λvs az=>Fw (fv++vs) az Q):wpAny B.M A (callWith pos f first (backTo pos (starEach es env)) []) (EPost B h s Q) E s:=
 uU hs▸callWith_of (P:=λg=>B.K.In g) (Jm _▸List.any_eq_false.mpr λ_ m=>(bg.1 m).elim λ_ z=>z.2▸jd) hk (Ny (dY.go a q λvs az xs s₁ rs br aR _ aX=>⟨br.X C,jE aR (hc A az s₁ Q E _ _ br a.T ((rf.bM (aR.tN a.R)).append rs) aX)⟩))
theorem Pc(C:gB B){Q:aa}(S:iC env nm)(R:aI B h s)(hx:nm.lookup x=some .globalImplicit)(hg:B.mg x=some v)(hd:(x==("__debug__":Str))=false)(q:Q v s):
 wpAny B.M A (eval (.Name x pos) env) Q E s:=
 U4 S.kind (S.gl x hx) (Calls.loadGlobal_global (S.glob▸C.bk.g.keeps R.keep) hg q) hd
theorem yg(C:gB B){Q:aa}(S:iC env nm)(R:aI B h s)(hx:nm.lookup x=some .globalImplicit)(hg:B.mg x=none)(hb:bootBuiltins x=some v)(hn:x≠"__name__")(hd:(x==("__debug__":Str))=false)(q:Q v s):
 wpAny B.M A (eval (.Name x pos) env) Q E s:=
 U4 S.kind (S.gl x hx) (Calls.loadGlobal_builtin (S.glob▸C.bk.g.keeps R.keep) hg (S.blt▸C.bk.b.keeps R.keep) ((C.bk.builtins x hn).trans hb) q) hd
theorem aV.WL(C:gB B){p:Pos}(hx:nm.lookup x=some .globalImplicit)(hg:B.mg x=some f)(hk:jf B f)(dY:gI B t k nm es ms)(hc:dp B t k f Fw)(hs:ng es)(hd:(x==("__debug__":Str))=false):
 aV B t k nm (.Call (.Name x p) es [] pos) λloc h Q=>ms loc h λvs az=>Fw vs az Q:=λ_ _ _ _ _ _ _ a q=>Call_ (Pc C a.S a.R hx hg hd (xm C hk hs dY hc a (fv:=[]) rfl q))
theorem aV.WK(C:gB B){p:Pos}(hx:nm.lookup x=some .globalImplicit)(hg:B.mg x=none)(hb:bootBuiltins x=some f)(hk:jf B f)(dY:gI B t k nm es ms)(hc:dp B t k f Fw)(hs:ng es)(hn:x≠"__name__")(hd:(x==("__debug__":Str))=false):
 aV B t k nm (.Call (.Name x p) es [] pos) λloc h Q=>ms loc h λvs az=>Fw vs az Q:=λ_ _ _ _ _ _ _ a q=>Call_ (yg C a.S a.R hx hg hb hn hd (xm C hk hs dY hc a (fv:=[]) rfl q))
theorem aV.list(dY:gI B t k nm es ms)(hs:ng es):aV B t k nm (.List es pos) λloc h Q=>ms loc h λvs az=>vs.length<=1000000/\dJ (.lst vs) az Q:=λ_ _ _ _ _ _ _ a q=>
 List_ (uU hs▸dY.go a q λvs az xs s₁ rs br aR _ aX=>jX ((EPost.lst br rs aX.2).mono aR) (rs.length▸iM aX.1:xs.length<=sizeLine))
theorem aV.tuple{c:Nat}(dY:gI B t k nm es ms)(hs:ng es):aV B t k nm (.Tuple es c pos) λloc h Q=>ms loc h λvs az=>vs.length<=1000000/\Q (.tup vs) az:=λ_ _ _ _ _ _ _ a q=>
 Tuple_ (uU hs▸dY.go a q λvs az xs s₁ rs br aR _ aX=>jX ((EPost.tup br rs aX.2).mono aR) (rs.length▸iM aX.1:xs.length<=sizeLine))
end
section
variable{x y:Str}{hs:Int}{v k:Value}{es:List DictEntry}{tk:Tok}{h:HA}{g:Heap}{as:ac}{w:V}
theorem AN:(Value.str x tk).isStr y=true↔x=y:=⟨λe=>(cU e:x=y),λe=>e▸iF x⟩
theorem af8{e:DictEntry}(z:e.key.isStr x=true):putL x hs k v (e::es)=⟨e.hash,e.key,v⟩::es:=bz z
theorem af7{e:DictEntry}(z:¬e.key.isStr x=true):putL x hs k v (e::es)=e::putL x hs k v es:=bD z
theorem yD{p:DictEntry->List DictEntry->List DictEntry->Prop}(a:∀e es,e.key.isStr x=true->p e es (⟨e.hash,e.key,v⟩::es))(b:∀e es,¬e.key.isStr x=true->p e es (e::putL x hs k v es))(e:DictEntry)(es:List DictEntry):p e es (putL x hs k v (e::es)):=
 (aN (e.key.isStr x=true)).elim (λz=>(af8 z).symm▸a e es z) λz=>(af7 z).symm▸b e es z
theorem ND{e:DictEntry}(z:e.key.isStr y=true):(e::es).find? (·.key.isStr y)=some e:=List.find?_cons_of_pos (p:=λe:DictEntry=>e.key.isStr y) z
theorem xF{e:DictEntry}(z:¬e.key.isStr y=true):(e::es).find? (·.key.isStr y)=es.find? (·.key.isStr y):=List.find?_cons_of_neg (p:=λe:DictEntry=>e.key.isStr y) z
theorem Yg:∃e,(putL x hs (.str x tk) v es).find? (·.key.isStr x)=some e/\e.val=v:=by
 induction es with
 |nil=>exact⟨_,ND (AN.mpr rfl),rfl⟩
 |cons e es ih=>exact yD (p:=λe cG l=>cG=es->∃e,l.find? (·.key.isStr x)=some e/\e.val=v) (λe es z _=>⟨_,ND z,rfl⟩) (λe cG z q=>(xF z).symm▸q▸ih) e es rfl
theorem NC(n:x≠y):(putL x hs (.str x tk) v es).find? (·.key.isStr y)=es.find? (·.key.isStr y):=by
 induction es with
 |nil=>exact xF λz=>n (AN.mp z)
 |cons e es ih=>
  exact yD (p:=λe cG l=>cG=es->l.find? (·.key.isStr y)=(e::cG).find? (·.key.isStr y)) (λe es z _=>(xF (e:=⟨e.hash,e.key,v⟩) λw=>n (Value.isStr_inj _ _ _ z w)).trans (xF λw=>n (Value.isStr_inj _ _ _ z w)).symm)
   (λe cG z q=>q▸(au (λo=>match e.key.isStr y with|true=>some e|false=>o) ih:_)) e es rfl
theorem agj:(putL x hs (.str x tk) v es).any (·.refKey)=es.any (·.refKey):=by
 induction es with
 |nil=>rfl
 |cons e es ih=>exact yD (p:=λe cG l=>cG=es->l.any (·.refKey)=(e::cG).any (·.refKey)) (λe es _ _=>rfl) (λe cG _ q=>q▸au (e.refKey||·) ih) e es rfl
theorem Sq:(putL x hs k v es).length<=es.length+1:=by
 induction es with
 |nil=>exact cB _
 |cons e es ih=>exact yD (p:=λe cG l=>cG=es->l.length<=(e::cG).length+1) (λe es _ _=>jj _) (λe cG _ q=>q▸cS ih) e es rfl
theorem af5{e:DictEntry}(f:es.find? (·.key.isStr x)=some e):(putL x hs k v es).length=es.length:=by
 induction es with
 |nil=>cases f
 |cons e es ih=>exact yD (p:=λe cG l=>(e::cG).find? (·.key.isStr x)=some _->cG=es->l.length=(e::cG).length) (λe es _ _ _=>rfl) (λe cG z f q=>q▸au (·+1) (ih (q▸(xF z).symm.trans f))) e es f rfl
theorem Ye{α:Type}{p q:α->Bool}(h:∀x,p x=true->q x=true){n:α}{l:List α}(hn:n∈l)(hp:p n=false)(hq:q n=true):(l.filter p).length<(l.filter q).length:=by
 have e:l.filter p=(l.filter q).filter p:=List.filter_filter.symm▸List.filter_congr λx _=>by
  cases z:p x with
  |false=>rfl
  |true=>exact(h x z).symm
 exact e▸List.length_filter_lt_length_iff_exists.mpr ⟨n,fC.2 ⟨hn,hq⟩,λz=>jd (hp.symm.trans z)⟩
theorem le_filter{α:Type}{p q:α->Bool}{l:List α}(h:∀x,p x=true->q x=true):(l.filter p).length<=(l.filter q).length:=Vn (p:=p)▸Vn (p:=q)▸List.countP_mono_left λx _=>h x
noncomputable def bT(as:ac)(n:Str)(v:V):ac:=λx=>if x=n then some v else as x
theorem kA:bT as x w x=some w:=bz rfl
theorem i4(n:y≠x):bT as x w y=as y:=bD n
theorem Mi(z:(as y).isSome=true):(bT as x w y).isSome=true:=(aN (y=x)).elim (λe=>e▸kA (as:=as)▸rfl) λe=>i4 e▸z
theorem m0.put(a:m0 h g as es)(hn:x∈lY)(r:aP h g w v):m0 h g (bT as x w) (putL x hs (.str x tk) v es):=by
 refine⟨λy e=>?_,λy u e=>?_,agj.trans a.ref,?_⟩
 ·have n:y≠x:=λz=>cK kA (z▸e)
  exact(NC n.symm).trans (a.no y ((i4 n).symm.trans e))
 ·refine(aN (y=x)).elim (λz=>?_) λn=>?_
  ·cases z
   cases kA.symm.trans e
   obtain⟨e,f,z⟩:=Yg (x:=x) (hs:=hs) (v:=v) (es:=es) (tk:=tk)
   exact⟨e,f,z.symm▸r⟩
  ·exact(NC (uF n)).symm▸a.yes y u ((i4 n).symm.trans e)
 ·cases z:as x with
  |none=>exact aw Sq (aw (cS a.len) (Ye (λ_=>Mi) hn (z▸rfl) (kA (as:=as)▸rfl)))
  |some u=>
   obtain⟨e,f,_⟩:=a.yes x u z
   exact af5 f▸aw a.len (le_filter λ_=>Mi)
theorem YR{e:DictEntry}(f:es.find? (·.key.isStr x)=some e):getL x es=some (some e.val):=by unfold PySem.W.getL;rw [f]
theorem N0(a:m0 h g as es)(e:as x=none):getL x es=some none:=by unfold PySem.W.getL;rw [a.no x e,a.ref];rfl
end
section
variable{prog:Program}{w:World}{A:Around}{s:Shared}{K:Frag}{x dx C:Addr}{es:List DictEntry}{n:Nat}{name:Str}{v:Value}
theorem E9{g:Heap}{hs:Int}{k:Value}(Fh:g.get? dx=some (dictOf es n)):(g.update dx (Obj.putName name hs k v)).get? dx=some (dictOf (putL name hs k v es) (putN name es n)):=
 putName_dict ..▸qv _ Fh (putName_dict ..▸rfl)
theorem afo{R:Result->Shared->Prop}{tk:Tok}(X:K.In s.heap)(I:InstAt s.heap x {cls:=.ref C,dict:=some dx,data:=.plain,slots:=#[]} C (some (dictOf es n)))(hk:es.any (·.refKey)=false)
 (hp:plainOver K C=true)(ht:takerIn K C name=some none)(hh:hasDictIn K C=true)(hz:es.length<=100)
 (h:R (.ok (.ret .none)) {s with heap:=s.heap.update dx (Obj.putName name (PyData.keyHash w.params name) (.str name s.toks) v),toks:=s.toks+1}):
 codeAny (model prog w) A (.call (.builtin "object.__setattr__") ⟨[.ref x,.str name tk,v],[]⟩) R s:=by
 have c:(!es.toArray.any (·.key.isStr name)&&es.toArray.any (·.refKey))=false:=by
  rw [<-Array.any_toList (p:=λe=>DictEntry.refKey e),List.toList_toArray,hk,Bool.and_false]
 have D':=E9 (name:=name) (hs:=PyData.keyHash w.params name) (k:=.str name s.toks) (v:=v) I.4
 have L:=pastItsLine_dict (es:=(putL name (PyData.keyHash w.params name) (.str name s.toks) v es).toArray) (n:=putN name es n) (aw Sq (aw (cS hz) (by decide)))
 refine(any_some hh).elim λcd z=>osa_open X I hp ht λb=>?_
 refine ax (aG (ax (ax (wpAny_loadPart I.1 (ax ((looks_clsIn X z.1).here ?_))))))
 rw [z.2]
 refine aG (a:=some dx) (ax (aG (ax (ax (m:=strHash name) (ax (Cc (aG (ax (wpAny_mkText (ax (wpAny_loadPart I.4 ?_)))))))))))
 dsimp only
 rw [aRefKeyMayBeTheName_at,c]
 exact wpAny_updatePart I.4 (ax (wpAny_lookBehind D' L (aG h)))
end
noncomputable def HA.turn(h:HA)(l:L)(o:O):HA:=⟨h.c.upd l o,h.adr,h.gM⟩
section
variable{B:Bk}{t:Bool}{k:Nat}{nm:ag}{h:HA}{s s':Shared}{l x:L}{o o':O}{a:Addr}{b:Bool}{n:Str}{A:Around}{E:aa}{v w:V}{y z:Value}{C:CN}{as:ac}
theorem O.OH(e:Nat.beq o.tag 5=true):∃C as,o= .inst C as:=by
 cases o<;>first|exact⟨_,_,rfl⟩|cases e
theorem HA.ae2(e:h.c l=some o):h.on l (Nat.beq o.tag 5):=by
 cases z:Nat.beq o.tag 5 with
 |false=>exact dj e
 |true=>exact(O.OH z).imp λ_ z=>z.imp λ_ z=>e.trans (au some z)
theorem HA.TK(x:L)(n:h.c x≠none):(h.turn l o).c x≠none/\(h.turn l o).adr x=h.adr x:=⟨H.TQ n,rfl⟩
theorem HA.B1(e:h.c l=some o)(ht:o'.tag=o.tag)(z:(h.turn l o').on x b):h.on x b:=by
 refine(aN (x=l)).elim (λn=>?_) λn=>?_
 ·cases n
  cases b with
  |false=>exact dj e
  |true=>exact z.elim λC z=>z.elim λas z=>(O.OH (o:=o) ((au (Nat.beq · 5) ht).symm.trans (au (λo:O=>Nat.beq o.tag 5) (bc (H.aJ.symm.trans z))))).imp λ_ z=>z.imp λ_ z=>e.trans (au some z)
 ·cases b with
  |false=>exact λw=>z ((H.bp n).trans w)
  |true=>exact z.imp λ_ z=>z.imp λ_ z=>(H.bp n).symm.trans z
theorem aI.turn(R:aI B h s)(e:h.c l=some o)(ha:h.pl l (Nat.beq o.tag 5)=a)(ht:o'.tag=o.tag)(nr:Nat.beq o.tag 1=false)
 (same:∀b,b≠a->s'.heap.get? b=s.heap.get? b)(rep:dH h s.heap (h.turn l o') s'.heap->oh B.w.params B.cls B.av (h.turn l o') s'.heap l o')(al:s'.heap.get? a≠none)(ho:s'.os=s.os)(hg:s'.gens=s.gens):
 aI B (h.turn l o') s'/\Step c0 h s.heap (h.turn l o') s'.heap:=by
 have ol:=HA.ae2 e
 have RG:∀{vs},h.c l≠some (.ro vs):=λz=>Bool.noConfusion (nr.symm.trans (au (λo:O=>Nat.beq o.tag 1) (bc (e.symm.trans z))))
 have hb:B.av.get? a=none:=ha▸(R.fresh l _ ol).resolve_right λz=>z.elim λvs z=>RG z
 have ua:h.used a:=⟨l,_,ol,ha⟩
 have ne:∀{x b},x≠l->h.on x b->h.pl x b≠a:=λn z w=>n (R.inj _ _ l _ z ol (w.trans ha.symm)).1
 have st:dH h s.heap (h.turn l o') s'.heap:=⟨λb xs t=>(same b λz=>R.qW (z▸t) ua).trans t,HA.TK⟩
 have un:∀b,(h.turn l o').used b->h.used b:=λb u=>u.imp λx u=>u.imp λc u=>⟨HA.B1 e ht u.1,u.2⟩
 have old:∀{x:L} {y:O},x≠l->(h.turn l o').c x=some y->h.c x=some y:=λn q=>(H.bp n).symm.trans q
 refine⟨⟨λb x q=>(same b λz=>cK q (z▸hb)).trans (R.keep b x q),λx y q=>?_,λx b z=>?_,λx es n q=>?_,λx b y c z w=>R.inj x b y c (HA.B1 e ht z) (HA.B1 e ht w),TA R.ay,ho.trans R.os,hg.trans R.gens,λL hL=>?_⟩,
  λb x q z _=>⟨x,(same b λw=>z (w▸ua)).trans q,.same⟩,HA.TK,λb n u=>absurd (un b u) n,λb q=>(aN (b=a)).elim (λz=>z▸al) λz=>same b z▸q⟩
 ·refine(aN (x=l)).elim (λn=>?_) λn=>?_
  ·cases n
   exact bc (H.aJ.symm.trans q)▸rep st
  ·have q:=old n q
   exact(R.objs x y q).same st (dj q) (same _ (ne (b:=false) n (dj q))) λC as z=>⟨rfl,same _ (ne (b:=true) n ⟨C,as,z▸q⟩)⟩
 ·exact(R.fresh x b (HA.B1 e ht z)).imp id λw=>w.imp λvs w=>(H.bp λq=>RG (q▸w)).trans w
 ·refine(aN (x=l)).elim (λz=>?_) λz=>R.mods x es n (old z q)
  subst z
  have ht:2=o.tag:=(au O.tag (bc (q.symm.trans H.aJ))).trans ht
  cases o with
  |aF es n=>exact R.mods _ es n e
  |_=>cases ht
 ·exact⟨(R.cW L hL).1,λu=>(R.cW L hL).2.1 (un L u),(R.cW L hL).2.2.imp λ_ z=>z.imp λ_ z=>z.imp λ_ z=>⟨(same L λq=>(R.cW L hL).2.1 (q▸ua)).trans z.1,z.2⟩⟩
structure U1(K:Frag)(c:Addr)(n:Str):Prop where
 get:plainGet K c n=true
 dict:hasDictIn K c=true
 find:∃attr,findIn K (.ref c) n=some attr/\noGet K attr=true
 over:plainOver K c=true
 aid:takerIn K c n=some none
 set:findIn K (.ref c) "__setattr__"=some (some (.builtin "object.__setattr__"))
noncomputable def Aa(K:Frag)(c:Addr)(n:Str):Bool:=plainGet K c n&&hasDictIn K c&&(match findIn K (.ref c) n with|some a=>noGet K a|none=>false)&&plainOver K c&&takerIn K c n==some none&&
 findIn K (.ref c) "__setattr__"==some (some (.builtin "object.__setattr__"))
theorem El{K:Frag}{c:Addr}(ok:Aa K c n=true):U1 K c n:=by
 simp only [Aa,Bool.and_eq_true] at ok
 refine⟨ok.1.1.1.1.1,ok.1.1.1.1.2,?_,ok.1.1.2,i6.1 ok.1.2,i6.1 ok.2⟩
 have h:=ok.1.1.1.2
 cases z:findIn K (.ref c) n with
 |none=>rw [z] at h;cases h
 |some a=>rw [z] at h;exact⟨a,rfl,h⟩
structure lL(B:Bk):Prop where
 C:gB B
 ok:∀c,∀n∈lY,Aa B.K (B.cls c) n=true
 cls:∀n:Str,n="reduced"\/n="lr0_added"->∃tk,findIn B.K (.ref (B.cls .dg)) n=some (some (.int 0 tk))
inductive Cn(n:Str)(h:H)(Q:ab):V->Prop
 |own{a:L}{C:CN}{as:ac}{x:V}:h a=some (.inst C as)->as n=some x->Q x h->Cn n h Q (.ref a)
 |cls{a:L}{as:ac}:h a=some (.inst .dg as)->as n=none->n="reduced"\/n="lr0_added"->Q (.int 0) h->Cn n h Q (.ref a)
noncomputable abbrev uP(n:Str)(v:V)(h:H)(Q:ab):Prop:=Cn n h Q v
theorem Y9{g:Heap}(r:aP h g v y):handedIn y=true:=by
 cases v with
 |none=>exact r.none_ rfl
 |bool b=>exact r.Ak rfl
 |int i=>exact r.dG λ_=>rfl
 |str i=>exact r.eZ λ_=>rfl
 |tup vs=>exact r.iP λ_ _ _ _=>rfl
 |ref a=>exact r.cA λ_=>rfl
theorem RX(X:lL B)(hn:n∈lY){Q:ab}(R:aI B h s)(r:aP h s.heap v y)(q:uP n v h.c Q):wpAny B.M A (getAttr y n true) (EPost B h s Q) E s:=by
 induction q with
 | @own a C as x e ea q=>
  have ok:=El (X.ok C n hn)
  exact r.cA λ_=>R.inst e λaQ m I ir=>(ir.yes n _ ea).elim λen z=>ok.find.elim λattr xP=>
   get_value (R.X X.C) I (Hw ok.get).1 (findObj_own ok.dict xP.1 xP.2 (YR z.1)) (Y9 z.2) (.val R z.2 q)
 |cls e ea hc q=>
  have ok:=El (X.ok .dg n hn)
  refine r.cA λ_=>R.inst e λaQ m I ir=>(X.cls n hc).elim λtk hf=>ok.find.elim λattr xP=>?_
  refine get_value (R.X X.C) I (Hw ok.get).1 (findObj_cls ok.dict hf ?_ rfl (hc.elim (λz=>z▸by decide) λz=>z▸by decide) (N0 ir ea)) rfl (.val (v:=.int 0) R ⟨_,rfl⟩ q)
  have z:=xP.2
  rw [<-Option.some.inj (hf.symm.trans xP.1)] at z
  exact i6.1 z
inductive DM(n:Str)(w:V)(h:H)(Q:H->Prop):V->Prop
 |mk{a:L}{C:CN}{as:ac}:h a=some (.inst C as)->Q (h.upd a (.inst C (bT as n w)))->DM n w h Q (.ref a)
noncomputable abbrev yL(n:Str)(v w:V)(h:H)(Q:H->Prop):Prop:=DM n w h Q v
inductive pN(B:Bk)(h:HA)(s:Shared)(Q:H->Prop)(u:Unit)(s':Shared):Prop
 |mk(h':HA):aI B h' s'->Step c0 h s.heap h' s'.heap->Q h'.c->pN B h s Q u s'
theorem R7(X:lL B)(hn:n∈lY){Q:H->Prop}(R:aI B h s)(r:aP h s.heap v y)(mL:aP h s.heap w z)(q:yL n v w h.c Q):wpAny B.M A (setAttr y n z) (pN B h s Q) E s:=by
 induction q with
 | @mk a C as e q=>
  have ok:=El (X.ok C n hn)
  refine r.cA λ_=>R.inst e λaQ m I ir=>set_plain (w:=B.w) (prog:=B.prog) (R.X X.C) I ok.set (afo (s:={s with toks:=s.toks+1}) ((R.toks (s.toks+1)).X X.C) I ir.ref ok.over ok.aid ok.dict ir.short ?_)
  have T:=R.turn (s':={s with heap:=s.heap.update (h.gM a) (Obj.putName n (PyData.keyHash B.w.params n) (.str n (s.toks+1)) z),toks:=s.toks+2}) (o':=.inst C (bT as n w)) e rfl rfl rfl (λb hb=>rS _ _ _ _ hb)
   (λst=>⟨_,_,(rS _ _ _ _ λq=>Bool.noConfusion (R.inj a false a true (dj e) ⟨C,as,e⟩ q).2).trans I.1,E9 I.4,(ir.bM st).put hn (mL.bM st)⟩) (dj (E9 I.4)) rfl rfl
  exact .mk _ T.1 T.2 q
theorem aV.attr(X:lL B){e:Expr}{pos:Pos}{m:EW}(he:aV B t k nm e m)(hn:n∈lY)(hp:∀env,eval (.Attribute e n pos) env=(do
 let o<-eval e env
 standAt pos.atName
 let r<-holding [o] (getAttr o n true)
 letTemporaryGo e o r
 pure r)):aV B t k nm (.Attribute e n pos) λloc h Q=>m loc h λv az=>uP n v az Q:=λenv _ _ _ _ _ _ a q=>
 Attribute_any_ (he.go a q λ_ _ _ _ r br aR _ aX=>jE aR (RX X hn br r aX)) (hp env)
end
section
variable{B:Bk}{t:Bool}{k:Nat}{nm:ag}{h:HA}{s:Shared}{v:V}{x:Value}{T id:String}{a:Addr}{l:L}{vs vs' us:aj}{g:Heap}
noncomputable abbrev zN(o:Expr)(name:Str)(apos:Pos)(es:List Expr)(pos:Pos)(pl:Env->Sem Bool):Prop:=∀env,eval (.Call (.Attribute o name apos) es [] pos) env=(do
 let ov<-eval o env
 standAt apos.atName
 let(f,first)<-holding [ov] (getMethod ov name (pl env))
 callWith pos f first (backTo pos (starEach es env)) [])
section
variable{o:Expr}{name:Str}{apos pos:Pos}{es:List Expr}{pl:Env->Sem Bool}{mo:EW}{ms:fZ}{Fw:aj->H->(ab)->Prop}
inductive zW(C:CN)(name:Str)(h:H):V->Prop
 |mk{a:L}{as:ac}:h a=some (.inst C as)->as name=none->zW C name h (.ref a)
theorem aV.aep(X:lL B){C:CN}{f:Addr}(ho:aV B t k nm o mo)(dY:gI B t k nm es ms)
 (hg:plainGet B.K (B.cls C) name=true)(hf:findIn B.K (.ref (B.cls C)) name=some (some (.ref f)))(ht:isFn B.K (.ref f)=true)(hk:keepIn B.K (.ref f)=true)(hc:dp B t k (.ref f) Fw)
 (he:zN o name apos es pos pl)(hs:ng es):
 aV B t k nm (.Call (.Attribute o name apos) es [] pos) λloc h Q=>mo loc h λv az=>zW C name az v/\ms loc az λvs aU=>Fw (v::vs) aU Q:=λenv _ _ _ _ _ _ a q=>
 MethodCall_ (pl:=pl env) (ho.go a q λv az x s₁ r br aR bG aX=>by
  obtain⟨o,aX⟩:=aX
  induction o with
  | @mk l as e el=>
   cases r.1
   exact br.inst e λaQ m I ir=>method_fn (br.X X.C) I (Hw hg).1 (Hw hg).2 hf (i6.1 ht) (au (Option.map Option.isSome) (N0 ir el):shadowIn (some (dictOf aQ m)) name=some false)
    (jE aR (xm X.C (.ref hk) hs dY hc bG (fv:=[.ref l]) (.cons r .nil) aX))) (he env)
inductive ux(h:H):V->String->Prop
 |str{s:Str}:ux h (.str s) "str"
 |tup{vs:aj}:ux h (.tup vs) "tuple"
 |lst{a:L}{vs:aj}:h a=some (.lst vs)->ux h (.ref a) "list"
 |aF{a:L}{es:af}{n:Nat}:h a=some (.aF es n)->ux h (.ref a) "dict"
 |set{a:L}{ys:List Str}:h a=some (.set ys)->ux h (.ref a) "set"
noncomputable abbrev oa(T:String)(v:V)(h:H):Prop:=ux h v T
noncomputable abbrev LR(T:String)(s:Shared)(x:Value):Prop:=s.TypeIs x T/\∀a,x= .ref a->∃o,s.heap.get? a=some o/\o.dict=none
theorem B2{ob:Obj}(e:s.heap.get? a=some ob)(c:ob.cls= .type T)(d:ob.dict=none):LR T s (.ref a):=⟨⟨ob,e,c⟩,λ_ z=>Value.ref.inj z▸⟨ob,e,d⟩⟩
theorem oa.type(R:aI B h s)(r:aP h s.heap v x)(i:oa T v h.c):LR T s x:=by
 induction i with
 |str=>exact r.eZ λ_=>⟨rfl,λ_ z=>Value.noConfusion z⟩
 |tup=>exact r.iP λ_ _ e _=>B2 e rfl rfl
 |lst e=>exact r.cA λ_=>R.lst e λ_ _ e _=>B2 e rfl rfl
 |aF e=>exact r.cA λ_=>R.aF e λ_ e _ _ _=>B2 e rfl rfl
 |set e=>exact r.cA λ_=>R.set e λ_ _ _ e _ _=>B2 e rfl rfl
theorem aV.GZ(X:lL B)(ho:aV B t k nm o mo)(dY:gI B t k nm es ms)
 (pa:PlainAttrs T)(slot:Slot T name id)(Fq:typeOf (.builtin id)=pure (.type "method_descriptor"))(hc:dp B t k (.builtin id) Fw)(he:zN o name apos es pos pl)(hs:ng es):
 aV B t k nm (.Call (.Attribute o name apos) es [] pos) λloc h Q=>mo loc h λv az=>oa T v az/\ms loc az λvs aU=>Fw (v::vs) aU Q:=λenv _ _ _ _ _ _ a q=>
 MethodCall_ (pl:=pl env) (ho.go a q λv _ x _ r br aR bG aX=>have z:=oa.type br r aX.1
  VE z.1 pa slot Fq z.2 (jE aR (xm X.C .builtin hs dY hc bG (fv:=[v]) (.cons r .nil) aX.2))) (he env)
end
theorem aJ{f:Obj->Obj}(b:Addr)(hb:b≠a):(g.update a f).get? b=g.get? b:=rS _ _ _ _ hb
theorem aI.vX(R:aI B h s)(e:h.c l=some (.lst vs)){xs:aq}{n:Nat}(hx:LstAt s.heap (h.adr l) xs n){f:aq->aq}(r:aY h s.heap vs' (f xs).toList){tk:Nat}:
 aI B (h.turn l (.lst vs')) {s with heap:=s.heap.update (h.adr l) (Obj.mapSeq f),toks:=tk}/\Step c0 h s.heap (h.turn l (.lst vs')) (s.heap.update (h.adr l) (Obj.mapSeq f)):=
 have e':=qv (Obj.mapSeq f) hx rfl
 R.turn (s':={s with heap:=s.heap.update (h.adr l) (Obj.mapSeq f),toks:=tk}) e rfl rfl rfl aJ (λst=>⟨_,_,e',r.bM st⟩) (dj e') rfl rfl
theorem EPost.vX{Q:ab}(R:aI B h s)(e:h.c l=some (.lst vs)){xs:aq}{n:Nat}(hx:LstAt s.heap (h.adr l) xs n){f:aq->aq}(r:aY h s.heap vs' (f xs).toList){tk:Nat}(q:Q .none (h.c.upd l (.lst vs'))):
 EPost B h s Q .none {s with heap:=s.heap.update (h.adr l) (Obj.mapSeq f),toks:=tk}:=have T:=R.vX e hx r;.mk .none _ rfl T.1 T.2 q
inductive Jc(h:H)(Q:ab):aj->Prop
 |mk{a:L}{v:V}{vs:aj}:h a=some (.lst vs)->vs.length<1000000->Q .none (h.upd a (.lst (vs++[v])))->Jc h Q [.ref a,v]
noncomputable abbrev de(us:aj)(h:H)(Q:ab):Prop:=Jc h Q us
theorem Mz:dp B t k (.builtin "list.append") de:=λA h s Q E vs xs R T rs q=>by
 induction q with
 |mk e hl q=>
  exact rs.two λx y rx ry=>rx.cA λ_=>R.lst e λbS n hx ri=>call_meets F.slot_list_append ⟨_,hx,rfl⟩ F.entry_list_append (F.args_list_append_2 _ _)
   (PySem.list_append (h.adr _) bS n y (iM (ri.size▸cN hl))) ⟨hx,.vX R e hx (f:=λxs=>xs.push y) (Array.toList_push (xs:=bS)▸ri.append (.cons ry .nil)) (tk:=s.toks) q⟩
inductive JI(h:H)(Q:ab):aj->Prop
 |mk{a b:L}{vs ws:aj}:h a=some (.lst vs)->h b=some (.lst ws)->vs.length+ws.length<=1000000->Q .none (h.upd a (.lst (vs++ws)))->JI h Q [.ref a,.ref b]
noncomputable abbrev ET(us:aj)(h:H)(Q:ab):Prop:=JI h Q us
theorem aeJ{n:Nat}(h:n<=1000000):Builtin.List.listTooLong n=false:=cQ (wE.2 (aw h (by decide)))
theorem WP:dp B t k (.builtin "list.extend") ET:=λA h s Q E vs xs R T rs q=>by
 induction q with
 |mk e e' hl q=>
  refine rs.two λx y rx ry=>rx.cA λ_=>ry.cA λ_=>R.lst e λbS n hx ri=>R.lst e' λFE n' ZF Su=>?_
  have hz:bS.size+FE.size<=1000000:=ri.size▸Su.size▸hl
  exact call_meets F.slot_list_extend ⟨_,hx,rfl⟩ F.entry_list_extend (F.args_list_extend_2 _ _) (AutoSeq1.list_extend_list_list_0 (h.adr _) bS n (h.adr _) FE n' (by rw [aeJ hz,Bool.and_false];exact jd)
   (aw (jh _ _) (iM hz)) (uC (iM hz))) ⟨hx,ZF,.vX R e hx (f:=λxs=>xs++FE) (Jf (xs:=bS)▸ri.append Su) (tk:=s.toks) q⟩
end
theorem vV{vs:aj}:(V.tup vs).toPy= .tuple (vs.map V.toPy):=by
 induction vs with
 |nil=>rfl
 |cons v vs ih=>exact au (λds=>PyData.tuple (v.toPy::ds)) (PyData.tuple.inj ih)
theorem H'{vs:aj}:(V.tup vs).kO= .tuple (vs.map V.kO):=by
 induction vs with
 |nil=>rfl
 |cons v vs ih=>exact au (λds=>WData.tuple (v.kO::ds)) (WData.tuple.inj ih)
structure Ko(n:Nat)(v:V):Prop where
 lay:v.toPy.canLay0=true
 depth:v.toPy.depth<=n
 rd:∀{h:H},Rd h v v.toPy
 dk:v.kO.isDKey=true
 wd:v.kO.depth<=n
 well:∀{P:Params} {h:HA} {g:Heap} {x:Value},aP h g v x->Well P g x v.kO
 eqv:∀{m:Nat} {u:V},cz m u->PyData.eqv v.toPy u.toPy=true->v=u
 refl:PyData.eqv v.toPy v.toPy=true
structure Kq(n:Nat)(vs:aj):Prop where
 lay:PyData.canLayAll0 (vs.map V.toPy)=true
 depth:PyData.depthAll (vs.map V.toPy)<=n
 rd:∀{h:H},jO h vs (vs.map V.toPy)
 dk:WData.areDKeys (vs.map V.kO)=true
 wd:WData.depthAll (vs.map V.kO)<=n
 well:∀{P:Params} {h:HA} {g:Heap} {xs:ao},aY h g vs xs->WellAll P g xs (vs.map V.kO)
 eqv:∀{m:Nat} {us:aj},Jd m us->PyData.eqvAll (vs.map V.toPy) (us.map V.toPy)=true->vs=us
 refl:PyData.eqvAll (vs.map V.toPy) (vs.map V.toPy)=true
theorem hM{a b:Bool}(x:a=true)(y:b=true):(a&&b)=true:=(zi a b).mpr ⟨x,y⟩
theorem keysOk{n:Nat}{vs:aj}(k:∀u∈vs,Ko n u):Kq n vs:=by
 induction vs with
 |nil=>exact⟨rfl,bH _,jO.nil,rfl,bH _,λr=>r.mG .nil,λ{_ us} _ e=>by
  cases us with
  |nil=>rfl
  |cons u us=>exact Bool.noConfusion e,rfl⟩
 |cons v vs ih=>
  have a:=k v gk
  have b:=ih λu m=>k u (iy _ m)
  exact⟨hM a.lay b.lay,DB.2 ⟨a.depth,b.depth⟩,jO.cons a.rd b.rd,hM a.dk b.dk,DB.2 ⟨a.wd,b.wd⟩,λr=>r.hW λ_ _ x y=>.cons (a.well x) (b.well y),λ{_ us} ku e=>by
   cases us with
   |nil=>exact Bool.noConfusion e
   |cons u us=>exact(λz:_/\_=>kG (au List.cons (a.eqv (ku u gk) z.1)) (b.eqv (λw m=>ku w (iy _ m)) z.2)) ((zi _ _).mp e),hM a.refl b.refl⟩
theorem cz.ok{n:Nat}{v:V}(k:cz n v):Ko n v:=by
 induction k with
 |int=>exact⟨rfl,bH _,Rd.int _,rfl,bH _,λr=>r.dG λ_=>.int _ _,λk e=>by
  induction k with
  |int=>exact au V.int (eq_of_beq e)
  |_=>exact Bool.noConfusion e,iF _⟩
 |str z=>exact⟨z,bH _,Rd.str _,rfl,bH _,λr=>r.eZ λ_=>.str _ _,λk e=>by
  induction k with
  |str=>exact au V.str (eq_of_beq e)
  |_=>exact Bool.noConfusion e,iF _⟩
 | @tup n vs _ ih=>
  have b:=keysOk ih
  refine⟨(au PyData.canLay0 vV).trans b.lay,aw (aL (au PyData.depth vV)) (cS b.depth),vV.symm▸Rd.tup b.rd,(au WData.isDKey H').trans b.dk,
   aw (aL (au WData.depth H')) (cS b.wd),λr=>H'.symm▸r.iP λa xs hx rs=>.tuple hx (b.well rs),λk e=>?_,(au (λd=>PyData.eqv d d) vV).trans b.refl⟩
  induction k with
  |tup ku _=>exact au V.tup (b.eqv ku ((kG (au PyData.eqv vV) vV).symm.trans e))
  |_=>exact Bool.noConfusion e
section
variable{B:Bk}{A:Around}{E:aa}{h:HA}{s:Shared}{n m:Nat}{a b v:V}{x y:Value}{Q:Bool->Shared->Prop}
theorem OT(R:aI B h s)(hu:A.units+100<cLine)(ka:cz n a)(kb:cz m b)(hn:n<=20)(ra:aP h s.heap a x)(rb:aP h s.heap b y)(qt:a=b->Q true s)(qf:a≠b->Q false s):wpAny B.M A (eqBool x y) Q E s:=
 (ka.ok.rd.reads R ra).elim λ_ z1=>(kb.ok.rd.reads R rb).elim λ_ z2=>SeqAt.eqBoolOverData B.prog B.w A E s x y _ _ _ _ Q z1 z2 ka.ok.lay kb.ok.lay (b7 (eV (aw (wA _ _) (aw ka.ok.depth (aw hn (by decide)))) _) hu) (by
  cases z:PyData.eqv a.toPy b.toPy with
  |true=>exact qt (ka.ok.eqv kb z)
  |false=>exact qf λe=>jd (z.symm.trans ((au (PyData.eqv a.toPy ·.toPy) e).symm.trans ka.ok.refl)))
theorem aP.inj(R:aI B h s)(ka:cz n a)(kb:cz m b)(ra:aP h s.heap a x)(rb:aP h s.heap b x):a=b:=
 (ka.ok.rd.reads R ra).elim λ_ z1=>(kb.ok.rd.reads R rb).elim λ_ z2=>ka.ok.eqv kb ((SeqAt.Reads.unique _ _ _ _ _ ka.ok.lay z1 z2)▸ka.ok.refl)
theorem OV{Q:Int->Shared->Prop}(hu:A.units+n<cLine)(k:cz n v)(r:aP h s.heap v x)(q:∀tk,Q (cI B.w.params v) {s with toks:=tk}):wpAny B.M A (pyHash x) Q E s:=
 pyHash_laid v.kO x A s Q k.ok.dk (k.ok.well r) (b7 (eV k.ok.wd _) hu) q
theorem xJ{M:Model}{α β:Type}{f:α->β->Sem (ForInStep β)}{b:β}{l:List α}{Q:β->Shared->Prop}(step:∀x∈l,∀{P:ForInStep β->Shared->Prop},P (.yield b) s->wpAny M A (f x b) P E s)(q:Q b s):wpAny M A (forIn l b f) Q E s:=by
 induction l with
 |nil=>rw [List.forIn_nil];exact aG q
 |cons x l ih=>rw [List.forIn_cons];exact ax (step x gk (ih λy m=>step y (iy _ m)))
theorem aY.mem{g:Heap}{p:Prop}{vs:aj}:∀{xs:ao},aY h g vs xs->x∈xs->(∀u∈vs,aP h g u x->p)->p:=by
 induction vs with
 |nil=>exact λr=>r.mG (P:=λxs=>x∈xs->_->p) λm=>absurd m a0
 |cons v vs ih=>exact λr=>r.hW (P:=λxs=>x∈xs->(∀u∈v::vs,aP h g u x->p)->p) λy ys a b m k=>(dP.1 m).elim (λe=>k v gk (e▸a)) λm=>ih b m λu mu=>k u (iy _ mu)
theorem AP(k:cz n v):∀{m:Nat} {x:Value} {Q:Bool->Shared->Prop},n<=m->aP h s.heap v x->Q true s->wpAny B.M A (eqIsQuiet m x) Q E s:=by
 induction k with
 |int=>exact λ_ r q=>r.dG (p:=λx=>wpAny B.M A (eqIsQuiet _ x) _ E s) λ_=>o7 (eqIsQuiet_byValue _ rfl) q
 |str=>exact λ_ r q=>r.eZ (p:=λx=>wpAny B.M A (eqIsQuiet _ x) _ E s) λ_=>o7 (eqIsQuiet_byValue _ rfl) q
 |tup kv ih=>
  intro m x Q hm r q
  cases m with
  |zero=>exact absurd hm (zQ _)
  |succ m=>
   refine r.iP λa xs hx rs=>?_
   have hT:s.TypeIs (.ref a) "tuple":=⟨_,hx,rfl⟩
   unfold eqIsQuiet
   refine ax (y3 hT F.slot_tuple_eq.lookup (ax (t8 hT isSubtype_tuple_tuple (bZ (by first|rfl|decide) (ax (Ce hx rfl (ax ?_)))))))
   rw [<-Array.forIn_toList]
   exact xJ (λy hy P p=>rs.mem hy λu mu ru=>ax (ih u mu (Vs hm) ru (bZ (by first|rfl|decide) (aG p)))) (aG q)
theorem aik{stored:ao}(hn:n<=8)(kv:cz n v)(r:aP h s.heap v x)(vh:∀y∈stored,∃u,cz 8 u/\aP h s.heap u y)(q:Q false s):wpAny B.M A (tableMayTell x stored) Q E s:=by
 cases stored with
 |nil=>exact aG q
 |cons w stored=>
  exact ax (AP kv hn r (bZ (by first|rfl|decide) (ax (xJ (λy hy P p=>(vh y hy).elim λu z=>ax (AP z.1 (cB _) z.2 (bZ (by first|rfl|decide) (aG p)))) (aG q)))))
end
section
variable{B:Bk}{A:Around}{E:aa}{h:HA}{s:Shared}{d:Addr}{aQ:List DictEntry}{n j:Nat}{es:af}{key u v w:V}{x:Value}{P:Params}{g:Heap}{e:DictEntry}{p:Prop}{ky:Str}{tk:Tok}
theorem gi.at(a:gi P h g es aQ):∀{j:Nat},aQ[j]?=some e->(∀u v,es[j]?=some (u,v)->e.hash=cI P u->aP h g u e.key->aP h g v e.val->p)->p:=by
 induction a with
 |nil=>intro j h;cases h
 |cons h1 h2 h3 _ ih=>
  intro j z
  cases j with
  |zero=>cases z;exact λk=>k _ _ rfl h1 h2 h3
  |succ j=>exact ih z
theorem gi.at'(a:gi P h g es aQ):∀{j:Nat},es[j]?=some (u,v)->(∀e,aQ[j]?=some e->e.hash=cI P u->aP h g u e.key->aP h g v e.val->p)->p:=by
 induction a with
 |nil=>intro j h;cases h
 |cons h1 h2 h3 _ ih=>
  intro j z
  cases j with
  |zero=>cases z;exact λk=>k _ rfl h1 h2 h3
  |succ j=>exact ih z
theorem FJ{i:Nat}(a:es[i]?=some (u,v)):(es.map (·.1))[i]?=some u:=eL.trans (au (Option.map (·.1)) a)
theorem aeE(hn:(es.map (·.1)).Nodup){i:Nat}(a:es[i]?=some (u,v))(b:es[j]?=some (u,w)):i=j:=
 (wr (cm.1 (FJ a)).1 hn).mp ((FJ a).trans (FJ b).symm)
theorem aP.RQ{m:Nat}(r:aP h g u (.str ky tk))(k:cz m u):u= .str ky:=by
 induction k with
 |int=>exact r.elim λ_ e=>Value.noConfusion e
 |str=>exact r.elim λ_ e=>au V.str (Value.str.inj e).1.symm
 |tup=>exact r.elim λ_ r=>r.elim λ_ r=>Value.noConfusion r.1
theorem NT{M:Model}{β:Type}{f:Nat->β->Sem (ForInStep β)}{Q:β->Shared->Prop}{l:List Nat}(yl:Option Nat->β)(c:Nat->β)(w:Prop)(hit:Nat->Prop)(nd:l.Nodup)(un:∀i j,hit i->hit j->i=j)
 (yes:∀x∈l,hit x->∀{P:ForInStep β->Shared->Prop},P (.done (c x)) s->(w->P (.yield (yl (some x))) s)->wpAny M A (f x (yl none)) P E s)
 (no:∀x∈l,¬hit x->∀o {P:ForInStep β->Shared->Prop},P (.yield (yl o)) s->wpAny M A (f x (yl o)) P E s)
 (kc:∀x,hit x->Q (c x) s)(kd:w->∀x,hit x->Q (yl (some x)) s)(kn:(∀x∈l,¬hit x)->Q (yl none) s):wpAny M A (forIn l (yl none) f) Q E s:=by
 induction l with
 |nil=>rw [List.forIn_nil];exact aG (kn λ_ m=>absurd m a0)
 |cons x l ih=>
  have nd:=gX.1 nd
  rw [List.forIn_cons]
  exact(aN (hit x)).elim (λz=>ax (yes x gk z (aG (kc x z)) λhw=>xJ (λy m _ q=>no y (iy _ m) (λzy=>nd.1 (un x y z zy▸m)) _ q) (kd hw x z)))
   λz=>ax (no x gk z _ (ih nd.2 (λy m=>yes y (iy _ m)) (λy m=>no y (iy _ m)) λq=>kn (bq.2 ⟨z,q⟩)))
theorem xj(n:Nat):decide ((n !=n)=true)=false:=cQ (Ey n▸jd)
structure jm(B:Bk)(A:Around)(h:HA)(s:Shared)(d:Addr)(aQ:List DictEntry)(n:Nat)(es:af)(key:V)(x:Value):Prop where
 R:aI B h s
 hu:A.units+100<cLine
 ho:s.heap.get? d=some (dictOf aQ n)
 er:gi B.w.params h s.heap es aQ
 hn:(es.map (·.1)).Nodup
 hk:∀p∈es,cz 8 p.1
 kk:cz 8 key
 r:aP h s.heap key x
noncomputable abbrev kX(es:af)(key:V)(j:Nat):Prop:=∃v,es[j]?=some (key,v)
noncomputable abbrev places(aQ:List DictEntry)(hv:Int):List Nat:=placesWithHash aQ.toArray.size (λi=>aQ.toArray[i]?.map (·.hash)) hv
section
variable(S:jm B A h s d aQ n es key x)
include S
theorem jm.of(z:aQ.toArray[j]?=some e)(k:∀u v,es[j]?=some (u,v)->e.hash=cI B.w.params u->aP h s.heap u e.key->cz 8 u->p):p:=
 S.er.at (Kv.symm.trans z) λu v a b c _=>k u v a b c (S.hk _ (cP a))
theorem jm.at(m:j∈places aQ (cI B.w.params key))(k:∀e u v,aQ.toArray[j]?=some e->(e.hash==cI B.w.params key)=true->es[j]?=some (u,v)->aP h s.heap u e.key->cz 8 u->p):p:=by
 have m:(aQ.toArray[j]?.map (·.hash)==some (cI B.w.params key))=true:=(fC.1 m).2
 cases z:aQ.toArray[j]? with
 |none=>rw [z] at m;cases m
 |some e=>rw [z] at m;exact S.of z λu v a _ b c=>k e u v z m a b c
theorem jm.hits(z:kX es key j):j∈places aQ (cI B.w.params key):=z.elim λv z=>S.er.at' z λe a b _ _=>
 fC.2 ⟨kZ.2 (cm.1 a).1,i6.2 ((au (Option.map (·.hash)) (Kv.trans a)).trans (au some b))⟩
theorem jm.nodup:(places aQ (cI B.w.params key)).Nodup:=List.nodup_range.sublist List.filter_sublist
theorem jm.same(i j:Nat)(a:kX es key i)(b:kX es key j):i=j:=a.elim λ_ a=>b.elim λ_ b=>aeE S.hn a b
theorem jm.once{γ:Type}{Q:γ->Shared->Prop}{m:Nat->Nat->Bool->Sem γ}(z:es[j]?=some (u,v))(ru:aP h s.heap u e.key)(ku:cz 8 u)(qt:kX es key j->wpAny B.M A (m n n true) Q E s)(qf:¬kX es key j->wpAny B.M A (m n n false) Q E s):
 wpAny B.M A (dictEpoch d (keyPart x)>>= λb=>eqBool e.key x>>= λt=>dictEpoch d (keyPart x)>>= λc=>m b c t) Q E s:=
 ax (v6 S.ho rfl (ax (OT (a:=u) (b:=key) S.R S.hu ku S.kk (by decide) ru S.r (λw=>ax (v6 S.ho rfl (qt ⟨v,w▸z⟩))) λw=>ax (v6 S.ho rfl (qf λq=>q.elim λ_ q=>w (au Prod.fst (bc (z.symm.trans q))))))))
theorem jm.quiet{Q:Bool->Shared->Prop}(q:Q false s):wpAny B.M A (tableMayTell x ((places aQ (cI B.w.params key)).filterMap λi=>aQ.toArray[i]?.map (·.key))) Q E s:=
 aik (n:=8) (cB _) S.kk S.r (λy hy=>(List.mem_filterMap.mp hy).elim λi w=>S.at w.1 λe u v a _ _ ru ku=>⟨u,ku,bc ((au (Option.map (·.key)) a).symm.trans w.2)▸ru⟩) q
theorem jm.turned:¬(aQ.toArray.any λe=>e.key==x&&e.hash !=cI B.w.params key)=true:=λz=>
 (Array.any_eq_true.mp z).elim λj z=>z.elim λl z=>S.of (zb l) λu v _ b c ku=>
  have z:=(zi _ _).mp z
  lg.1 z.2 (b.trans (au _ (aP.inj S.R ku S.kk (eq_of_beq z.1▸c) S.r)))
variable{Q:Option Nat->Shared->Prop}(oH:(∀j,¬kX es key j)->Q none s)(nM:∀j,kX es key j->Q (some j) s)
include oH nM
theorem ai4:wpAny B.M A (dictWalkPlain d x (cI B.w.params key) aQ.toArray (places aQ (cI B.w.params key))) Q E s:=by
 unfold dictWalkPlain
 refine ax (NT (λ_=>(none,())) (λx=>(some (some x),())) False (kX es key) S.nodup S.same (λj m z P p _=>?_) (λj m z o P p=>?_) (λj z=>aG (nM j z)) False.elim λz=>aG (oH λj q=>z j (S.hits q) q))
 ·refine S.at m λe u v a b c ru ku=>?_
  rw [a]
  exact iR (cE b) (S.once c ru ku (λ_=>bZ (xj n) (iR rfl (ax (mO (aG p))))) λn=>absurd z n)
 ·refine S.at m λe u v a b c ru ku=>?_
  rw [a]
  exact iR (cE b) (S.once c ru ku (λq=>absurd q z) λ_=>bZ (xj n) (bZ rfl (ax (mO (aG p)))))
theorem jm.text(hx:x= .str ky tk)(hu:key= .str ky):wpAny B.M A (foundByValue d x aQ.toArray ky) Q E s:=by
 unfold foundByValue
 cases z:aQ.toArray.findIdx? (·.key.isStr ky) with
 |none=>exact aG (oH λj q=>q.elim λv q=>S.er.at' q λe a _ r _=>(hu▸r:aP h s.heap (.str ky) e.key).elim λtk r=>Bool.noConfusion ((Array.findIdx?_eq_none_iff.mp z e (List.mem_toArray.mpr (cP a))).symm.trans (r▸AN.mpr rfl)))
 |some i=>
  obtain⟨l,q,_⟩:=Array.findIdx?_eq_some_iff_getElem.mp z
  have a:=zb l
  dsimp only
  rw [a]
  refine S.of a λu v c _ ru ku=>?_
  have e:u=key:=by
   revert q ru
   cases aQ.toArray[i].key with
   |str y t=>exact λq ru=>(ru.RQ ku).trans (AN.mp q▸hu.symm)
   |_=>exact Bool.noConfusion
  exact S.once c ru ku (λq=>bZ (xj n) (iR rfl (ax (mO (aG (nM i q)))))) λq=>absurd ⟨v,e▸c⟩ q
theorem EL:wpAny B.M A (dictFind d x (cI B.w.params key)) Q E s:=by
 unfold dictFind
 refine c8 (ax (ql S.ho rfl ?_))
 extract_lets pl stored ajX j3 j2 j1
 have t3:wpAny B.M A (j3 false) Q E s:=by
  refine bZ rfl (ax (NT (λo=>(none,o)) (λx=>(some (some x),none)) True (kX es key) S.nodup S.same (λj m z P p p'=>?_) (λj m z o P p=>?_) (λj z=>aG (nM j z)) (λ_ j z=>aG (nM j z)) λz=>aG (oH λj q=>z j (S.hits q) q)))
  ·refine S.at m λe u v a b c ru ku=>?_
   rw [a]
   exact iR (cE b) (S.once c ru ku (λ_=>bZ (xj n) (iR rfl (bZ rfl (ax (mO (o6 (λ_=>aG p) λ_=>aG (p' gh))))))) λn=>absurd z n)
  ·refine S.at m λe u v a b c ru ku=>?_
   rw [a]
   exact iR (cE b) (S.once c ru ku (λq=>absurd q z) λ_=>bZ (xj n) (bZ rfl (ax (mO (bZ rfl (aG p))))))
 have t2:wpAny B.M A (j2 ()) Q E s:=o6 (λ_=>ax (aG t3)) λ_=>ax (S.quiet t3)
 have t1:wpAny B.M A (j1 ()) Q E s:=o6 (λ_=>ai4 S oH nM) λ_=>by
  cases x with
  |ref a=>exact bZ (cQ S.turned) t2
  |_=>exact t2
 cases x with
 |str ky tk=>exact o6 (λ_=>S.text oH nM rfl (S.r.RQ S.kk)) λ_=>t1
 |_=>exact t1
end
end
section
open Classical in
noncomputable def cg(es:af)(k:V):Option V:=es.rec none λp _ r=>if p.1=k then some p.2 else r
open Classical in
noncomputable def dS(es:af)(k v:V):af:=es.rec [(k,v)] λp es r=>if p.1=k then(p.1,v)::es else p::r
noncomputable def q5(es:af)(k:V)(n:Nat):Nat:=(cg es k).elim (n+1) λ_=>n
section
variable{es cG:af}{p:V×V}{k v w u:V}{j n n' tk:Nat}{B:Bk}{A:Around}{E:aa}{h:HA}{s:Shared}{aQ ens':List DictEntry}{a:Addr}{d:L}{x y:Value}{P:Params}{g:Heap}
theorem vu(e:p.1=k):cg (p::es) k=some p.2:=bz e
theorem p7(e:¬p.1=k):cg (p::es) k=cg es k:=bD e
theorem vN(e:p.1=k):dS (p::es) k v=(p.1,v)::es:=bz e
theorem q6(e:¬p.1=k):dS (p::es) k v=p::dS es k v:=bD e
theorem RB(hn:((p::es).map (·.1)).Nodup)(h:es[j]?=some (k,w)):¬p.1=k:=λe=>(gX.1 hn).1 (bg.2 ⟨_,cP h,e.symm⟩)
theorem AG(h:∀j,¬kX (p::es) k j):¬p.1=k/\∀j,¬kX es k j:=⟨λe=>h 0 ⟨p.2,au (λk=>some (k,p.2)) e⟩,λj z=>h (j+1) z⟩
theorem AW(h:∀j,¬kX es k j):cg es k=none:=by
 induction es with
 |nil=>rfl
 |cons p es ih=>exact(p7 (AG h).1).trans (ih (AG h).2)
theorem So(h:∀j,¬kX es k j):dS es k v=es++[(k,v)]:=by
 induction es with
 |nil=>rfl
 |cons p es ih=>exact(q6 (AG h).1).trans (au (p::·) (ih (AG h).2))
theorem AX(hn:(es.map (·.1)).Nodup)(h:es[j]?=some (k,v)):cg es k=some v:=by
 induction es generalizing j with
 |nil=>cases h
 |cons p es ih=>cases j with
  |zero=>cases h;exact vu rfl
  |succ j=>exact(p7 (RB hn h)).trans (ih (gX.1 hn).2 h)
theorem af4(hn:(es.map (·.1)).Nodup)(h:es[j]?=some (k,w)):dS es k v=es.set j (k,v):=by
 induction es generalizing j with
 |nil=>cases h
 |cons p es ih=>cases j with
  |zero=>cases h;exact vN rfl
  |succ j=>exact(q6 (RB hn h)).trans (au (p::·) (ih (gX.1 hn).2 h))
theorem aI.seek{p:Prop}(R:aI B h s)(hu:A.units+100<cLine)(e:h.c d=some (.aF es n))(kk:cz 8 k)(r:aP h s.heap k x)(f:∀aQ,jm B A h s (h.adr d) aQ n es k x->p):p:=R.aF e λaQ ho er hn hk=>f aQ ⟨R,hu,ho,er,hn,hk,kk,r⟩
theorem jm.hash(S:jm B A h s a aQ n es k x){Q:Int->Shared->Prop}(q:∀tk,jm B A h {s with toks:=tk} a aQ n es k x->Q (cI B.w.params k) {s with toks:=tk}):wpAny B.M A (pyHash x) Q E s:=
 OV (b7 (eV (by decide) _) S.hu) S.kk S.r λtk=>q tk ⟨S.R.toks tk,S.hu,S.ho,S.er,S.hn,S.hk,S.kk,S.r⟩
theorem jm.get(S:jm B A h s a aQ n es k x){Q:Option Value->Shared->Prop}(oH:cg es k=none->∀tk,Q none {s with toks:=tk})(nM:∀v y,cg es k=some v->aP h s.heap v y->∀tk,Q (some y) {s with toks:=tk}):
 wpAny B.M A (dictGet a x) Q E s:=
 c8 (ax (S.hash λtk T=>ax (EL T (λz=>aG (oH (AW z) tk)) λj z=>z.elim λv z=>ax (ql T.ho rfl (S.er.at' z λen a _ _ rv=>aG ((au (Option.map (·.val)) (Kv.trans a)).symm▸nM v en.val (AX S.hn z) rv tk))))))
theorem xt{Q:Option Value->Shared->Prop}(R:aI B h s)(hu:A.units+100<cLine)(e:h.c d=some (.aF es n))(kk:cz 8 k)(r:aP h s.heap k x)
 (oH:cg es k=none->∀tk,Q none {s with toks:=tk})(nM:∀v y,cg es k=some v->aP h s.heap v y->∀tk,Q (some y) {s with toks:=tk}):wpAny B.M A (dictGet (h.adr d) x) Q E s:=R.seek hu e kk r λ_ S=>S.get oH nM
theorem aI.TJ(R:aI B h s)(e:h.c d=some (.aF es n))(ho:s.heap.get? (h.adr d)=some (dictOf aQ n)){f:Obj->Obj}(hf:f (dictOf aQ n)=dictOf ens' n')(er:gi B.w.params h s.heap cG ens')(hn:(cG.map (·.1)).Nodup)(hk:∀p∈cG,cz 8 p.1):
 aI B (h.turn d (.aF cG n')) {s with heap:=s.heap.update (h.adr d) f,toks:=tk}/\Step c0 h s.heap (h.turn d (.aF cG n')) (s.heap.update (h.adr d) f):=
 have hg:=(qv f ho (hf.symm▸rfl)).trans (au some hf)
 R.turn (s':={s with heap:=s.heap.update (h.adr d) f,toks:=tk}) e rfl rfl rfl aJ (λst=>⟨ens',hg,er.bM st,hn,hk⟩) (dj hg) rfl rfl
theorem gi.snoc(a:gi P h g es aQ)(rk:aP h g k x)(rv:aP h g v y):gi P h g (es++[(k,v)]) (aQ++[⟨cI P k,x,y⟩]):=by
 induction a with
 |nil=>exact .cons rfl rk rv .nil
 |cons h1 h2 h3 _ ih=>exact .cons h1 h2 h3 ih
theorem gi.ahx(a:gi P h g es aQ)(rv:aP h g v y):∀{j:Nat},es[j]?=some (k,w)->gi P h g (es.set j (k,v)) (aQ.modify j λe=>{e with val:=y}):=by
 induction a with
 |nil=>intro j h;cases h
 |cons h1 h2 h3 a ih=>
  intro j z
  cases j with
  |zero=>cases z;exact .cons h1 h2 rv a
  |succ j=>exact List.modify_succ_cons ..▸.cons h1 h2 h3 (ih z)
theorem aai(h:es[j]?=some (k,w)):(es.set j (k,v)).map (·.1)=es.map (·.1):=by
 induction es generalizing j with
 |nil=>cases h
 |cons p es ih=>cases j with
  |zero=>cases h;rfl
  |succ j=>exact au (p.1::·) (ih h)
theorem EM{Q:Unit->Shared->Prop}(R:aI B h s)(hu:A.units+100<cLine)(e:h.c d=some (.aF es n))(hl:es.length<=1000000)(kk:cz 8 k)(r:aP h s.heap k x)(rv:aP h s.heap v y)
 (q:∀s',aI B (h.turn d (.aF (dS es k v) (q5 es k n))) s'->Step c0 h s.heap (h.turn d (.aF (dS es k v) (q5 es k n))) s'.heap->Q () s'):wpAny B.M A (dictSet (h.adr d) x y) Q E s:=
 R.seek hu e kk r λaQ S=>c8 (ax (S.hash λtk T=>c8 (ax (EL T (λno=>by
  rw [So no,q5,AW no] at q
  have T':=R.TJ e (tk:=tk) S.ho (f:=Obj.mapDictKeys λIG=>IG.push ⟨cI B.w.params k,x,y⟩) (ens':=aQ++[⟨cI B.w.params k,x,y⟩]) (n':=n+1) (au (Obj.mk _ _ · _) (au (Data.dict · _) (List.push_toArray _ _))) (S.er.snoc r rv)
   (gF.symm▸pp.2 ⟨S.hn,qz _ _,λa ha b hb e=>(bg.1 ha).elim λp hp=>(List.getElem?_of_mem hp.1).elim λj hj=>no j ⟨p.2,hj.trans (au (λk=>some (k,p.2)) (hp.2.trans (e.trans (a6.1 hb))))⟩⟩)
   (λp hp=>(bO.1 hp).elim (S.hk p) λz=>a6.1 z▸kk)
  exact ax (mO (wpAny_updateDictKeys (hz:=(S.er.length▸iM hl:aQ.length<=sizeLine)) T.ho rfl (q _ T'.1 T'.2) (aL (Array.size_push _))))) λj z=>z.elim λw z=>by
  rw [af4 S.hn z,q5,AX S.hn z] at q
  have T':=R.TJ e (tk:=tk) S.ho (f:=Obj.mapDict λIG=>IG.modify j λe=>{e with val:=y}) (ens':=aQ.modify j λe=>{e with val:=y}) (n':=n) (au (Obj.mk _ _ · _) (au (Data.dict · _) (List.modify_toArray ..))) (S.er.ahx rv z)
   (aai z▸S.hn) (λp hp=>(List.mem_or_eq_of_mem_set hp).elim (S.hk p) λz=>z▸kk)
  exact ax (mO (ax (wpAny_updateDict T.ho rfl (wpAny_point (q _ T'.1 T'.2)) (aL Array.size_modify))))))))
end
end
section
variable{B:Bk}{t:Bool}{k:Nat}{nm:ag}{A:Around}{E:aa}{h:HA}{s:Shared}{d:L}{n m:Nat}{es:af}{key v o i:V}{x y:Value}{Q:ab}{p:Prop}{j:Int}{vs:aj}
theorem YP(R:aI B h s)(T:fM B t k A)(e:h.c d=some (.aF es n))(kk:cz 8 key)(r:aP h s.heap key x)(hv:cg es key=some v)(q:Q v h.c):wpAny B.M A (getItem (.ref (h.adr d)) x) (EPost B h s Q) E s:=
 R.aF e λaQ ho _ _ _=>have hT:s.TypeIs (.ref (h.adr d)) "dict":=⟨_,ho,rfl⟩
  c8 (ax (IC hT (by decide) (ax (qk (name:=Str.ofString "__getitem__") hT yM (jD yM hT entry_dict_getitem
   (ax (m:=dictGet (h.adr d) x) (xt R (rp (A:=A) T (cB 100)) e kk r (λz=>cK hv z) λv' y z ry tk=>aG ⟨y,rfl,aG (.val R ry (bc (hv.symm.trans z)▸q))⟩)) (args_dict_getitem _ _))))))
noncomputable def idx(i:Int)(n:Nat):Option Nat:=seqIndex? i n
theorem ZI(h:idx j n=some m)(a:0<=j->j.toNat=m->p)(b:j<0-> -(n:Int)<=j->(j+n).toNat=m->p):p:=by
 have q:=zU.1 h
 refine(aN (j<0)).elim (λz=>?_) λz=>?_
 ·rw [if_pos z] at q
  exact b z (Int.le_of_sub_nonneg ((Int.sub_neg j n).symm▸cU (j6.1 q.1).1)) (bc q.2)
 ·rw [if_neg z] at q
  exact a (jI.1 z) (bc q.2)
theorem Fy{j:Nat}(h:j<n):idx j n=some j:=zU.2 (by
 rw [if_neg (Int.not_lt.mpr (Int.natCast_nonneg j))]
 exact⟨j6.2 ⟨cE (gx j),cE (iW.2 h)⟩,rfl⟩)
theorem ZJ(h:0<n):idx (-1) n=some (n - 1):=by
 cases n with
 |zero=>cases h
 |succ m=>exact zU.2 (by
  rw [if_pos (show(-1:Int)<0 by decide),show(-1:Int)+((m+1:Nat):Int)=(m:Int) from(Int.add_comm _ _).trans (Int.add_sub_cancel (m:Int) 1)]
  exact⟨j6.2 ⟨cE (gx m),cE (iW.2 (jM m))⟩,rfl⟩)
noncomputable def oU(vs:aj)(j:Int):Option V:=(idx j vs.length).bind λn=>vs[n]?
noncomputable def strAt(x:Str)(j:Int):Option V:=(idx j x.length).bind λn=>(x.cps[n]?).map λc=>.str ⟨#[c]⟩
theorem sC{α β:Type}{o:Option α}{f:α->Option β}{b:β}(e:o.bind f=some b)(k:∀a,o=some a->f a=some b->p):p:=(Vv.1 e).elim λa z=>k a z.1 z.2
noncomputable abbrev Small(j:Int):Prop:= -1000000<=j/\j<=1000000
inductive wo(h:H)(Q:ab):V->V->Prop
 |str{x:Str}{j:Int}{v:V}:Small j->strAt x j=some v->Q v h->wo h Q (.str x) (.int j)
 |tup{vs:aj}{j:Int}{v:V}:Small j->oU vs j=some v->Q v h->wo h Q (.tup vs) (.int j)
 |lst{a:L}{vs:aj}{j:Int}{v:V}:Small j->dR h a vs->oU vs j=some v->Q v h->wo h Q (.ref a) (.int j)
 |aF{a:L}{es:af}{n:Nat}{i v:V}:cz 8 i->h a=some (.aF es n)->cg es i=some v->Q v h->wo h Q (.ref a) i
noncomputable abbrev x8(o i:V)(h:H)(Q:ab):Prop:=wo h Q o i
theorem HU(h:Small j):j<2^63:=wk h.2 (by decide)
theorem HT(h:Small j): -(2^63)<=j:=m5 (by decide) h.1
theorem ahQ(h:Small j):(decide (j< -(2^63:Int))||decide (j≥2^63))=false:=Bool.or_eq_false_iff.mpr ⟨cQ (jI.2 (HT h)),cQ (Int.not_le.mpr (HU h))⟩
theorem YQ{a:Addr}{xs:aq}{n:Nat}{tk:Tok}(R:aI B h s)(hj:Small j)(hx:LstAt s.heap a xs n)(rx:aY h s.heap vs xs.toList)(hv:oU vs j=some v)(q:Q v h.c):wpAny B.M A (getItem (.ref a) (.int j tk)) (EPost B h s Q) E s:=
 sC hv λ_ h3 h4=>rx.get' h4 λ_ hz rz=>ZI h3 (λa b=>wpAny_getItem_list ⟨_,hx,rfl,_,rfl⟩ a (HU hj) (b.symm▸hz) (.iQ R rz q))
  λa b c=>wpAny_getItem_list_neg ⟨_,hx,rfl,_,rfl⟩ a (rx.size▸b) (HT hj) ((rx.size▸c:(j+xs.size).toNat=_).symm▸hz) (.iQ R rz q)
theorem R5{value slice:Expr}(R:aI B h s)(T:fM B t k A)(ro:aP h s.heap o x)(ri:aP h s.heap i y)(q:x8 o i h.c Q)(hs:∀x y,subscripted slice false x y=operate [x,y] (getItem x y)):wpAny B.M A (subscriptTail value slice x y) (EPost B h s Q) E s:=by
 induction q with
 |str hj hv q=>exact ro.eZ λtk=>ri.dG λ_=>sC hv λn h3 h4=>(zV.1 h4).elim λc h5=>tU (typeIs_str s _ tk) F.slot_str_getitem.lookup (PySem.P.getItem_str (c:=c) (ahQ hj) ((au (Option.bind · (_[·]?)) h3).trans h5.1) (.val (v:=.str ⟨#[c]⟩) R ⟨_,rfl⟩ (h5.2▸q))) (hs _ _)
 |tup hj hv q=>exact ro.iP λ_ _ hx rx=>ri.dG λ_=>sC hv λ_ h3 h4=>rx.get' h4 λ_ hz rz=>tU (s:=s) (T:="tuple") ⟨_,hx,rfl⟩ F.slot_tuple_getitem.lookup (PySem.P.getItem_tuple hx (HT hj) (HU hj) (rx.size▸h3) hz (.iQ R rz q)) (hs _ _)
 |lst hj e hv q=>exact ro.cA λ_=>ri.dG λ_=>dR.rep R e λ_ _ hx rx=>tU (s:=s) (T:="list") ⟨_,hx,rfl⟩ F.slot_list_getitem.lookup (YQ R hj hx rx hv q) (hs _ _)
 |aF kk e hv q=>exact ro.cA λ_=>R.aF e λ_ ho _ _ _=>tU (s:=s) (T:="dict") ⟨_,ho,rfl⟩ yM.lookup (YP R T e kk ri hv q) (hs _ _)
theorem aV.item{o i:Expr}{pos:Pos}{mo mi:EW}(ho:aV B t k nm o mo)(hi:aV B t k nm i mi)(hs:∀x y,subscripted i false x y=operate [x,y] (getItem x y)):
 aV B t k nm (.Subscript o i pos) λloc h Q=>mo loc h λa az=>mi loc az λb aU=>x8 a b aU Q:=λ_ _ _ _ _ _ _ a q=>
 z5 (ho.go a q λ_ _ _ _ ra br aR bG aX=>hi.go bG aX λ_ _ _ _ rb dd be _ ck=>jE (aR.trans be) (R5 dd a.T (ra.step br be) rb ck hs))
end
section
variable{B:Bk}{t:Bool}{k:Nat}{nm:ag}{A:Around}{E:aa}{h:HA}{s:Shared}{a:L}{vs ws:aj}{Q:ab}{o lo hi value slice:Expr}{p pos:Pos}{mo ml:EW}{j:Int}{l u:Value}{g:Heap}{Pb xV:Option Int}
theorem pick_from{xs:aq}(ha:0<=j):slicePick xs (some j) none none=(xs.toList.drop j.toNat).toArray:=OI (p:=λj=>slicePick xs (some j) none none=(xs.toList.drop j.toNat).toArray) (λn=>slicePick_from' xs n) ha
theorem afD{xs:aq}(hb:0<=j):slicePick xs none (some j) none=(xs.toList.take j.toNat).toArray:=OI (p:=λj=>slicePick xs none (some j) none=(xs.toList.take j.toNat).toArray) (λn=>slicePick_upto' xs n) hb
inductive CY(h:H)(Q:ab):V->V->Prop
 |lst{a:L}{vs:aj}{j:Int}:0<=j->dR h a vs->vs.length<=1000000->dJ (.lst (vs.drop j.toNat)) h Q->CY h Q (.ref a) (.int j)
 |tup{vs:aj}{j:Int}:1<=j->j<=vs.length->vs.length<=1000000->Q (.tup (vs.drop j.toNat)) h->CY h Q (.tup vs) (.int j)
noncomputable abbrev NZ(o i:V)(h:H)(Q:ab):Prop:=CY h Q o i
inductive LM(h:H)(Q:ab):V->V->Prop
 |mk{a:L}{vs:aj}{j:Int}:0<=j->dR h a vs->vs.length<=1000000->dJ (.lst (vs.take j.toNat)) h Q->LM h Q (.ref a) (.int j)
noncomputable abbrev kO(o i:V)(h:H)(Q:ab):Prop:=LM h Q o i
inductive Jb(h:H)(Q:ab):V->Prop
 |mk{a:L}{vs:aj}:dR h a vs->vs.length<=1000000->dJ (.lst vs) h Q->Jb h Q (.ref a)
noncomputable abbrev Me(o:V)(h:H)(Q:ab):Prop:=Jb h Q o
noncomputable abbrev vQ(l u:Value):Obj:={cls:=.type "slice",data:=.fields #[l,u,.none]}
theorem Ta:(g.push (vQ l u)).IsSliceOf g.objs.size l u .none:=Heap.IsSliceOf.new ..
theorem HR(R:aI B h s)(pl:IsPart l Pb)(pu:IsPart u xV)(e:dR h.c a vs)(hl:vs.length<=1000000)(f:∀{xs:aq},aY h s.heap vs xs.toList->∃ys,slicePick xs Pb xV none=ys.toArray/\aY h s.heap ws ys)(q:dJ (.lst ws) h.c Q)
 (hs:∀x y,subscripted slice false x y=operate [y,x] (getItem x y)):wpAny B.M A (subscriptTail value slice (.ref (h.adr a)) (.ref s.heap.objs.size)) (EPost B h s Q) E {s with heap:=s.heap.push (vQ l u)}:=
 have st:=tO (h:=h) (g:=s.heap) λ_ _ e=>c9 (vQ l u) e
 dR.rep R e λxs n hx rx=>(f rx).elim λys z=>
  have hx:=c9 (vQ l u) hx
  tU (T:="list") ⟨_,hx,rfl⟩ F.slot_list_getitem.lookup (wpAny_getItem_list_slice ⟨_,hx,rfl,_,rfl⟩ Ta pl pu .none nofun (z.1▸(EPost.lst (R.push (vQ l u)) (z.2.bM st) q).mono (.push _)) (rx.size▸iM hl)) (hs _ _)
theorem aV.from(ho:aV B t k nm o mo)(hlo:aV B t k nm lo ml)(hs:∀x y,subscripted (.Slice (some lo) none none p) false x y=operate [y,x] (getItem x y)):
 aV B t k nm (.Subscript o (.Slice (some lo) none none p) pos) λloc h Q=>mo loc h λa az=>ml loc az λb aU=>NZ a b aU Q:=λ_ _ _ _ _ _ _ a q=>
 z5 (ho.go a q λu _ x _ ra br aR bG aX=>wpAny_Slice (evalPart_some_step (hlo.go bG aX λv aU y cr rb dd be _ ck=>u9 (u9 (jE (aR.trans be) (by
  have ra:=ra.step br be
  induction ck with
  |lst hj e hl q=>exact ra.cA λ_=>rb.dG λ_=>HR dd (.int _ _) .none e hl (λr=>⟨_,pick_from hj,r.drop _⟩) q hs
  | @tup vs j h1 h2 hl q=>
   refine ra.iP λa xs hx rx=>rb.dG λtk=>?_
   have st:=tO (h:=aU) (g:=cr.heap) λ_ _ e=>c9 (vQ (.int j tk) .none) e
   have hj:(j.toNat:Int)=j:=zI (m5 (by decide) h1)
   exact tU (T:="tuple") ⟨_,st.tup _ _ hx,rfl⟩ F.slot_tuple_getitem.lookup (getItem_tuple_from (a:=j.toNat) (u:=tk) ⟨_,st.tup _ _ hx,rfl,_,rfl⟩ (hj.symm▸Ta) (jK.1 (hj.symm▸h1)) (rx.size▸jK.1 (hj.symm▸h2))
    ((EPost.tup (dd.push _) ((rx.drop j.toNat).bM st) q).mono (.push _)) (rx.size▸iM hl)) (hs _ _)))))))
theorem aV.to(ho:aV B t k nm o mo)(Zp:aV B t k nm hi ml)(hs:∀x y,subscripted (.Slice none (some hi) none p) false x y=operate [y,x] (getItem x y)):
 aV B t k nm (.Subscript o (.Slice none (some hi) none p) pos) λloc h Q=>mo loc h λa az=>ml loc az λb aU=>kO a b aU Q:=λ_ _ _ _ _ _ _ a q=>
 z5 (ho.go a q λu _ x _ ra br aR bG aX=>wpAny_Slice (u9 (evalPart_some_step (Zp.go bG aX λv aU y cr rb dd be _ ck=>u9 (jE (aR.trans be) (by
  have ra:=ra.step br be
  induction ck with
  |mk hj e hl q=>exact ra.cA λ_=>rb.dG λ_=>HR dd .none (.int _ _) e hl (λr=>⟨_,afD hj,r.take _⟩) q hs))))))
theorem aV.all(ho:aV B t k nm o mo)(hs:∀x y,subscripted (.Slice none none none p) false x y=operate [y,x] (getItem x y)):
 aV B t k nm (.Subscript o (.Slice none none none p) pos) λloc h Q=>mo loc h λa az=>Me a az Q:=λ_ _ _ _ _ _ _ a q=>
 z5 (ho.go a q λu _ x _ ra br aR bG aX=>wpAny_Slice (u9 (u9 (u9 (jE aR (by
  induction aX with
  |mk e hl q=>exact ra.cA λ_=>HR br .none .none e hl (λr=>⟨_,slicePick_all _,r⟩) q hs))))))
end
section
variable{B:Bk}{t:Bool}{k:Nat}{A:Around}{E:aa}{h:HA}{s:Shared}{d:L}{n m:Nat}{es:af}{key v:V}{vs:aj}{x:Value}{p:Prop}
noncomputable def qh(y x:Str):Bool:=!(Builtin.Str.occurrences x y 0 x.length 1).isEmpty
theorem r7.of{w:World}{prog:Program}{g:Heap}{a:Addr}{ys:List Str}{es:Array (Int×Value)}{ep:Nat}{t:SetTable}(ho:g.get? a=some {cls:=.type "set",dict:=none,data:=.set es ep t,slots:=#[]})(S:r7 w.params es ys)(hf:t.fits es.size=true):
 g.SetOf (PySem.strKind prog w) a (λy=>decide (y∈ys)) ys.length:=
 ⟨_,es,ep,t,ho,⟨rfl,rfl,rfl⟩,rfl,λe he=>(S.elems e he).elim λy z=>z.elim λtk z=>⟨⟨y,(au (Value.isStrOf y) z.1).trans (iF y),z.2⟩,(au Value.scannable z.1:_)⟩,
  λy=>EK.trans ((S.mem y).trans ⟨λz=>z.imp λe z=>⟨z.1,z.2.elim λtk z=>(au (Value.isStrOf y) z).trans (iF y)⟩,λz=>z.imp λe z=>⟨z.1,DX z.2⟩⟩),S.small,hf,S.size⟩
inductive KC(v:V)(vs:aj)(h:H)(Q:Bool->Prop):Prop
 |mk(ds:List PyData)(d:PyData):jO h vs ds->Rd h v d->PyData.canLayAll0 ds=true->d.canLay0=true->min (PyData.depthAll ds) d.depth<=100->Q (ds.any λy=>PyData.eqv y d)->KC v vs h Q
noncomputable abbrev yh(v:V)(vs:aj)(h:H)(Q:Bool->Prop):Prop:=KC v vs h Q
theorem Mg(kv:cz m v)(ku:Jd n vs):(vs.map V.toPy).any (λy=>PyData.eqv y v.toPy)=true↔v∈vs:=
 Di.trans ⟨λz=>z.elim λy z=>(bg.1 z.1).elim λu w=>(ku u w.1).ok.eqv kv (w.2▸z.2)▸w.1,λz=>⟨_,bg.2 ⟨v,z,rfl⟩,kv.ok.refl⟩⟩
theorem Q3{h:H}{Q:Bool->Prop}(kv:cz 20 v)(ku:∀u∈vs,cz 20 u)(h1:v∈vs->Q true)(h2:v∉vs->Q false):yh v vs h Q:=
 have b:=keysOk λu m=>(ku u m).ok
 .mk _ _ b.rd kv.ok.rd b.lay kv.ok.lay (aw (wA _ _) (aw b.depth (by decide))) (by
  cases z:(vs.map V.toPy).any λy=>PyData.eqv y v.toPy with
  |true=>exact h1 ((Mg kv ku).mp z)
  |false=>exact h2 λw=>jd (z.symm.trans ((Mg kv ku).mpr w)))
inductive ph(h:H)(Q:Bool->Prop):V->V->Prop
 |str{x y:Str}:Q (qh y x)->ph h Q (.str y) (.str x)
 |tup{v:V}{vs:aj}:yh v vs h Q->ph h Q v (.tup vs)
 |lst{v:V}{a:L}{vs:aj}:dR h a vs->yh v vs h Q->ph h Q v (.ref a)
 |aF{v:V}{a:L}{es:af}{n:Nat}:h a=some (.aF es n)->cz 8 v->(cg es v=none->Q false)->(∀w,cg es v=some w->Q true)->ph h Q v (.ref a)
 |set{y:Str}{a:L}{ys:List Str}:h a=some (.set ys)->Q (decide (y∈ys))->ph h Q (.str y) (.ref a)
noncomputable abbrev sU(v c:V)(h:H)(Q:Bool->Prop):Prop:=ph h Q v c
theorem Xr{Q:Bool->Shared->Prop}(R:aI B h s)(T:fM B t k A)(e:h.c d=some (.aF es n))(kk:cz 8 key)(r:aP h s.heap key x)(q0:cg es key=none->∀tk,Q false {s with toks:=tk})(q1:∀w,cg es key=some w->∀tk,Q true {s with toks:=tk}):
 wpAny B.M A (contains (.ref (h.adr d)) x) Q E s:=
 R.aF e λaQ ho _ _ _=>have hT:s.TypeIs (.ref (h.adr d)) "dict":=⟨_,ho,rfl⟩
  c8 (ax (y3 hT Tb.lookup (bZ (cQ λz=>jd ((beq_builtin_none _).symm.trans z)) (ax (wpAny_callSpecialUnlessNone?_slot (name:=Str.ofString "__contains__") hT Tb (jD Tb hT entry_dict_contains
   (ax (m:=dictGet (h.adr d) x) (xt R (rp (A:=A) T (cB 100)) e kk r (λz tk=>ax (m:=Builtin.Dict.pendingKey? (h.adr d) x) (wpAny_pendingKey_other (R.mods _ _ _ e) (aG ⟨_,rfl,ID (q0 z tk)⟩)))
    λ_ _ z _ tk=>aG ⟨_,rfl,ID (q1 _ z tk)⟩)) (args_dict_contains _ _)))))))
noncomputable abbrev Vd(B:Bk)(A:Around)(s:Shared)(m:Sem Value)(z:Value):Prop:=∀{E:aa} {P:aa},(∀n,P z {s with toks:=n})->wpAny B.M A m P E s
theorem R3{op:CmpOp}(f:Bool->Bool)(ws:∀{A s} y u x t,Gives B A s (compareOp op (.str y u) (.str x t)) (.bool (f (qh y x))))
 (wt:∀{A s c x xs d as bs},Reads s.heap c (.tuple xs) as->Reads s.heap x d bs->PyData.canLayAll0 xs=true->d.canLay0=true->A.units+1+min (PyData.depthAll xs) d.depth<cLine->Gives B A s (compareOp op x c) (.bool (f (xs.any λy=>PyData.eqv y d))))
 (wl:∀{A s c x xs d as bs},Reads s.heap c (.list xs) as->Reads s.heap x d bs->PyData.canLayAll0 xs=true->d.canLay0=true->A.units+1+min (PyData.depthAll xs) d.depth<cLine->Gives B A s (compareOp op x c) (.bool (f (xs.any λy=>PyData.eqv y d))))
 (wd:∀{A s E c x} {P:aa},wpAny B.M A (contains c x) (λb s=>P (.bool (f b)) s) E s->wpAny B.M A (compareOp op x c) P E s)
 (wS:∀{A s y u a S n},s.heap.SetOf (PySem.strKind B.prog B.w) a S n->Vd B A s (compareOp op (.str y u) (.ref a)) (.bool (f (S y)))):fb B t k (compareOp op) λv c h Q=>sU v c h λb=>Q (.bool (f b)) h:=λA h s Q E v c x y R T rv rc q=>by
 induction q with
 |str q=>exact rv.eZ λ_=>rc.eZ λ_=>ws _ _ _ _ (.iQ (v:=.bool _) R rfl q)
 |tup q=>cases q with
  |mk ds d h1 h2 h3 h4 h5 q=>exact((Rd.tup h1).reads R rc).elim λ_ z1=>(h2.reads R rv).elim λ_ z2=>wt z1 z2 h3 h4 (rp T h5) (.iQ (v:=.bool _) R rfl q)
 |lst e q=>cases q with
  |mk ds d h1 h2 h3 h4 h5 q=>exact((Rd.lst e h1).reads R rc).elim λ_ z1=>(h2.reads R rv).elim λ_ z2=>wl z1 z2 h3 h4 (rp T h5) (.iQ (v:=.bool _) R rfl q)
 |aF e kk q0 q1=>exact rc.cA λ_=>wd (Xr R T e kk rv (λz tk=>.val (v:=.bool _) R rfl (q0 z)) λw z tk=>.val (v:=.bool _) R rfl (q1 w z))
 |set e q=>exact rc.cA λ_=>rv.eZ λ_=>R.set e λ_ _ _ ho S hf=>wS (S.of (prog:=B.prog) ho hf) λ_=>.val (v:=.bool _) R rfl q
theorem afb:fb B t k (compareOp .In) λv c h Q=>sU v c h λb=>Q (.bool b) h:=R3 id (λ_ _ _ _=>PyProof.Rows.in_str) (λr1 r2 a b u=>SeqAt.in_tuple_reads r1 r2 a b u) (λr1 r2 a b u=>SeqAt.in_list_reads r1 r2 a b u) (λw=>ax (dK w (λ_ _ e=>aG e) λ_ _ e=>e)) λS _ _ q=>wpAny_inSet_of (iF _) rfl S (q _)
theorem afk:fb B t k (compareOp .NotIn) λv c h Q=>sU v c h λb=>Q (.bool (!b)) h:=R3 not (λ_ _ _ _=>PyProof.Rows.notIn_str) (λr1 r2 a b u=>SeqAt.notIn_tuple_reads r1 r2 a b u) (λr1 r2 a b u=>SeqAt.notIn_list_reads r1 r2 a b u) (λw=>ax (dK w (λ_ _ e=>aG e) λ_ _ e=>e)) λS _ _ q=>wpAny_notInSet_of (iF _) rfl S (q _)
inductive uy(h:H)(Q:ab):aj->Prop
 |str{x:Str}:x.length<=1000000->Q (.int x.length) h->uy h Q [.str x]
 |tup{vs:aj}:vs.length<=1000000->Q (.int vs.length) h->uy h Q [.tup vs]
 |lst{a:L}{vs:aj}:dR h a vs->vs.length<=1000000->Q (.int vs.length) h->uy h Q [.ref a]
 |aF{a:L}{es:af}{n:Nat}:h a=some (.aF es n)->es.length<=1000000->Q (.int es.length) h->uy h Q [.ref a]
 |set{a:L}{ys:List Str}:h a=some (.set ys)->Q (.int ys.length) h->uy h Q [.ref a]
noncomputable abbrev AT(us:aj)(h:H)(Q:ab):Prop:=uy h Q us
theorem EPost.len{Q:ab}{n m tk vU:Nat}(R:aI B h s)(e:n=m)(q:Q (.int n) h.c):EPost B h s Q (.int m tk) {s with toks:=vU}:=.val (v:=.int n) R ⟨tk,au (λi:Nat=>Value.int i tk) e.symm⟩ q
theorem MA:dp B t k (.builtin "len") AT:=λA h s Q E vs xs R T rs q=>by
 induction q with
 |str l q=>exact rs.one λx rx=>rx.eZ λ_=>PySem.P.len_str (yt l) (.len R rfl q)
 |tup l q=>exact rs.one λx rx=>rx.iP λ_ _ hx rx=>PySem.P.len_tuple hx (rx.size▸yt l) (.len R rx.size q)
 |lst e l q=>exact rs.one λx rx=>rx.cA λ_=>dR.rep R e λ_ _ hx rx=>PySem.Calls.call_len_list ⟨_,hx,rfl,_,rfl⟩ (rx.size▸tv l) (.len R rx.size q)
 |aF e l q=>exact rs.one λx rx=>rx.cA λ_=>R.aF e λ_ ho er _ _=>aau (R.mods _ _ _ e) ho (er.length▸l) (.len R er.length q)
 |set e q=>exact rs.one λx rx=>rx.cA λ_=>R.set e λ_ _ _ ho S hf=>call_len_set ho ⟨rfl,rfl,rfl⟩ rfl hf (tv (aw (cN S.small) (by decide))) (.len R S.size.symm q)
inductive CZ(h:H)(Q:ab):aj->Prop
 |two{a:L}{key:V}{es:af}{n:Nat}:h a=some (.aF es n)->cz 8 key->Q ((cg es key).getD .none) h->CZ h Q [.ref a,key]
 |three{a:L}{key dv:V}{es:af}{n:Nat}:h a=some (.aF es n)->cz 8 key->Q ((cg es key).getD dv) h->CZ h Q [.ref a,key,dv]
noncomputable abbrev N4(us:aj)(h:H)(Q:ab):Prop:=CZ h Q us
theorem WQ:dp B t k (.builtin "dict.get") N4:=λA h s Q E vs xs R T rs q=>by
 have hu:=rp (A:=A) T (cB 100)
 induction q with
 |two e kk q=>exact rs.two λx y rx ry=>rx.cA λ_=>R.aF e λ_ ho _ _ _=>jD JL ⟨_,ho,rfl⟩ JK (ax (m:=dictGet (h.adr _) y) (xt R hu e kk ry
  (λz tk=>ax (m:=Builtin.Dict.missed (h.adr _) y) (IA (R.mods _ _ _ e) (aG ⟨.none,rfl,.val (v:=.none) R rfl (z▸q:Q (Option.none.getD .none) h.c)⟩))) λv w z mL tk=>aG ⟨w,rfl,.val R mL (z▸q:Q ((some v).getD .none) h.c)⟩)) (F.args_dict_get_2 _ _)
 | @three _ _ dv _ _ e kk q=>exact rs.three λx y u rx ry ru=>rx.cA λ_=>R.aF e λ_ ho _ _ _=>jD JL ⟨_,ho,rfl⟩ JK (ax (m:=dictGet (h.adr _) y) (xt R hu e kk ry
  (λz tk=>ax (m:=Builtin.Dict.missed (h.adr _) y) (IA (R.mods _ _ _ e) (aG ⟨u,rfl,.val R ru (z▸q:Q (Option.none.getD dv) h.c)⟩))) λv w z mL tk=>aG ⟨w,rfl,.val R mL (z▸q:Q ((some v).getD dv) h.c)⟩)) (F.args_dict_get_3 _ _ _)
end
inductive Fl where
 |next|brk|cont
 |ret(v:V)
inductive rQ(h:HA)(g:Heap):Fl->Flow->Prop
 |next:rQ h g .next .next
 |brk:rQ h g .brk .brk
 |cont:rQ h g .cont .cont
 |ret{v:V}{x:Value}:aP h g v x->rQ h g (.ret v) (.ret x)
inductive iZ(B:Bk)(nm:ag)(env:Env)(h:HA)(s:Shared)(Q:Fl->Fm->H->Prop)(fl:Flow)(s':Shared):Prop
 |mk(f:Fl)(cC:Loc)(h':HA):rQ h' s'.heap f fl->aI B h' s'->iV B env cC h' s'.heap->Step (dM env) h s.heap h' s'.heap->Q f (cj nm cC) h'.c->iZ B nm env h s Q fl s'
noncomputable abbrev SW:=Fm->H->(Fl->Fm->H->Prop)->Prop
noncomputable def cT(B:Bk)(t:Bool)(k:Nat)(nm:ag)(st:Stmt)(m:SW):Prop:=
 ∀env loc h s A (Q:Fl->Fm->H->Prop) (E:aa),At B t k nm env loc h s A->m (cj nm loc) h.c Q->wpAny B.M A (exec st env) (iZ B nm env h s Q) E s
noncomputable def fQ(B:Bk)(t:Bool)(k:Nat)(nm:ag)(st:List Stmt)(m:SW):Prop:=
 ∀env loc h s A (Q:Fl->Fm->H->Prop) (E:aa),At B t k nm env loc h s A->m (cj nm loc) h.c Q->wpAny B.M A (execs st env) (iZ B nm env h s Q) E s
noncomputable abbrev z4(nm:ag)(x:Str):Prop:=nm.lookup x=some .local\/nm.lookup x=some .cell
section
variable{B:Bk}{t:Bool}{k:Nat}{nm:ag}{env:Env}{loc cC:Loc}{h az:HA}{s s₁ s':Shared}{a:Addr}{P:Addr->Prop}{g':Heap}{tk:Nat}{A:Around}{E:aa}{x z:Str}{v:V}{y:Value}{Q:Fl->Fm->H->Prop}{st:Stmt}{Tm:List Stmt}{m n:SW}{fl:Flow}{f:Fl}{p pos:Pos}{e:Expr}{me:EW}
theorem aI.frame(F:iV B env loc h s.heap)(R:aI B h s)(ha:dM env a)(hP:P a)(same:∀b,b≠a->g'.get? b=s.heap.get? b)(al:∃o,g'.get? a=some o/\(a∈B.cW->∃es ep,o.data= .dict es ep)):
 aI B h {s with heap:=g',toks:=tk}/\Step P h s.heap h g'/\dH h s.heap h g':=by
 have st:dH h s.heap h g':=⟨λb xs q=>(same b λz=>F.qW _ _ ha (z▸q)).trans q,λ_ e=>⟨e,rfl⟩⟩
 refine⟨R.gd (s':={s with heap:=g',toks:=tk}) (λb o e=>(same b λz=>cK e (z▸F.fresh _ ha)).trans (R.keep b o e)) st (λb u=>same b λz=>F.off a ha (z▸u)) (λL hL=>⟨(R.cW L hL).1,(R.cW L hL).2.1,?_⟩) rfl rfl,
  (Step.but (F:=(·=a)) same λb e=>al.elim λ_ z=>e▸dj z.1).wide λ_ e=>e▸hP,st⟩
 exact(aN (L=a)).elim (λz=>al.elim λo w=>(w.2 (z▸hL)).elim λes w'=>w'.elim λep w'=>⟨o,es,ep,z▸w.1,w'⟩) λz=>(R.cW L hL).2.2.imp λ_ w=>w.imp λ_ w=>w.imp λ_ w=>⟨(same L z).trans w.1,w.2⟩
theorem SX:loc.set x v x=some v:=bz rfl
theorem BH(n:z≠x):loc.set x v z=loc z:=bD n
theorem yP{Q:Unit->Shared->Prop}(a:At B t k nm env loc h s A)(r:aP h s.heap v y)(hx:nm.lookup x=some .local)(q:∀s',At B t k nm env (loc.set x v) h s' A->Step (oF env) h s.heap h s'.heap->Q () s'):wpAny B.M A (storeName env x y) Q E s:=by
 have kx:=a.S.loc x hx
 have F:=a.F
 cases F.ns with
 |mk m n hm=>
  refine wpAny_storeName_local kx n (λg' n' sb=>?_) (by rw [a.S.kind];rfl)
  have zz:=aI.frame F a.R (a:=env.locals) (.inl rfl) (P:=oF env) rfl (tk:=s.toks+1) sb.2 (n'.imp λo z=>z.elim λes z=>z.elim λep z=>⟨z.1,λ_=>⟨es,ep,z.2.1⟩⟩)
  refine q _ ⟨a.S,⟨.mk _ n' λz w e kz=>(aN (z=x)).elim (λhz=>?_) λhz=>?_,λz w e kz=>?_,F.off,F.fresh,F.cells,λu c e=>(F.sW u c e).imp λo w=>w.imp λy w=>⟨(sb.2 c (F.apart u c e)).trans w.1,w.2⟩,F.inj,F.apart,F.frame⟩,zz.1,a.T⟩ zz.2.1
  ·exact⟨y,bz hz,bc (SX.symm.trans (hz▸e))▸r.bM zz.2.2⟩
  ·exact(hm z w ((BH hz).symm.trans e) kz).imp λu w=>⟨(bD hz).trans w.1,w.2.bM zz.2.2⟩
  ·have hz:z≠x:=λe=>kz.elim (λkz=>nomatch (e▸kx).symm.trans kz) λkz=>nomatch (e▸kx).symm.trans kz
   exact(F.cell z w ((BH hz).symm.trans e) kz).step zz.2.2 λc o y e eo _=>(sb.2 c (F.apart z c e)).trans eo
theorem HZ{Q:Unit->Shared->Prop}(a:At B t k nm env loc h s A)(r:aP h s.heap v y)(hx:z4 nm x)(q:∀s',At B t k nm env (loc.set x v) h s' A->Step (dM env) h s.heap h s'.heap->Q () s'):wpAny B.M A (storeName env x y) Q E s:=by
 refine hx.elim (λhx=>yP a r hx λs' a' S'=>q s' a' (S'.wide λ_ e=>.inl e)) λhx=>?_
 have kx:=a.S.ce x hx
 have F:=a.F
 refine(F.cells x kx).elim λc hc=>(F.sW x c hc).elim λo w=>w.elim λu w=>wpAny_storeName_cell a.S.kind kx hc ⟨o,w⟩ λg' ic sb=>ic.elim λo' ic=>?_
 have zz:=aI.frame F a.R (a:=c) (.inr ⟨x,hc⟩) (P:=dM env) (.inr ⟨x,hc⟩) (tk:=s.toks) sb.2 ⟨o',ic.1,λhc=>(a.R.cW c hc).2.2.elim λob z=>z.elim λes z=>z.elim λep z=>Data.noConfusion ((au Obj.data (bc (w.1.symm.trans z.1))▸w.2:ob.data=_).symm.trans z.2)⟩
 cases F.ns with
 |mk m n hm=>
  refine q _ ⟨a.S,⟨.mk m (n.sameBut sb (F.apart x c hc).symm) λz w e kz=>?_,λz w e kz=>(aN (z=x)).elim (λhz=>?_) λhz=>?_,F.off,F.fresh,F.cells,λu c' e=>(aN (c'=c)).elim (λz=>⟨o',_,z▸ic.1,ic.2⟩) λz=>(F.sW u c' e).imp λo w=>w.imp λy w=>⟨(sb.2 c' z).trans w.1,w.2⟩,F.inj,F.apart,F.frame⟩,zz.1,a.T⟩ zz.2.1
  ·exact(hm z w ((BH λhz=>nomatch (hz▸kx).symm.trans kz).symm.trans e) kz).imp λu w=>⟨w.1,w.2.bM zz.2.2⟩
  ·exact .mk c o' y (hz▸hc) ic.1 ic.2 (bc (SX.symm.trans (hz▸e))▸r.bM zz.2.2)
  ·exact(F.cell z w ((BH hz).symm.trans e) kz).step zz.2.2 λc' o y e eo _=>(sb.2 c' λq=>hz (F.inj z x c (q▸e) hc)).trans eo
theorem iZ.mono(S:Step (dM env) h s.heap az s₁.heap)(e:iZ B nm env az s₁ Q fl s'):iZ B nm env h s Q fl s':=by
 cases e with
 |mk f l h' a b c d e=>exact .mk f l h' a b c (S.trans d) e
theorem Cf{m:Sem Flow}{cr:Shared}(S:Step (dM env) h s.heap az s₁.heap)(w:wpAny B.M A m (iZ B nm env az s₁ Q) E cr):wpAny B.M A m (iZ B nm env h s Q) E cr:=dK w (λ_ _ e=>e.mono S) λ_ _ e=>e
theorem Av{m:Sem Flow}(a:At B t k nm env loc h s A)(w:wpAny B.M A m (iZ B nm env h s Q) E s){P:Flow->Shared->Prop}
 (kk:∀f fl oM az s₁,rQ az s₁.heap f fl->At B t k nm env oM az s₁ A->Step (dM env) h s.heap az s₁.heap->Q f (cj nm oM) az.c->P fl s₁):wpAny B.M A m P E s:=
 dK w (λfl s₁ z=>by cases z with|mk f l az rf R F S q=>exact kk f fl l az s₁ rf ⟨a.S,F,R,a.T⟩ S q) λ_ _ e=>e
theorem iZ.done(a:At B t k nm env loc h s A)(S:Step (dM env) az s₁.heap h s.heap)(rf:rQ h s.heap f fl)(q:Q f (cj nm loc) h.c):iZ B nm env az s₁ Q fl s:=.mk f loc h rf a.R a.F S q
theorem fQ.nil:fQ B t k nm [] λloc h Q=>Q .next loc h:=λ_ _ _ _ _ _ _ a q=>Iz (.done a .refl .next q)
noncomputable def aB(a b:SW):SW:=λloc h Q=>a loc h λf cC h'=>f.rec (b cC h' Q) (Q .brk cC h') (Q .cont cC h') λv=>Q (.ret v) cC h'
theorem fQ.cons(h1:cT B t k nm st m)(h2:fQ B t k nm Tm n):fQ B t k nm (st::Tm) (aB m n):=λenv loc h s A Q E a q=>
 Ug (Av a (h1 env loc h s A _ E a q) λf fl oM az s₁ rf bG aR aX=>by
  induction rf with
  |next=>exact Cf aR (h2 env oM az s₁ A Q E bG aX)
  |brk=>exact .done bG aR .brk aX
  |cont=>exact .done bG aR .cont aX
  |ret r=>exact .done bG aR (.ret r) aX)
theorem fQ.one(h1:cT B t k nm st m):fQ B t k nm [st] m:=λenv loc h s A Q E a q=>Ug (dK (h1 env loc h s A Q E a q) (λfl s₁ z=>by
 cases fl with
 |next=>exact Iz z
 |_=>exact z) λ_ _ e=>e)
theorem NX(d:(nm.map (·.1)).Nodup)(hx:z4 nm x):cj nm (loc.set x v)=(cj nm loc).set (gq nm x) (some v):=hx.elim (sN d) (sN d)
theorem cT.assign(he:aV B t k nm e me)(hx:z4 nm x)(hs:∀env,iC env nm->swapsWith e (some (.Name x p)) pos.line env=pure false):
 cT B t k nm (.Assign [.Name x p] e pos) λg h Q=>me g h λv h'=>Q .next (g.set (gq nm x) (some v)) h':=λenv _ _ _ _ _ _ a q=>
 wpAny_Assign_Name (he.go a q λ_ _ _ _ r _ aR bG aX=>HZ bG r hx λ_ a' S'=>.done a' (aR.all.trans S') .next (NX a.S.nodup hx▸aX)) (hs env a.S)
theorem cT.ret(he:aV B t k nm e me):cT B t k nm (.Return (some e) pos) λloc h Q=>me loc h λv h'=>Q (.ret v) loc h':=λ_ _ _ _ _ _ _ a q=>wpAny_Return_some (he.go a q λ_ _ _ _ r _ aR bG aX=>.done bG aR.all (.ret r) aX)
theorem cT.agn:cT B t k nm (.Return none pos) λloc h Q=>Q (.ret .none) loc h:=λ_ _ _ _ _ _ _ a q=>wpAny_Return_none (.done a .refl (.ret (v:=.none) rfl) q)
theorem cT.expr(he:aV B t k nm e me)(hi:∀env,iC env nm->interactive env=false)(hs:∀env,iC env nm->swapsWith e none pos.line env=pure false):
 cT B t k nm (.Expr e pos) λloc h Q=>me loc h λ_ h'=>Q .next loc h':=λenv _ _ _ _ _ _ a q=>wpAny_Expr_any (he.go a q λ_ _ _ _ _ _ aR bG aX=>.done bG aR.all .next aX) (hi env a.S) (hs env a.S)
theorem cT.pass:cT B t k nm (.Pass pos) λloc h Q=>Q .next loc h:=λ_ _ _ _ _ _ _ a q=>wpAny_Pass (.done a .refl .next q)
theorem cT.brk:cT B t k nm (.Break pos) λloc h Q=>Q .brk loc h:=λ_ _ _ _ _ _ _ a q=>ax (jY (aG (.done a .refl .brk q)))
theorem cT.cont:cT B t k nm (.Continue pos) λloc h Q=>Q .cont loc h:=λ_ _ _ _ _ _ _ a q=>ax (jY (aG (.done a .refl .cont q)))
section
variable{c:Expr}{b o:List Stmt}{mc:BW}{mb mo:SW}
theorem cT.ZL(hc:gZ B t k nm c mc)(hb:fQ B t k nm b mb)(ho:fQ B t k nm o mo):cT B t k nm (.If c b o pos) λloc h Q=>mc loc h λx h'=>if x then mb loc h' Q else mo loc h' Q:=λenv loc h s A Q E a q=>
 wpAny_If (hc.go a q λx az s₁ _ aR bG aX=>by
  cases x
  ·exact Cf aR.all (ho env loc az s₁ A Q E bG aX)
  ·exact Cf aR.all (hb env loc az s₁ A Q E bG aX))
noncomputable def yU(next:Fm->H->Prop)(Q:Fl->Fm->H->Prop):Fl->Fm->H->Prop:=λf loc h=>f.rec (next loc h) (Q .next loc h) (next loc h) λv=>Q (.ret v) loc h
noncomputable def o5(mc:BW)(mb mo:SW):SW:=λloc h Q=>∀P:Fm->H->Prop,(∀loc h,(mc loc h λx h'=>if x then mb loc h' (yU P Q) else mo loc h' Q)->P loc h)->P loc h
theorem ai7{R:Result->Shared->Prop}{P:Fm->H->Prop}(hc:gZ B t k nm c mc)(hb:fQ B t k nm b mb)(ho:fQ B t k nm o mo)(a:At B t k nm env loc h s A)(q:mc (cj nm loc) h.c λx h'=>if x then mb (cj nm loc) h' (yU P Q) else mo (cj nm loc) h' Q)
 (ok:∀f s',iZ B nm env h s Q f s'->R (.ok f) s')(re:∀cC h' s',P (cj nm cC) h'.c->At B t k nm env cC h' s' A->Step (dM env) h s.heap h' s'.heap->codeAny B.M A (.whileLoop c b o env) R s'):codeAny B.M A (.whileLoop c b o env) R s:=by
 refine xp ?_
 rw [Around.under_of_weight (c:=.whileLoop c b o env) rfl rfl]
 refine Ul (ax (hc.go a q λx az s₁ _ aR bG aX=>?_))
 cases x
 ·exact ax (dK (ho env loc az s₁ A Q _ bG aX) (λ_ _ e=>aG (ok _ _ (e.mono aR.all))) λ_ _ e=>e)
 ·refine ax (Av bG (hb env loc az s₁ A _ _ bG aX) λf fl mB aU cr rf dh be ck=>?_)
  induction rf with
  |next=>exact aG ⟨rfl,re mB aU cr ck dh (aR.all.trans be)⟩
  |cont=>exact aG ⟨rfl,re mB aU cr ck dh (aR.all.trans be)⟩
  |brk=>exact aG (ok _ _ (.done dh (aR.all.trans be) .next ck))
  |ret r=>exact aG (ok _ _ (.done dh (aR.all.trans be) (.ret r) ck))
theorem cT.ai6(hc:gZ B t k nm c mc)(hb:fQ B t k nm b mb)(ho:fQ B t k nm o mo):cT B t k nm (.While c b o pos) (o5 mc mb mo):=λenv loc h s A Q E a q=>
 wpAny_While (q (λg hc=>∀(cC:Loc) (h':HA) (s':Shared),cj nm cC=g->h'.c=hc->At B t k nm env cC h' s' A->Step (dM env) h s.heap h' s'.heap->
  codeAny B.M A (.whileLoop c b o env) (λr s'=>wpAny_runOwn.match_1 (λ_=>Prop) r (λf=>iZ B nm env h s Q f s') λe=>cameBackBy B.M A env E e s') s') (λ_ _ q' cC h' s' e1 e2 a' S'=>ai7 hc hb ho a' (e1▸e2▸q') (λ_ _ e=>e.mono S') λcC h' s' p a S=>p cC h' s' rfl rfl a (S'.trans S)) loc h s rfl rfl a .refl)
end
end
structure pc(bS:List Addr)(s s':Shared):Prop where
 h:∀b o,b∉bS->s.heap.get? b=some o->s'.heap.get? b=some o
 os:s'.os=s.os
 gens:s'.gens=s.gens
inductive wn(o:Obj):Prop
 |mk{fs:aq}:o.cls≠.type "tuple"->o.data= .fields fs->wn o
structure Apart(B:Bk)(env:Env)(h:HA)(g:Heap)(a:Addr):Prop where
 n:¬h.used a
 b:B.av.get? a=none
 f:¬dM env a
 t:∀xs,¬TupAt g a xs
 k:a∉B.cW
noncomputable abbrev TW:=V->Fm->H->(Fm->H->Prop)->Prop
noncomputable def xK(g:Bool)(env:Env):Addr->Prop:=g.rec (oF env) (dM env)
theorem YH{g:Bool}{env:Env}{b:Addr}(e:xK g env b):dM env b:=by
 cases g with
 |false=>exact .inl e
 |true=>exact e
inductive qI(B:Bk)(nm:ag)(g:Bool)(env:Env)(h:HA)(s:Shared)(Q:Fm->H->Prop)(u:Unit)(s':Shared):Prop
 |mk(cC:Loc)(h':HA):aI B h' s'->iV B env cC h' s'.heap->Step (xK g env) h s.heap h' s'.heap->Q (cj nm cC) h'.c->qI B nm g env h s Q u s'
noncomputable def fy(B:Bk)(g:Bool)(t:Bool)(k:Nat)(nm:ag)(e:Expr)(m:TW):Prop:=
 ∀env loc h s A (Q:Fm->H->Prop) (E:aa) v x,At B t k nm env loc h s A->aP h s.heap v x->m v (cj nm loc) h.c Q->wpAny B.M A (assign e env x) (qI B nm g env h s Q) E s
noncomputable def BO(r:Option (Option V))(f:V->Prop)(e:Prop):Prop:=r.elim False λo=>o.elim e f
noncomputable abbrev jQ:=H->Nat->Option (Option V)
noncomputable def Aw(src:jQ)(tw:TW)(mb mo:SW):SW:=λloc h Q=>∀P:Nat->Fm->H->Prop,
 (∀i loc h,BO (src h i) (λv=>tw v loc h λcC h'=>mb cC h' (yU (P (i+1)) Q)) (mo loc h Q)->P i loc h)->P 0 loc h
structure je(B:Bk)(it:Addr)(bS:List Addr)(jW:Expr->Prop)(src:jQ)(P:Nat->HA->Heap->Prop):Prop where
 item:∀{target:Expr} {A:Around} {h:HA} {s:Shared} {i:Nat} {v:V} {Q:Option Value->Shared->Prop} {E:aa},jW target->A.handled=none->aI B h s->P i h s.heap->src h.c i=some (some v)->
  (∀x s',(∀{Q':Unit->Shared->Prop} {E':aa},(∀BC,aP h BC.heap v x->P (i+1) h BC.heap->pc bS s BC->Q' () BC)->wpAny B.M A (letOwnedTupleGo target (.ref it) x) Q' E' s')->Q (some x) s')->wpAny B.M A (pyNext (.ref it)) Q E s
 done:∀{A:Around} {h:HA} {s:Shared} {i:Nat} {Q:Option Value->Shared->Prop} {E:aa},A.handled=none->aI B h s->P i h s.heap->src h.c i=some none->(∀s',pc bS s s'->Q none s')->wpAny B.M A (pyNext (.ref it)) Q E s
 bM:∀{i:Nat} {h h':HA} {g g':Heap},P i h g->(∀a∈bS,g'.get? a=g.get? a)->dH h g h' g'->P i h' g'
 at_:∀{i:Nat} {h:HA} {g:Heap},P i h g->∀a∈bS,∃o,g.get? a=some o/\wn o
 self:∀{A:Around} {h:HA} {s:Shared} {i:Nat} {Q:aa} {E:aa},A.handled=none->P i h s.heap->Q (.ref it) s->wpAny B.M A (pyIter (.ref it)) Q E s
section
variable{B:Bk}{t g:Bool}{k:Nat}{nm:ag}{env:Env}{loc:Loc}{h h' av:HA}{s s' s₀:Shared}{bS:List Addr}{g₁:Heap}{A:Around}{F:Addr->Prop}{E:aa}{x:Str}{pos:Pos}
theorem At.jq(a:At B t k nm env loc h s A)(ap:∀a∈bS,Apart B env h s.heap a)(ka:pc bS s s'):At B t k nm env loc h s' A:=
 have st:dH h s.heap h s'.heap:=⟨λb xs q=>ka.h b _ (λm=>(ap b m).t xs q) q,λ_ e=>⟨e,rfl⟩⟩
 ⟨a.S,a.F.gd st a.F.off (λo e=>⟨o,ka.h _ o (λm=>(ap _ m).f (.inl rfl)) e,rfl⟩) λx c o y e eo _=>ka.h c o (λm=>(ap c m).f (.inr ⟨x,e⟩)) eo,
  a.R.gd (λb o e=>ka.h b o (λm=>cK e (ap b m).b) (a.R.keep b o e)) st (λb u=>gQ (a.R.vd u) λo z=>(ka.h b o (λm=>(ap b m).n u) z).trans z.symm)
   (λL hL=>⟨(a.R.cW L hL).1,(a.R.cW L hL).2.1,(a.R.cW L hL).2.2.imp λob z=>z.imp λes z=>z.imp λep z=>⟨ka.h L ob (λm=>(ap L m).k hL) z.1,z.2⟩⟩) ka.os ka.gens,a.T⟩
theorem aI.apart{a:Addr}(R:aI B h s)(n:¬h.used a)(b:B.av.get? a=none)(f:¬dM env a)(o:∃o,s.heap.get? a=some o/\wn o):Apart B env h s.heap a:=o.elim λo w=>by
 cases w.2 with
 |mk c d=>exact⟨n,b,f,λxs q=>c (bc (q.symm.trans w.1)▸rfl),λhL=>(R.cW a hL).2.2.elim λob z=>z.elim λes z=>z.elim λep z=>Data.noConfusion (z.2.symm.trans (bc (w.1.symm.trans z.1)▸d))⟩
theorem Step.jq(S:Step F h g₁ h' s.heap)(k:pc bS s s')(hn:∀a∈bS,g₁.get? a=none):Step F h g₁ h' s'.heap:=
 ⟨λb o e q f=>(S.oL b o e q f).imp λo' z=>⟨k.h b o' (λm=>cK e (hn b m)) z.1,z.2⟩,S.grow,S.new,λb e=>gQ (S.alive b e) λo z=>dj (k.h b o (λm=>e (hn b m)) z)⟩
theorem fy.go{e:Expr}{m:TW}{v:V}{y:Value}{Q:Fm->H->Prop}(ht:fy B g t k nm e m)(a:At B t k nm env loc h s A)(r:aP h s.heap v y)(q:m v (cj nm loc) h.c Q){P:Unit->Shared->Prop}
 (kk:∀oM az s₁,At B t k nm env oM az s₁ A->Step (xK g env) h s.heap az s₁.heap->Q (cj nm oM) az.c->P () s₁):wpAny B.M A (assign e env y) P E s:=
 dK (ht env loc h s A Q E v y a r q) (λ_ s₁ z=>by cases z with|mk l az R F S q=>exact kk l az s₁ ⟨a.S,F,R,a.T⟩ S q) λ_ _ e=>e
section
variable{target:Expr}{it:Addr}{jW:Expr->Prop}{b o:List Stmt}{src:jQ}{P:Nat->HA->Heap->Prop}{tw:TW}{mb mo:SW}{Q:Fl->Fm->H->Prop}
theorem YG{R:Result->Shared->Prop}{X:Fm->H->Prop}{i:Nat}(I:je B it bS jW src P)(p5:jW target)(ht:fy B true true k nm target tw)(hb:fQ B true k nm b mb)(ho:fQ B true k nm o mo)
 (a:At B true k nm env loc h s A)(St:Step (dM env) av s₀.heap h s.heap)(hP:P i h s.heap)(hu:∀a∈bS,¬h.used a)(hn:∀a∈bS,B.av.get? a=none/\¬dM env a/\s₀.heap.get? a=none)
 (q:BO (src h.c i) (λv=>tw v (cj nm loc) h.c λcC h'=>mb cC h' (yU (X) Q)) (mo (cj nm loc) h.c Q))(ok:∀f s',iZ B nm env av s₀ Q f s'->R (.ok f) s')
 (re:∀cC h' s',X (cj nm cC) h'.c->At B true k nm env cC h' s' A->Step (dM env) av s₀.heap h' s'.heap->P (i+1) h' s'.heap->(∀a∈bS,¬h'.used a)->codeAny B.M A (.forLoop target (.ref it) b o env) R s'):
 codeAny B.M A (.forLoop target (.ref it) b o env) R s:=by
 have ap:∀a∈bS,Apart B env h s.heap a:=λb m=>a.R.apart (hu b m) (hn b m).1 (hn b m).2.1 (I.at_ hP b m)
 have new:∀a∈bS,s₀.heap.get? a=none:=λa m=>(hn a m).2.2
 refine xp ?_
 rw [Around.under_of_weight (c:=.forLoop target (.ref it) b o env) rfl rfl]
 refine Ul (ax (jY (ax (Ul ?_))))
 cases e:src h.c i with
 |none=>rw [e] at q;exact q.elim
 |some r=>
  rw [e] at q
  cases r with
  |none=>exact I.done (a.T.handled rfl) a.R hP e λs₁ as=>aG ⟨rfl,codeAny_block (dK (ho env loc h s₁ A Q _ (a.jq ap as) q) (λ_ _ e=>ok _ _ (e.mono (St.jq as new))) λ_ _ e=>e)⟩
  |some v=>
   refine I.item p5 (a.T.handled rfl) a.R hP e λx s₁ F9=>ax (F9 λcr rx hP as=>ax (ht.go (a.jq ap as) rx q λmB aU fL dh be ck=>ax (Av dh (hb env mB aU fL A _ _ dh ck) λf fl Pe c6 kM rf gJ eN fX=>?_)))
   have be:=be.trans eN
   have eN:=(St.jq as new).trans be
   have go:X (cj nm Pe) c6.c->codeAny B.M A (.forLoop target (.ref it) b o env) R kM:=λz=>re Pe c6 kM z gJ eN (I.bM hP (λa m=>(I.at_ hP a m).elim λo w=>by
    cases w.2 with
    |mk _ d=>exact(be.keep a o w.1 (hu a m) (hn a m).2.1 λ_ _ z=>Data.noConfusion (d.symm.trans z)).trans w.1.symm) (be.stays (a.jq ap as).R (a.jq ap as).F.qW)) λa m=>be.unused (hu a m) ((I.at_ hP a m).elim λ_ w=>dj w.1)
   induction rf with
   |next=>exact aG ⟨rfl,go fX⟩
   |cont=>exact aG ⟨rfl,go fX⟩
   |brk=>exact aG (ok _ _ (.done gJ eN .next fX))
   |ret r=>exact aG (ok _ _ (.done gJ eN (.ret r) fX))
theorem YF(I:je B it bS jW src P)(p5:jW target)(ht:fy B true true k nm target tw)(hb:fQ B true k nm b mb)(ho:fQ B true k nm o mo)
 (a:At B true k nm env loc h s A)(St:Step (dM env) av s₀.heap h s.heap)(hP:P 0 h s.heap)(hu:∀a∈bS,¬h.used a)(hn:∀a∈bS,B.av.get? a=none/\¬dM env a/\s₀.heap.get? a=none)(q:Aw src tw mb mo (cj nm loc) h.c Q)
 {R:Result->Shared->Prop}(ok:∀f s',iZ B nm env av s₀ Q f s'->R (.ok f) s'):codeAny B.M A (.forLoop target (.ref it) b o env) R s:=
 q (λi gg hc=>∀(cC:Loc) (h':HA) (s':Shared),cj nm cC=gg->h'.c=hc->At B true k nm env cC h' s' A->Step (dM env) av s₀.heap h' s'.heap->P i h' s'.heap->(∀a∈bS,¬h'.used a)->codeAny B.M A (.forLoop target (.ref it) b o env) R s')
  (λ_ _ _ q' _ _ _ e1 e2 a' S' Fe Fs=>by cases e1;cases e2;exact YG I p5 ht hb ho a' S' Fe Fs hn q' ok λ_ _ _ p=>p _ _ _ rfl rfl) loc h s rfl rfl a St hP hu
end
theorem fy.name(hx:z4 nm x):fy B true t k nm (.Name x pos) λv g h Q=>Q (g.set (gq nm x) (some v)) h:=λ_ _ _ _ _ _ _ _ _ a r q=>
 ax (jY (Cd (HZ a r hx λ_ a' S'=>.mk _ _ a'.R a'.F S' (NX a.S.nodup hx▸q))))
theorem fy.aet(hx:nm.lookup x=some .local):fy B g t k nm (.Name x pos) λv g h Q=>Q (g.set (gq nm x) (some v)) h:=λ_ _ _ _ _ _ _ _ _ a r q=>
 ax (jY (Cd (yP a r hx λ_ a' S'=>.mk _ _ a'.R a'.F (S'.wide λ_ e=>by cases g with|false=>exact e|true=>exact .inl e) (sN a.S.nodup hx▸q))))
end
noncomputable abbrev qJ:Expr->Prop:=λe=>∃elts c pos,e= .Tuple elts c pos
noncomputable abbrev KG:Expr->Prop:=λe=>∃x pos,e= .Name x pos
noncomputable abbrev n8:Expr->Prop:=λe=>KG e\/qJ e
noncomputable def Tg(b:Bool)(e:Expr):Prop:=b.rec (KG e) (qJ e)
theorem Tg.any{b:Bool}{e:Expr}(h:Tg b e):n8 e:=by
 cases b with
 |false=>exact .inl h
 |true=>exact .inr h
noncomputable abbrev owners:List String:=["enumerate","zip","dict_itemiterator","dict_reverseitemiterator","odict_iterator","itertools.zip_longest","itertools.pairwise"]
noncomputable abbrev dq(g:Heap)(it:Addr)(c:String)(fs:aq):Prop:=∃o,g.get? it=some o/\o.cls= .type c/\o.data= .fields fs
section
variable{prog:Program}{w:World}{A:Around}{E:aa}{s:Shared}{it d a:Addr}{i n m:Nat}{aQ:List DictEntry}{target:Expr}{x:Value}{c:String}{fs:aq}{p:Pos}{g g':Heap}
theorem YS{es:List Expr}{k:Nat}{Q:Unit->Shared->Prop}(h:dq s.heap it c fs)(hn:owners.contains c=false)(q:Q () s):wpAny (model prog w) A (letOwnedTupleGo (.Tuple es k p) (.ref it) x) Q E s:=h.elim λo h=>by
 cases x with
 |ref a=>
  refine ax (wpAny_load h.1 ?_)
  rw [h.2.1,h.2.2]
  exact bZ (cQ (by rw [hn,Bool.false_and];exact jd)) (aG q)
 |_=>exact aG q
theorem afp{Q:Unit->Shared->Prop}(ht:n8 target)(h:dq s.heap it c fs)(hn:owners.contains c=false)(q:Q () s):wpAny (model prog w) A (letOwnedTupleGo target (.ref it) x) Q E s:=
 ht.elim (λe=>e.elim λ_ e=>e.elim λ_ e=>e▸aG q) λe=>e.elim λ_ e=>e.elim λ_ e=>e.elim λ_ e=>e▸YS h hn q
theorem dq.bM(h:dq g it c fs)(e:g'.get? it=g.get? it):dq g' it c fs:=h.imp λ_ z=>⟨e.trans z.1,z.2⟩
theorem dq.obj(h:dq g it c fs)(hc:c≠"tuple"):∃o,g.get? it=some o/\wn o:=h.imp λ_ z=>⟨z.1,.mk (λe=>hc (LT (z.2.1.symm.trans e))) z.2.2⟩
theorem dq.aeB{xs:aq}(h:dq g it c fs)(hc:c≠"tuple"):¬TupAt g it xs:=λt=>h.elim λ_ z=>hc (LT (z.2.1.symm.trans (bc (z.1.symm.trans t)▸rfl)))
theorem dq.set{k:Nat}{v:Value}(h:dq g it c fs):dq (g.update it (Obj.mapFields (·.setIfInBounds k v))) it c (fs.setIfInBounds k v):=
 h.elim λ_ z=>⟨_,qv _ z.1 (KY (wJ z.2.2 _)),(Obj.cls_mapFields ..).trans z.2.1,wJ z.2.2 _⟩
theorem Rk{Q:Option Value->Shared->Prop}(hh:A.handled=none)(hit:s.heap.IsKeyIter it d i aQ.length n)(hd:s.heap.get? d=some (dictOf aQ n))(h1:∀e,aQ[i]?=some e->∀h',h'.IsKeyIter it d (i+1) aQ.length n->Heap.SameBut it s.heap h'->Q (some e.key) {s with heap:=h'})
 (h2:aQ[i]?=none->∀h',Heap.ExtBut it s.heap h'->Q none {s with heap:=h'}):wpAny (model prog w) A (pyNext (.ref it)) Q E s:=by
 refine hit.elim λo z=>?_
 have hT:=hit.typeIs
 unfold pyNext
 refine ax (Uf (qk (name:=Str.ofString "__next__") hT JM
  (jD JM hT F.entry_dict_keyiterator_next ?_ (F.args_dict_keyiterator_next_1 _))))
 refine ax (aG (ax (ax (ax (Uq hT (aG (ax (Uh z.1 z.2.2 (bZ rfl (ax (aG (ax (ql hd rfl
  (bZ (cQ (Ey (aQ.length:Int)▸jd)) (ax (aG (ax (v6 hd rfl (bZ (cQ (Ey (n:Int)▸jd)) (aG ?_))))))))))))))))))))
 dsimp only
 rw [if_neg (Int.not_lt.mpr (Int.natCast_nonneg i)),Int.toNat_natCast,List.getElem?_toArray]
 cases hx:aQ[i]? with
 |some e=>
  have Ou:=dq.set (k:=1) (v:=rawInt ((i:Int)+1)) hit
  exact ax (ax (Uq hT (aG (ax (wpAny_isOneOf_keyiter hT (ax (o8 z.1 z.2.2 (pA nofun)
   (ax (c8 (ax (wpAny_isOneOf_keyiter (s:={s with heap:=s.heap.update it (Obj.mapFields (·.setIfInBounds 1 (rawInt ((i:Int)+1))))}) (Ou.imp λ_ z=>⟨z.1,z.2.1⟩)
    (aG (aG ⟨_,rfl,aG (h1 e hx _ Ou (iu ..))⟩)))))))))))))
 |none=>
  refine ax (ax (Uq hT (aG (ax (o8 z.1 z.2.2 (pA nofun) (ax (ax (jX (ax (m:=firstArgMember _ _) (o7 (a:=Value.none) rfl
   (jX (ax (Uj ?_)) (by size_fits)))) (by size_fits)))))))))
  rw [show A.in1.handled=none from hh]
  refine ax (aG (wpAny_throw ?_))
  exact ax (t8 (T:="StopIteration") (b:=true) ⟨_,dW _ rfl,rfl⟩ isSubtype_stop (aG (h2 hx _ (((iu ..).extBut.push _).push _))))
end
noncomputable def O.row(o:O):Option aj:=o.rec some some (λ_ _=>none) (λ_=>none) (λ_=>none) λ_ _=>none
noncomputable def O.keys(o:O):Option (af×Nat):=o.rec (λ_=>none) (λ_=>none) (λes n=>some (es,n)) (λ_=>none) (λ_=>none) λ_ _=>none
noncomputable def Gi(l:L):jQ:=λh i=>((h l).bind O.row).map λvs=>vs[i]?
noncomputable def p0(vs:aj):jQ:=λ_ i=>if i<=vs.length then some vs[i]? else none
noncomputable def FH(l:L)(n len:Nat):jQ:=λh i=>((h l).bind O.keys).bind λp=>if p.2=n/\p.1.length=len then some (p.1[i]?.map (·.1)) else none
section
variable{h h':H}{l:L}{i n len:Nat}{r:Option V}{vs:aj}{p:Prop}{o:O}
theorem nQ{α β:Type}{o:Option α}{f:α->β}{b:β}(e:o.map f=some b)(k:∀a,o=some a->f a=b->p):p:=(zV.1 e).elim λa z=>k a z.1 z.2
theorem SB(e:(h l).bind O.row=some vs):dR h l vs:=sC e λo e z=>by
 cases o with
 |lst us=>exact .inl (e.trans (au (λus=>some (O.lst us)) (bc z)))
 |ro us=>exact .inr (e.trans (au (λus=>some (O.ro us)) (bc z)))
 |_=>cases z
theorem Pi(e:Gi l h i=some r)(k:∀vs,dR h l vs->vs[i]?=r->p):p:=nQ e λvs e z=>k vs (SB e) z
theorem va(e:p0 vs h i=some r)(k:i<=vs.length->vs[i]?=r->p):p:=have z:=zU.1 e;k z.1 (bc z.2)
theorem OS(e:FH l n len h i=some r)(k:∀es,h l=some (.aF es n)->es.length=len->es[i]?.map (·.1)=r->p):p:=
 sC e λq e z=>sC e λo eo zo=>by
  have z:=zU.1 z
  cases o with
  |aF es m=>cases zo;exact k es (eo.trans (au (λm=>some (O.aF es m)) z.1.1)) z.1.2 (bc z.2)
  |_=>cases zo
end
section
variable{B:Bk}{it a:Addr}{l:L}{vs:aj}{c:String}{fs:Nat->aq}{oj:HA->Heap->Prop}{src:jQ}{len n:Nat}
theorem Hf{b it:Addr}(h:b∉[it]):b≠it:=λe=>h (a6.2 e)
theorem je.one{St:Nat->Heap->Prop}(hc:c≠"tuple")(hw:owners.contains c=false)(so:∀{i g},St i g->∃fs,dq g it c fs)(ss:∀{i g g'},St i g->g'.get? it=g.get? it->St i g')(side:∀{h h' g g'},oj h g->dH h g h' g'->oj h' g')
 (item:∀{A:Around} {h:HA} {s:Shared} {i:Nat} {v:V} {Q:Option Value->Shared->Prop} {E:aa},A.handled=none->aI B h s->St i s.heap->oj h s.heap->src h.c i=some (some v)->
 (∀x g tk,aP h s.heap v x->St (i+1) g->(∀b o,b≠it->s.heap.get? b=some o->g.get? b=some o)->Q (some x) {s with heap:=g,toks:=tk})->wpAny B.M A (pyNext (.ref it)) Q E s)
 (done:∀{A:Around} {h:HA} {s:Shared} {i:Nat} {Q:Option Value->Shared->Prop} {E:aa},A.handled=none->aI B h s->St i s.heap->oj h s.heap->src h.c i=some none->
 (∀g tk,(∀b o,b≠it->s.heap.get? b=some o->g.get? b=some o)->Q none {s with heap:=g,toks:=tk})->wpAny B.M A (pyNext (.ref it)) Q E s)
 (self:∀{A:Around} {s:Shared} {i:Nat} {Q:aa} {E:aa},A.handled=none->St i s.heap->Q (.ref it) s->wpAny B.M A (pyIter (.ref it)) Q E s):je B it [it] n8 src λi h g=>St i g/\oj h g where
 item ht hh R p e q:=item hh R p.1 p.2 e λx g tk rx st k=>q x _ λz=>
  have sy:dH _ _ _ g:=⟨λb xs t=>k b _ (λe=>(so p.1).elim λ_ w=>(e▸w).aeB hc t) t,λ_ e=>⟨e,rfl⟩⟩
  (so st).elim λ_ w=>afp ht w hw (z _ (rx.bM sy) ⟨st,side p.2 sy⟩ ⟨λb o hb=>k b o (Hf hb),rfl,rfl⟩)
 done hh R p e q:=done hh R p.1 p.2 e λg tk k=>q _ ⟨λb o hb=>k b o (Hf hb),rfl,rfl⟩
 bM p e st:=⟨ss p.1 (e it gk),side p.2 st⟩
 at_ p a m:=(a6.1 m).symm▸(so p.1).elim λ_ w=>w.obj hc
 self hh p q:=self hh p.1 q
noncomputable abbrev wv(l:L)(a:Addr)(h:HA)(_:Heap):Prop:=h.adr l=a/\h.c l≠none
theorem Gj{h h':HA}{g g':Heap}(p:wv l a h g)(st:dH h g h' g'):wv l a h' g':=⟨(st.u4 l p.2).2.trans p.1,(st.u4 l p.2).1⟩
theorem RC{xs:aq}{h:HA}{g:Heap}{i:Nat}(r:aY h g vs xs.toList)(e:vs[i]?=none):xs[i]?=none:=Array.getElem?_eq_none_iff.mpr (r.size▸lQ.1 e)
theorem Z4:je B it [it] n8 (Gi l) λi h g=>dq g it "list_iterator" #[.ref a,.int (i:Nat) 0]/\wv l a h g:=
 .one (by decide) rfl (λp=>⟨_,p⟩) dq.bM Gj (λ_ R p sd e q=>Pi e λvs e hv=>dR.rep R e λxs n hx rx=>rx.get' hv λy hy ry=>Un p ⟨_,sd.1▸hx,rfl,_,rfl⟩ hy λg st sb=>q y g _ ry st λb o hb e=>(sb.2 b hb).trans e)
  (λhh R p sd e q=>Pi e λvs e hv=>dR.rep R e λxs n hx rx=>Um hh p ⟨_,sd.1▸hx,rfl,_,rfl⟩ (RC rx hv) λg k=>q g _ k) λ_ p q=>wpAny_pyIter_listiter p q
noncomputable abbrev wX(vs:aj)(a:Addr)(h:HA)(g:Heap):Prop:=∃xs,TupAt g a xs/\aY h g vs xs.toList
theorem B0{h h':HA}{g g':Heap}(p:wX vs a h g)(st:dH h g h' g'):wX vs a h' g':=p.imp λ_ z=>⟨st.tup _ _ z.1,z.2.bM st⟩
theorem Z6:je B it [it] n8 (p0 vs) λi h g=>dq g it "tuple_iterator" #[.ref a,.int (i:Nat) 0]/\wX vs a h g:=
 .one (by decide) rfl (λp=>⟨_,p⟩) dq.bM B0 (λ_ R p sd e q=>va e λ_ hv=>sd.elim λxs z=>z.2.get' hv λy hy ry=>wpAny_pyNext_tuple_item p ⟨_,z.1,rfl,_,rfl⟩ hy λg st sb=>q y g _ ry st λb o hb e=>(sb.2 b hb).trans e)
  (λhh R p sd e q=>va e λ_ hv=>sd.elim λxs z=>wpAny_pyNext_tuple_end hh p ⟨_,z.1,rfl,_,rfl⟩ (RC z.2 hv) λg k=>q g _ k) λ_ p q=>wpAny_pyIter_tupleiter p q
theorem Z3:je B it [it] n8 (FH l n len) λi h g=>dq g it "dict_keyiterator" #[.ref a,.int (i:Nat) 0,.int (len:Nat) 0,.int (n:Nat) 0]/\wv l a h g:=
 .one (by decide) rfl (λp=>⟨_,p⟩) dq.bM Gj (λhh R p sd e q=>OS e λes e hl hv=>nQ hv λw hw ew=>R.aF e λaQ ho er _ _=>Rk hh ((hl.symm.trans er.length:len=aQ.length)▸p) (sd.1▸ho) (λen he g st sb=>q en.key g _ (er.at he λu v a _ b _=>ew▸(wN (bc (hw.symm.trans a))).1.symm▸b) ((hl.symm.trans er.length:len=aQ.length)▸st) λb o hb e=>(sb.2 b hb).trans e)
  λz=>cK hw (lQ.2 (er.length.symm▸lQ.1 z)))
  (λhh R p sd e q=>OS e λes e hl hv=>R.aF e λaQ ho er _ _=>Rk hh ((hl.symm.trans er.length:len=aQ.length)▸p) (sd.1▸ho) (λen he=>cK he (lQ.2 (er.length▸lQ.1 (KZ.1 hv)))) λ_ g k=>q g _ k) λ_ p q=>wpAny_pyIter_keyiter p q
theorem Z7{St:Nat->Heap->Prop}{Pw:Nat->Value->Prop}(hc:c≠"tuple")(hw:owners.contains c=false)(so:∀{i g},St i g->∃fs,dq g it c fs)(W:∀A:Around,A.handled=none->Walks B.prog B.w A it [it] [it] vs.length Pw St)(hv:∀i x v,Pw i x->vs[i]?=some v->∀h g,aP h g v x):
 je B it [it] n8 (p0 vs) λi h g=>St i g/\True:=
 .one hc hw so (λp e=>(W {} rfl).frame _ _ _ p λb m o z=>a6.1 m▸e.trans (a6.1 m▸z)) (λ_ _=>gh) (λhh R p _ e q=>va e λ_ hx=>(W _ hh).item _ _ _ _ (cm.1 hx).1 p λx g tk px st k=>q x g tk (hv _ x _ px hx _ _) st λb o hb=>k b o λm=>hb (a6.1 m))
  (λhh R p _ e q=>va e λhl hx=>(W _ hh).done _ _ _ (iz hl (lQ.1 hx)▸p) λg tk k=>q g tk λb o hb=>k b o λm=>hb (a6.1 m)) λhh p q=>(W _ hh).self _ _ _ _ p q
end
noncomputable def xz(src:jQ):jQ:=λh i=>(src h i).map λo=>o.map λv=>.tup [.int i,v]
noncomputable def Sz(l:L):jQ:=λh i=>((h l).bind O.row).bind λvs=>p0 vs h i
section
variable{prog:Program}{w:World}{A:Around}{E:aa}{s:Shared}{target:Expr}{e it a l:Addr}{i:Nat}{item:Value}{items:aq}
theorem aav{i:Int}{Q:Unit->Shared->Prop}(ht:qJ target)(he:IsEnumOut s.heap e it i item a)(hQ:∀h',IsEnum h' e it i item->Heap.SameBut e s.heap h'->Q () {s with heap:=h'}):wpAny (model prog w) A (letOwnedTupleGo target (.ref e) (.ref a)) Q E s:=
 ht.elim λ_ z=>z.elim λ_ z=>z.elim λ_ z=>z▸wpAny_letOwnedTupleGo_enum he hQ
theorem Rj{Q:aa}(hh:A.handled=none)(hit:dq s.heap it "tuple_iterator" #[.ref l,.int i 0])(hl:s.heap.IsTuple l items)(h1:∀x,items[i]?=some x->∀g,dq g it "tuple_iterator" #[.ref l,.int ((i+1:Nat):Int) 0]->Heap.SameBut it s.heap g->Q x {s with heap:=g})
 (h2:items[i]?=none->∀g e,Heap.ExtBut it s.heap g->(∃o,g.get? e=some o/\o.cls= .type "StopIteration")->E (.ref e) {s with heap:=g}):wpAny (model prog w) A (Builtin.SmallTypes.nextOf (.ref it)) Q E s:=by
 have Zr:=hit
 refine hit.elim λo z=>hl.elim λol zl=>zl.2.2.elim λnl Zf=>?_
 have hT:s.TypeIs (.ref it) "tuple_iterator":=⟨o,z.1,z.2.1⟩
 unfold Builtin.SmallTypes.nextOf
 refine ax (qk (name:=Str.ofString "__next__") hT U8 (jD U8 hT F.entry_tuple_iterator_next ?_ (F.args_tuple_iterator_next_1 _)))
 refine ax (m:=field (.ref it) 0) (wpAny_field z.1 z.2.2 (x:=.ref l) rfl (bZ rfl (ax (m:=field (.ref it) 1) (wpAny_field z.1 z.2.2 (x:=.int i 0) rfl (ax (m:=seqItems? (.ref l)) (Ce zl.1 Zf ?_))))))
 dsimp only
 rw [Int.toNat_natCast]
 cases hx:items[i]? with
 |some x=>exact ax (o8 z.1 z.2.2 (pA nofun) (aG ⟨_,rfl,aG (h1 x hx _ (dq.set (k:=1) (v:=rawInt ((i:Int)+1)) Zr) (iu ..))⟩))
 |none=>
  refine ax (mO (ax (o8 z.1 z.2.2 (pA nofun) (ax (m:=newExc (.type "StopIteration") []) (ax (jX (ax (m:=firstArgMember _ _) (o7 (a:=Value.none) rfl (jX (ax (Uj ?_)) (by size_fits)))) (by size_fits)))))))
  rw [show A.in1.handled=none from hh]
  exact ax (aG (wpAny_throw (h2 hx _ _ (((iu ..).extBut.push _).push _) ⟨_,dW _ rfl,rfl⟩)))
theorem XF(hh:A.handled=none)(jy:l≠it):Draws prog w A it [it,l] items.size (λi v=>items[i]?=some v) λi h=>dq h it "tuple_iterator" #[.ref l,.int (i:Nat) 0]/\h.IsTuple l items where
 live _ _ st:=st.1.imp λ_ z=>z.1
 frame _ _ _ st hk:=⟨st.1.imp λ_ z=>⟨hk it gk _ z.1,z.2⟩,st.2.imp λ_ z=>⟨hk l (iy _ gk) _ z.1,z.2⟩⟩
 item i s Q E hi st hQ:=Rj hh st.1 st.2 (λx hx g hg sb=>hQ x g s.toks hx ⟨hg,st.2.extBut sb.extBut jy⟩ sb) λz=>cK (zb hi) z
 done s Q E st hE:=Rj hh st.1 st.2 (λx hx=>absurd (rK.1 hx).1 (kh _)) λ_=>hE
end
section
variable{B:Bk}{e it a:Addr}{l:L}{vs:aj}{c:String}{fs:Nat->aq}{oj:HA->Heap->Prop}{src:jQ}{bS:List Addr}{s s':Shared}{h:HA}
theorem pc.stays(k:pc bS s s')(ob:∀a∈bS,∃o,s.heap.get? a=some o/\wn o):dH h s.heap h s'.heap:=⟨λb xs q=>k.h b _ (λm=>(ob b m).elim λ_ z=>by cases z.2 with|mk c _=>exact c (bc (q.symm.trans z.1)▸rfl)) q,λ_ e=>⟨e,rfl⟩⟩
theorem Be{b:Addr}(h:b∉[e,it]):b≠e/\b≠it:=⟨λz=>h (z▸gk),λz=>h (z▸iy _ gk)⟩
theorem Ie{p:Addr->Prop}(a:p e)(b:p it):∀x∈[e,it],p x:=λx m=>(dP.1 m).elim (λz=>z▸a) λm=>a6.1 m▸b
theorem je.enum(hc:c≠"tuple")(jy:e≠it)(side:∀{h h' g g'},oj h g->dH h g h' g'->oj h' g')
 (dr:∀{A:Around} {h:HA} {s:Shared} {i:Nat} {r:Option V} {p:Prop},A.handled=none->aI B h s->oj h s.heap->src h.c i=some r->(∀b o,s.heap.get? b=some o->(∀fs,o.data≠.fields fs)->b≠e/\b≠it)->
 (∀(vs:aj) (xs:aq) (K:Heap->Prop) (fp:List Addr),e∉fp->i<=vs.length->vs[i]?=r->aY h s.heap vs xs.toList->K s.heap->Draws B.prog B.w A it fp xs.size (λi v=>xs[i]?=some v) (λi g=>dq g it c (fs i)/\K g)->p)->p):
 je B e [e,it] qJ (xz src) λi h g=>(∃old,IsEnum g e it (i:Nat) old)/\dq g it c (fs i)/\oj h g where
 item {target A h s i v Q E} p5 hh R p er q:=p.1.elim λold hE=>nQ er λo e0 eo=>nQ eo λu eu ev=>dr (A:=A.in1) hh R p.2.2 e0 (λb o eb n=>⟨λz=>n _ (au Obj.data (bc ((z▸eb).symm.trans hE))),λz=>p.2.1.elim λ_ w=>n _ ((au Obj.data (bc ((z▸eb).symm.trans w.1))).trans w.2.2)⟩)
  λvs xs K fp Os hle hv rx hK D=>rx.get' (hv.trans eu) λy hy ry=>wpAny_pyNext_enum_itemD D hE ⟨p.2.1,hK⟩ (rK.1 hy).1 jy Os λx g' tk hx hO st hT hz hk=>q _ _ λz=>aav p5 hO λnL Y5 sb=>
   have as:pc [e,it] s {s with heap:=nL,toks:=tk+1}:=⟨λb o hb eb=>(sb.2 b (Be hb).1).trans (hk b o (Be hb).1 (Be hb).2 eb),rfl,rfl⟩
   have sy:dH h s.heap h nL:=as.stays (Ie ⟨_,hE,.mk (n5 rfl) rfl⟩ (p.2.1.obj hc))
   have hT:TupAt nL s.heap.objs.size #[.int i tk,x]:=(sb.2 _ λz=>kh _ (z▸jH hE)).trans hT
   z _ (ev▸⟨_,_,rfl,hT,.cons ⟨_,rfl⟩ (.cons (bc (hy.symm.trans hx)▸ry.bM sy) rfl)⟩) ⟨⟨_,Y5⟩,st.1.bM (sb.2 it jy.symm),side p.2.2 sy⟩ as
 done {A h s i Q E} hh R p er q:=p.1.elim λold hE=>nQ er λo e0 eo=>dr (A:=A.in1) hh R p.2.2 e0 (λb o eb n=>⟨λz=>n _ (au Obj.data (bc ((z▸eb).symm.trans hE))),λz=>p.2.1.elim λ_ w=>n _ ((au Obj.data (bc ((z▸eb).symm.trans w.1))).trans w.2.2)⟩)
  λvs xs K fp Os hle hv rx hK D=>wpAny_pyNext_enum_endD D hE ⟨(iz (rx.size▸hle) (rx.size▸lQ.1 (hv.trans (KZ.1 eo))):i=xs.size)▸p.2.1,hK⟩ λg k=>q _ ⟨λb o hb=>k b o (Be hb).2,rfl,rfl⟩
 bM p eq st:=⟨p.1.imp λ_ z=>(eq e gk).trans z,p.2.1.bM (eq it (iy _ gk)),side p.2.2 st⟩
 at_ p:=p.1.elim λ_ hE=>Ie ⟨_,hE,.mk (n5 rfl) rfl⟩ (p.2.1.obj hc)
 self _ p q:=p.1.elim λ_ hE=>wpAny_pyIter_enum hE q
theorem Rx{xs:aq}{n:Nat}:∀fs,Data.seq xs n≠.fields fs:=nofun
theorem RF{b:Addr}(n1:a≠e/\a≠it)(jy:e≠it):e∉[it,a]:=λm=>(dP.1 m).elim jy λm=>n1.1 (a6.1 m).symm
theorem Z1(jy:e≠it):je B e [e,it] qJ (xz (Sz l)) λi h g=>(∃old,IsEnum g e it (i:Nat) old)/\dq g it "list_iterator" #[.ref a,.int (i:Nat) 0]/\wv l a h g:=
 .enum (by decide) jy Gj λhh R sd er nb k=>sC er λvs e0 e1=>va e1 λhle hv=>dR.rep R (SB e0) λxs n hx rx=>
  have n1:=nb a _ (sd.1▸hx) Rx
  k vs xs _ _ (RF (b:=a) n1 jy) hle hv rx ⟨_,sd.1▸hx,rfl,_,rfl⟩ (Draws.list hh it a n1.2 xs)
theorem Z2(jy:e≠it):je B e [e,it] qJ (xz (p0 vs)) λi h g=>(∃old,IsEnum g e it (i:Nat) old)/\dq g it "tuple_iterator" #[.ref a,.int (i:Nat) 0]/\wX vs a h g:=
 .enum (by decide) jy B0 λhh R sd er nb k=>va er λhle hv=>sd.elim λxs z=>
  have n1:=nb a _ z.1 Rx
  k vs xs _ _ (RF (b:=a) n1 jy) hle hv z.2 ⟨_,z.1,rfl,_,rfl⟩ (XF hh n1.2)
end
inductive Src where
 |lst(l:L)
 |row(vs:aj)
 |keys(l:L)(n len:Nat)
 |ER(l:L)
 |ES(vs:aj)
noncomputable def Src.next(s:Src):jQ:=s.rec Gi p0 FH (λl=>xz (Sz l)) λvs=>xz (p0 vs)
noncomputable def Src.jW(s:Src):Expr->Prop:=s.rec (λ_=>n8) (λ_=>n8) (λ_ _ _=>n8) (λ_=>qJ) λ_=>qJ
noncomputable def Src.ok(s:Src)(b:Bool):Prop:=s.rec (λ_=>True) (λ_=>True) (λ_ _ _=>True) (λ_=>b=true) λ_=>b=true
theorem Src.Tz{src:Src}{b:Bool}{e:Expr}(h:src.ok b)(t:Tg b e):src.jW e:=by
 cases src with
 |ER l=>exact(h▸t:Tg true e)
 |ES l=>exact(h▸t:Tg true e)
 |_=>exact t.any
noncomputable def rT(B:Bk)(dN:Heap)(src:Src)(h:HA)(s:Shared)(x:Value):Prop:=
 ∀(A:Around) (Q:aa) (E:aa),A.handled=none->
  (∀it bS P s',je B it bS src.jW src.next P->P 0 h s'.heap->aI B h s'->Step c0 h s.heap h s'.heap->(∀a∈bS,dN.get? a=none/\¬h.used a)->Q (.ref it) s')->wpAny B.M A (pyIter x) Q E s
noncomputable abbrev IW:=Fm->H->(Src->H->Prop)->Prop
inductive qw(B:Bk)(dN:Heap)(h:HA)(s:Shared)(Q:Src->H->Prop)(x:Value)(s':Shared):Prop
 |mk(src:Src)(h':HA):rT B dN src h' s' x->aI B h' s'->Step c0 h s.heap h' s'.heap->Q src h'.c->qw B dN h s Q x s'
noncomputable def jP(B:Bk)(t:Bool)(k:Nat)(nm:ag)(e:Expr)(m:IW):Prop:=
 ∀env loc h s A (Q:Src->H->Prop) (E:aa),At B t k nm env loc h s A->m (cj nm loc) h.c Q->wpAny B.M A (eval e env) (qw B s.heap h s Q) E s
inductive wK(h:H)(Q:Src->H->Prop):V->Prop
 |tup{vs:aj}:Q (.row vs) h->wK h Q (.tup vs)
 |str{x:Str}:Q (.row (x.cps.toList.map λc=>.str ⟨#[c]⟩)) h->wK h Q (.str x)
 |lst{a:L}{vs:aj}:dR h a vs->Q (.lst a) h->wK h Q (.ref a)
 |aF{a:L}{es:af}{n:Nat}:h a=some (.aF es n)->Q (.keys a n es.length) h->wK h Q (.ref a)
noncomputable abbrev Hq(v:V)(h:H)(Q:Src->H->Prop):Prop:=wK h Q v
noncomputable abbrev kU(dN g:Heap):Prop:=∀b,dN.get? b≠none->g.get? b≠none
section
variable{B:Bk}{t:Bool}{k:Nat}{nm:ag}{A:Around}{E:aa}{h h':HA}{s:Shared}{dN g g':Heap}{a:L}{vs:aj}{b:Addr}{x:Str}{tk:Tok}{v:V}{y:Value}
theorem kU.none(al:kU dN g)(e:g.get? b=none):dN.get? b=none:=ip λz=>al b z e
theorem kU.step(al:kU dN g)(S:Step c0 h g h' g'):kU dN g':=λb e=>S.alive b (al b e)
theorem aI.tB(R:aI B h s)(al:kU dN s.heap):∀b∈[s.heap.objs.size],dN.get? b=none/\¬h.used b:=λb m=>a6.1 m▸⟨al.none jv,R.S9⟩
theorem Z9(R:aI B h s)(al:kU dN s.heap)(e:dR h.c a vs):rT B dN (.lst a) h s (.ref (h.adr a)):=λ_ _ _ _ q=>dR.rep R e λxs n hx _=>
 IB ⟨_,hx,rfl,_,rfl⟩ (q _ [s.heap.objs.size] _ _ (Z4 (a:=h.adr a)) ⟨⟨_,dW _ rfl,rfl,rfl⟩,rfl,e.elim dj dj⟩ (R.push _) (.push _) (R.tB al))
theorem aaa{a:Addr}(R:aI B h s)(al:kU dN s.heap)(sd:wX vs a h s.heap):rT B dN (.row vs) h s (.ref a):=λ_ _ _ _ q=>sd.elim λxs z=>
 wpAny_pyIter_tuple ⟨_,z.1,rfl,_,rfl⟩ (q _ [s.heap.objs.size] _ _ (Z6 (a:=a)) ⟨⟨_,dW _ rfl,rfl,rfl⟩,B0 sd (tO λ_ _ e=>c9 _ e)⟩ (R.push _) (.push _) (R.tB al))
theorem Z0{d:Addr}{n:Nat}{aQ:List DictEntry}{Q:aa}(hm:(d==sysModules)=false)(hd:s.heap.get? d=some (dictOf aQ n))
 (hQ:Q (.ref s.heap.objs.size) {s with heap:=s.heap.push {cls:=.type "dict_keyiterator",data:=.fields #[.ref d,.int 0 0,.int aQ.length 0,.int n 0]}}):wpAny B.M A (pyIter (.ref d)) Q E s:=by
 have hT:s.TypeIs (.ref d) "dict":=⟨_,hd,rfl⟩
 refine wpAny_pyIter_slot hT F.slot_dict_iter (jD F.slot_dict_iter hT F.entry_dict_iter ?_ (F.args_dict_iter_1 _))
 refine ax (m:=Builtin.Dict.dictSlotNone _ _) (ax (Uk hT (aG (ax (m:=Builtin.Dict.showsAll d) ?_))))
 unfold Builtin.Dict.showsAll
 rw [if_neg (by rw [hm];exact Bool.false_ne_true)]
 exact aG (ax (ql hd rfl (ax (v6 hd rfl (ax (jX (aG ⟨_,rfl,"dict_keyiterator",_,⟨_,dW _ rfl,rfl⟩,JM.lookup,hQ⟩)))))))
theorem Z8{es:af}{n:Nat}(R:aI B h s)(al:kU dN s.heap)(e:h.c a=some (.aF es n)):rT B dN (.keys a n es.length) h s (.ref (h.adr a)):=λ_ _ _ _ q=>R.aF e λaQ ho er _ _=>
 Z0 (R.mods _ _ _ e) ho (q _ [s.heap.objs.size] _ _ (Z3 (a:=h.adr a)) ⟨⟨_,dW _ rfl,rfl,er.length▸rfl⟩,rfl,dj e⟩ (R.push _) (.push _) (R.tB al))
theorem S5{i:Nat}(z:SignAt x i y)(e:(x.cps.toList.map λc=>V.str ⟨#[c]⟩)[i]?=some v)(h:HA)(g:Heap):aP h g v y:=z.elim λc z=>z.elim λu z=>
 bc ((eL.trans (au (Option.map λc=>V.str ⟨#[c]⟩) (Je.trans z.1))).symm.trans e)▸(⟨u,z.2⟩:aP h g (.str _) y)
theorem S6:(x.cps.toList.map λc=>V.str ⟨#[c]⟩).length=x.cps.size:=bx _
theorem FD{c:String}{St:Nat->Heap->Prop}{Pw:Nat->Value->Prop}{s₁:Shared}{it:Addr}(hc:c≠"tuple")(hw:owners.contains c=false)(so:∀{i g},St i g->∃fs,dq g it c fs)(W:∀A:Around,A.handled=none->Walks B.prog B.w A it [it] [it] vs.length Pw St)(hv:∀i x v,Pw i x->vs[i]?=some v->∀h g,aP h g v x)
 (p:St 0 s₁.heap)(R:aI B h s₁)(S:Step c0 h s.heap h s₁.heap)(n:∀b∈[it],dN.get? b=none/\¬h.used b)(w:∀{A:Around} {E:aa} {Q:aa},Q (.ref it) s₁->wpAny B.M A (pyIter y) Q E s):rT B dN (.row vs) h s y:=
 λ_ _ _ _ q=>w (q _ [it] _ _ (Z7 hc hw so W hv) ⟨p,gh⟩ R S n)
theorem Z'(R:aI B h s)(al:kU dN s.heap):rT B dN (.row (x.cps.toList.map λc=>.str ⟨#[c]⟩)) h s (.str x tk):=by
 have n:=R.tB al
 cases ha:x.cps.all (·<128) with
 |false=>exact FD (St:=λi h=>h.IsStrIter _ "str_iterator" x tk i) (by decide) rfl (λp=>⟨_,p⟩) (λA hA=>S6.symm▸Walks.strWide hA _ x tk) (λi y v z e=>S5 z e) ⟨_,dW _ rfl,rfl,rfl⟩ (R.push _) (.push _) n (wpAny_pyIter_wide ha)
 |true=>exact FD (St:=λi h=>h.IsStrIter _ "str_ascii_iterator" x tk i) (by decide) rfl (λp=>⟨_,p⟩) (λA hA=>S6.symm▸Walks.strAscii hA _ x tk) (λi y v z e=>S5 z e) ⟨_,dW _ rfl,rfl,rfl⟩ (R.push _) (.push _) n (wpAny_pyIter_ascii ha)
theorem aab{Q:Src->H->Prop}(R:aI B h s)(al:kU dN s.heap)(r:aP h s.heap v y)(q:Hq v h.c Q):qw B dN h s Q y s:=by
 induction q with
 |tup q=>exact r.iP λa xs hx rx=>.mk _ h (aaa R al ⟨xs,hx,rx⟩) R .refl q
 |str q=>exact r.eZ λ_=>.mk _ h (Z' R al) R .refl q
 |lst e q=>exact r.cA λ_=>.mk _ h (Z9 R al e) R .refl q
 |aF e q=>exact r.cA λ_=>.mk _ h (Z8 R al e) R .refl q
theorem qw.mono{az:HA}{s₁ s':Shared}{Q:Src->H->Prop}(S:Step c0 h s.heap az s₁.heap)(p:qw B dN az s₁ Q y s'):qw B dN h s Q y s':=by
 cases p with
 |mk src h' a b c d=>exact .mk src h' a b (S.trans c) d
section
variable{nm:ag}{env:Env}{loc:Loc}{e iter target:Expr}{m:EW}{mi:IW}{tw:TW}{mb mo:SW}{b o:List Stmt}{pos:Pos}{tb:Bool}
theorem jP.val(he:aV B t k nm e m):jP B t k nm e λloc h Q=>m loc h λv h'=>Hq v h' Q:=λ_ _ _ _ _ _ _ a q=>he.go a q λ_ _ _ _ r br aR _ aX=>(aab br aR.alive r aX).mono aR
theorem iV.vJ{b:Addr}(F:iV B env loc h g)(e:g.get? b=none):¬dM env b:=λf=>F.Ed f e
theorem aI.av{b:Addr}(R:aI B h s)(e:s.heap.get? b=none):B.av.get? b=none:=ip λz=>gQ z λo z=>cK (R.keep _ _ z) e
theorem jP.go(hi:jP B t k nm iter mi){Q:Src->H->Prop}(a:At B t k nm env loc h s A)(q:mi (cj nm loc) h.c Q){P:aa}
 (kk:∀src az y s₁,rT B s.heap src az s₁ y->At B t k nm env loc az s₁ A->Step c0 h s.heap az s₁.heap->Q src az.c->P y s₁):wpAny B.M A (eval iter env) P E s:=
 dK (hi env loc h s A Q E a q) (λx s₁ z=>by cases z with|mk src az r R S q=>exact kk src az x s₁ r (a.step R S) S q) λ_ _ e=>e
theorem cT.YE(hi:jP B true k nm iter mi)(tg:Tg tb target)(ht:fy B true true k nm target tw)(hb:fQ B true k nm b mb)(ho:fQ B true k nm o mo)
 (hs:∀env x,foldedSetIterable iter env x=pure x):cT B true k nm (.For target iter b o pos) λloc h Q=>mi loc h λsrc h'=>src.ok tb/\Aw src.next tw mb mo loc h' Q:=λenv loc h s A Q E a q=>
 wpAny_For (hi.go a q λsrc az y s₁ r bG aR aX=>r _ _ _ (a.T.handled rfl) λit bS P cr I hP dd be hn=>
  YF I (src.Tz aX.1 tg) ht hb ho (bG.step dd be) (aR.trans be).all hP (λa m=>(hn a m).2) (λb m=>⟨a.R.av (hn b m).1,a.F.vJ (hn b m).1,(hn b m).1⟩) aX.2 λ_ _ z=>z) (hs env)
end
end
section
variable{B:Bk}{t:Bool}{k:Nat}{nm:ag}{env:Env}{loc:Loc}{A:Around}{E:aa}{h:HA}{s:Shared}{dN:Heap}
noncomputable def uj(B:Bk)(t:Bool)(k:Nat)(f:Value)(Fw:aj->H->(Src->H->Prop)->Prop):Prop:=
 ∀A dN h s (Q:Src->H->Prop) (E:aa) vs xs,aI B h s->kU dN s.heap->fM B t k A->aY h s.heap vs xs->Fw vs h.c Q->wpAny B.M A (call f xs) (qw B dN h s Q) E s
theorem jP.WJ(C:gB B){x:Str}{p pos:Pos}{es:List Expr}{f:Value}{ms:fZ}{Fw:aj->H->(Src->H->Prop)->Prop}(hx:nm.lookup x=some .globalImplicit)(hg:B.mg x=none)(hb:bootBuiltins x=some f)(hk:jf B f)
 (dY:gI B t k nm es ms)(hc:uj B t k f Fw)(hs:ng es)(hn:x≠"__name__")(hd:(x==("__debug__":Str))=false):
 jP B t k nm (.Call (.Name x p) es [] pos) λloc h Q=>ms loc h λvs az=>Fw vs az Q:=λ_ _ h s A Q E a q=>
 Call_ (yg C a.S a.R hx hg hb hn hd (uU hs▸callWith_of (P:=λg=>B.K.In g) (Jm _▸List.any_eq_false.mpr λ_ m=>(bg.1 m).elim λ_ z=>z.2▸jd) hk
  (Ny (dY.go a q λvs az xs s₁ rs br aR _ aX=>⟨br.X C,dK (hc A s.heap az s₁ Q E _ _ br aR.alive a.T rs aX) (λ_ _ z=>z.mono aR) λ_ _ e=>e⟩))))
noncomputable def AM(a:Int)(n:Nat):aj:=(List.range n).map λi:Nat=>V.int (a+(i:Int))
theorem ZR{a:Int}{n:Nat}:(AM a n).length=n:=(bx _).trans iw
inductive Lh(h:H)(Q:Src->H->Prop):aj->Prop
 |mk{n:Int}:Small n->Q (.row (AM 0 n.toNat)) h->Lh h Q [.int n]
noncomputable abbrev yE(us:aj)(h:H)(Q:Src->H->Prop):Prop:=Lh h Q us
theorem Sr{n:Int}:Builtin.Range.rangeSize 0 n 1=(n.toNat:Int):=(rangeSize_one 0 n).trans ((aN (0<n)).elim (λz=>(bz z).trans ((Int.sub_zero n).trans (zI (Dc z)).symm)) λz=>(bD z).trans (au Int.ofNat (Int.toNat_of_nonpos (jI.1 z)).symm))
theorem fits{n:Int}(h: -1000001<=n/\n<=1000001):Builtin.Range.rangeFitsLong n=true:=hM (cE (m5 (by decide) h.1)) (cE (wk h.2 (by decide)))
theorem ahR{n:Int}(h:Small n):Builtin.Range.small 0 n 1=true:=by
 unfold Builtin.Range.small
 rw [Sr]
 have f:=fits (n:=n) ⟨m5 (by decide:(-1000001:Int)<= -1000000) h.1,m5 h.2 (by decide:(1000000:Int)<=1000001)⟩
 exact hM (hM (hM (hM rfl f) rfl) (fits ⟨m5 (by decide:(-1000001:Int)<=0) (gx _),jK.2 (Int.toNat_le.mpr (m5 h.2 (by decide:(1000000:Int)<=(1000001:Nat))):n.toNat<=1000001)⟩))
  ((lM _ _).mpr (.inr (show Builtin.Range.rangeFitsLong (n+0)=true from(Int.add_zero n).symm▸f)))
theorem ZS{i n:Nat}{y:Value}{v:V}(z:∃t,y= .int (0+i*1) t)(e:(AM 0 n)[i]?=some v)(h:HA)(g:Heap):aP h g v y:=z.elim λt z=>nQ (eL.symm.trans e) λj hj ev=>
 ev▸⟨t,z.trans (au (Value.int · t) (au (0+·) ((Int.mul_one _).trans (au Int.ofNat (bc ((zJ (f5 (cm.1 hj).1 iw)).symm.trans hj))))))⟩
theorem WY:uj B t k (.type "range") yE:=λA dN h s Q E vs xs R al T rs q=>by
 induction q with
 | @mk n hn q=>
  refine rs.one λy ry=>ry.dG λtk=>call_range_1 ?_
  have br:=(R.push {cls:=.type "range",data:=.fields #[.int 0 s.toks,.int n tk,.int 1 (s.toks+1)]}).toks (s.toks+1+1)
  have V8:=al.step (h:=h) (.push {cls:=.type "range",data:=.fields #[.int 0 s.toks,.int n tk,.int 1 (s.toks+1)]})
  exact .mk _ h (FD (St:=λi g=>IsRangeIter g _ (0+(i:Nat)*1) ((n.toNat:Int) - (i:Nat)) 1) (c:="range_iterator") (by decide) rfl (λp=>⟨_,_,p,rfl,rfl⟩) (λA hA=>(ZR (a:=0) (n:=n.toNat)).symm▸Walks.range hA _ 0 1 n.toNat)
   (λi y v z e=>ZS z e) ((Sr (n:=n)▸(Int.sub_zero _).symm▸dW _ rfl:IsRangeIter _ _ _ _ _)) (br.push _) (.push _) (br.tB V8) λq'=>wpAny_pyIter_range (dW _ rfl) (ahR hn) q') br (.push _) q
inductive CA(h:H)(Q:Src->H->Prop):aj->Prop
 |tup{vs:aj}:Q (.ES vs) h->CA h Q [.tup vs]
 |lst{a:L}{vs:aj}:dR h a vs->Q (.ER a) h->CA h Q [.ref a]
noncomputable abbrev qN(us:aj)(h:H)(Q:Src->H->Prop):Prop:=CA h Q us
theorem ai9{M:Model}{α β:Type}{c:Prop}[Decidable c]{a b:Sem α}{f:α->Sem β}{v:α}{Q:β->Shared->Prop}(ha:∀{Q:α->Shared->Prop},Q v s->wpAny M A a Q E s)(hb:∀{Q:α->Shared->Prop},Q v s->wpAny M A b Q E s)(q:wpAny M A (f v) Q E s):
 wpAny M A (if c then a>>= f else b>>= f) Q E s:=o6 (λ_=>ax (ha q)) λ_=>ax (hb q)
noncomputable abbrev Aq(it:Addr):Obj:={cls:=.type "enumerate",data:=.fields #[.none,.bool false,.ref it,rawInt 0,.none,.none]}
set_option maxHeartbeats 2000000 in
theorem aee(l:Addr)(items:aq):
 Meets (Builtin.«enumerate.__new__» ⟨[.type "enumerate",.ref l],[]⟩) (λ_ R s=>TupAt s.heap l items/\
  R (.ok (.ret (.ref (s.heap.push {cls:=.type "tuple_iterator",data:=.fields #[.ref l,.int 0 0]}).objs.size)))
   {s with heap:=(s.heap.push {cls:=.type "tuple_iterator",data:=.fields #[.ref l,.int 0 0]}).push (Aq s.heap.objs.size)}):=
 .of_wp λprog w A R s h=>by
  unfold Builtin.«enumerate.__new__»
  refine ax (m:=Builtin.SmallTypes.newClass "enumerate" _) (ax (aG (a:=true) (ax (o7 sub_enumerate (aG ?_)))))
  refine ax (m:=Builtin.SmallTypes.calledThroughType _) (ax (wpAny_stack_any λst=>aG ?_))
  refine(ai9 (v:=(Value.ref l,(none:Option Value))) (λq=>aG q) (λq=>aG q) ?_)
  refine ax (wpAny_pyIter_tuple ⟨_,h.1,rfl,_,rfl⟩ ?_)
  refine ax ?_
  show wpAny _ _ (newObj (.type "enumerate") (.fields #[.none,.bool false,.ref _,rawInt 0,.none,.none])) _ _ _
  exact jX (aG ⟨_,rfl,h.2⟩) (by size_fits)
theorem No{o1:Obj}{Q:Src->H->Prop}{src:Src}{St:Addr->Nat->HA->Heap->Prop}(R:aI B h s)(al:kU dN s.heap)(I:∀{e it:Addr},e≠it->je B e [e,it] src.jW src.next λi h g=>(∃old,IsEnum g e it (i:Nat) old)/\St it i h g)
 (st:St s.heap.objs.size 0 h ((s.heap.push o1).push (Aq s.heap.objs.size)))(q:Q src h.c):qw B dN h s Q (.ref (s.heap.push o1).objs.size) {s with heap:=(s.heap.push o1).push (Aq s.heap.objs.size)}:=
 have br:=R.push o1
 have hE:IsEnum ((s.heap.push o1).push (Aq s.heap.objs.size)) (s.heap.push o1).objs.size s.heap.objs.size 0 .none:=dW _ rfl
 .mk src h (λ_ _ _ _ q'=>wpAny_pyIter_enum hE (q' _ _ _ _ (I λz=>Nat.succ_ne_self _ ((C9 ..).symm.trans z)) ⟨⟨_,hE⟩,st⟩ (br.push _) .refl (Ie (br.tB (al.step (h:=h) (.push o1)) _ gk) (R.tB al _ gk)))) (br.push _) ((Step.push o1).trans (.push _)) q
theorem WO:uj B t k (.type "enumerate") qN:=λA dN h s Q E vs xs R al T rs q=>by
 have st:∀o1 o2,dH h s.heap h ((s.heap.push o1).push o2):=λo1 o2=>tO λ_ _ e=>c9 _ (c9 _ e)
 induction q with
 |tup q=>exact rs.one λy ry=>ry.iP λa xs hx rx=>callType_new F.called_enumerate (by decide) (U9 _) (F.newCall_enumerate_1 _) (λobj=>F.args_object_init_2 obj _) F.entry_enumerate_new (aee a xs) ⟨hx,⟨_,dW _ rfl,rfl⟩,
  No R al (Z2 (a:=a)) ⟨⟨_,c9 _ (dW _ rfl),rfl,rfl⟩,B0 ⟨xs,hx,rx⟩ (st _ _)⟩ q⟩
 |lst e q=>exact rs.one λy ry=>ry.cA λhn=>dR.rep R e λxs n hx rx=>callType_new F.called_enumerate (by decide) (U9 _) (F.newCall_enumerate_1 _) (λobj=>F.args_object_init_2 obj _) F.entry_enumerate_new (meets_enumerate_new _ xs n) ⟨hx,⟨_,dW _ rfl,rfl⟩,
  No R al (Z1 (a:=h.adr _)) ⟨⟨_,c9 _ (dW _ rfl),rfl,rfl⟩,rfl,hn⟩ q⟩
end
inductive wR(v:V)(h:H)(Q:H->Prop):V->V->Prop
 |aF{a:L}{es:af}{n:Nat}{i:V}:h a=some (.aF es n)->es.length<=1000000->cz 8 i->Q (h.upd a (.aF (dS es i v) (q5 es i n)))->wR v h Q (.ref a) i
 |lst{a:L}{vs:aj}{j:Int}:h a=some (.lst vs)->vs.length<=1000000->0<=j->j<vs.length->Q (h.upd a (.lst (vs.set j.toNat v)))->wR v h Q (.ref a) (.int j)
noncomputable abbrev ahq(o i v:V)(h:H)(Q:H->Prop):Prop:=wR v h Q o i
noncomputable abbrev SV(o i v:V)(h:H)(Q:H->Prop):Prop:=wR v h Q o i
noncomputable def rq(v:V)(h:H)(Q:aj->Prop):Prop:=v.rec (motive_1:=λ_=>Prop) (motive_2:=λ_=>Unit) False (λ_=>False) (λ_=>False) (λ_=>False) (λvs _=>Q vs) (λl=>∃vs,dR h l vs/\Q vs) () λ_ _ _ _=>()
noncomputable abbrev r9:=aj->Fm->H->(Fm->H->Prop)->Prop
noncomputable def r6(B:Bk)(g:Bool)(t:Bool)(k:Nat)(nm:ag)(es:List Expr)(m:r9):Prop:=
 ∀env loc h s A (Q:Fm->H->Prop) (E:aa) vs xs,At B t k nm env loc h s A->aY h s.heap vs xs->m vs (cj nm loc) h.c Q->wpAny B.M A (assignInOrder (es.map λe=>assign e env) xs) (qI B nm g env h s Q) E s
noncomputable def dE(m:TW)(ms:r9):r9:=λvs loc h Q=>vs.rec False λv r _=>m v loc h λcC h'=>ms r cC h' Q
noncomputable def ib:r9:=λvs loc h Q=>vs=[]/\Q loc h
inductive ze(h:H)(Q:ab):Operator->V->V->Prop
 |add{x y:Int}:Q (.int (x+y)) h->ze h Q .Add (.int x) (.int y)
 |sub{x y:Int}:Q (.int (x - y)) h->ze h Q .Sub (.int x) (.int y)
noncomputable abbrev xa(op:Operator)(a b:V)(h:H)(Q:ab):Prop:=ze h Q op a b
noncomputable abbrev Le(es:List Expr):Prop:=∀env,assignEach es env=es.map λe=>(false,assign e env)
section
variable{B:Bk}{t g:Bool}{k n c:Nat}{nm:ag}{env:Env}{loc oM:Loc}{h az:HA}{s s₁ s':Shared}{A:Around}{E:aa}{o i e tg:Expr}{es:List Expr}{pos p aix:Pos}{x:Str}{m mo mi:EW}{tw:TW}{ms:r9}{op:Operator}{u:Unit}
theorem qI.mono{Q:Fm->H->Prop}(S:Step (xK g env) h s.heap az s₁.heap)(e:qI B nm g env az s₁ Q u s'):qI B nm g env h s Q u s':=by
 cases e with
 |mk l h' a b c d=>exact .mk l h' a b (S.trans c) d
theorem Us{Q:Fm->H->Prop}{m:Sem Unit}{cr:Shared}(S:Step (xK g env) h s.heap az s₁.heap)(w:wpAny B.M A m (qI B nm g env az s₁ Q) E cr):wpAny B.M A m (qI B nm g env h s Q) E cr:=dK w (λ_ _ e=>e.mono S) λ_ _ e=>e
theorem pN.go{Q:Fm->H->Prop}{m:Sem Unit}(a:At B t k nm env loc az s₁ A)(S:Step c0 h s.heap az s₁.heap)(w:wpAny B.M A m (pN B az s₁ (Q (cj nm loc))) E s₁){P:Unit->Shared->Prop}(kk:∀aU cr,At B t k nm env loc aU cr A->Step c0 h s.heap aU cr.heap->Q (cj nm loc) aU.c->P () cr):wpAny B.M A m P E s₁:=
 dK w (λ_ cr z=>by cases z with|mk aU dd be ck=>exact kk aU cr (a.step dd be) (S.trans be) ck) λ_ _ e=>e
theorem fy.attr(X:lL B){n:Str}(ho:aV B t k nm o m)(hn:n∈lY):fy B g t k nm (.Attribute o n pos) λv loc h Q=>m loc h λov az=>yL n ov v az λaU=>Q loc aU:=λenv loc h s A Q E v x a r q=>by
 rw [assign_Attribute]
 exact ax (c8 (ho.go a q λov az y s₁ ro br aR bG aX=>ax (jY (ax (c8 (pN.go bG aR (R7 X hn br ro (r.step a.R aR) aX) λaU cr dh be ck=>wpAny_release (.mk loc aU dh.R dh.F be.all ck)))))))
theorem aY.set{g:Heap}{vs:aj}{v:V}{y:Value}(r:aP h g v y):∀{xs:ao} {j:Nat},aY h g vs xs->aY h g (vs.set j v) (xs.set j y):=by
 induction vs with
 |nil=>exact λq=>q.mG (P:=λxs=>aY h g [] (xs.set _ y)) rfl
 |cons u vs ih=>
  intro xs j q
  cases j with
  |zero=>exact q.hW (P:=λxs=>aY h g _ (xs.set 0 y)) λ_ _ _ b=>.cons r b
  |succ j=>exact q.hW (P:=λxs=>aY h g _ (xs.set (j+1) y)) λ_ _ a b=>.cons a (ih b)
theorem ahr{prog:Program}{w:World}{l:Addr}{items:aq}{j:Nat}{i:Int}{t:Tok}{v:Value}{Q:Unit->Shared->Prop}(ho:LstAt s.heap l items n)(ei:(j:Int)=i)(hj:j<items.size)(hf:i<2^63)
 (hQ:Q () {s with heap:=s.heap.update l (Obj.mapSeq (·.setIfInBounds j v))}):wpAny (model prog w) A (setItem (.ref l) (.int i t) v) Q E s:=by
 have hl:s.heap.IsList l items:=⟨_,ho,rfl,_,rfl⟩
 have hg:=fitsIndex_of (ei▸gx j) hf
 clear hf
 refine c8 (ax (IC hl.typeIs (by decide) (ax (qk (name:=Str.ofString "__setitem__") hl.typeIs VF (jD VF hl.typeIs PySem.entry_list_setitem
  ?_ (PySem.args_list_setitem _ _ _))))))
 refine ax (m:=Builtin.List.listSubscript? (.int i t)) (wpAny_listSubscript_int hg ?_)
 subst ei
 refine ax (m:=seqItemAt l j>>= λr=>pure (r.map (j,·))) (ax (wpAny_seqItemAt ho rfl (aG ?_)))
 rw [Array.getElem?_eq_getElem hj]
 exact ax (m:=setSeqItemAt l j v) (wpAny_setSeqItemAt ho rfl (aG ⟨.none,rfl,aG hQ⟩))
theorem afl{Q:H->Prop}{o i v:V}{x y z:Value}(R:aI B h s)(T:fM B t k A)(ro:aP h s.heap o x)(ri:aP h s.heap i y)(rv:aP h s.heap v z)(q:ahq o i v h.c Q):wpAny B.M A (setItem x y z) (pN B h s Q) E s:=by
 induction q with
 | @aF a es n i e hl ki q=>
  refine ro.cA λ_=>R.aF e λaQ ho _ _ _=>?_
  have hT:s.TypeIs (.ref (h.adr a)) "dict":=⟨_,ho,rfl⟩
  exact c8 (ax (IC hT (by decide) (ax (qk (name:=Str.ofString "__setitem__") hT slot_dict_setitem (jD slot_dict_setitem hT entry_dict_setitem
   (ax (m:=Builtin.Dict.notOrdered "__setitem__" ⟨[.ref (h.adr a),y,z],[]⟩) (Uk hT (ax (m:=dictSet (h.adr a) y z) (EM R (rp (A:=A) T (cB 100)) e hl ki ri rv λs' R' S'=>aG ⟨.none,rfl,aG (.mk _ R' S' q)⟩)))) (args_dict_setitem _ _ _))))))
 | @lst a vs j e hl h0 h1 q=>
  have ej:(j.toNat:Int)=j:=zI h0
  exact ro.cA λ_=>ri.dG λtk=>R.lst e λxs n hx rx=>
   have hj:j.toNat<xs.size:=rx.size▸iW.1 (ej.symm▸h1)
   have T:=R.vX e hx (f:=λxs=>xs.setIfInBounds j.toNat z) (vs':=vs.set j.toNat v) (tk:=s.toks) ((Array.toList_setIfInBounds (xs:=xs)).symm▸rx.set rv)
   ahr hx ej hj (ej▸tv (aw (cN hj) (rx.size▸hl))) (.mk _ T.1 T.2 q)
theorem fy.item(ho:aV B t k nm o mo)(hi:aV B t k nm i mi):fy B g t k nm (.Subscript o i pos) λv loc h Q=>mo loc h λov az=>mi loc az λiv aU=>SV ov iv v aU λc6=>Q loc c6:=λenv loc h s A Q E v x a r q=>by
 rw [assign_Subscript]
 exact ax (c8 (ho.go a q λov az y s₁ ro br aR bG aX=>ax (c8 (hi.go bG aX λiv aU z cr ri dd be dh ck=>ax (jY (ax (c8
  (pN.go dh (aR.trans be) (afl dd a.T (ro.step br be) ri (r.step a.R (aR.trans be)) ck) λc6 fL gJ eN fX=>wpAny_release (.mk loc c6 gJ.R gJ.F eN.all fX)))))))))
theorem aiJ{P P':aj->Prop}{h:H}{v:V}(q:rq v h P)(w:∀vs,P vs->P' vs):rq v h P':=by
 cases v with
 |tup vs=>exact w _ q
 |ref l=>exact q.elim λvs z=>⟨vs,z.1,w _ z.2⟩
 |_=>exact q.elim
theorem XD{it l:Addr}{items:aq}{n i:Nat}{Q:ao->Shared->Prop}(jy:l≠it)(hit:s.heap.IsListIter it l i)(ht:s.heap.IsList l items)(hle:i+n<=items.size)
 (hQ:∀h',h'.IsListIter it l (i+n)->Heap.SameBut it s.heap h'->Q ((items.toList.drop i).take n) {s with heap:=h'}):wpAny B.M A (draw (.ref it) n) Q E s:=by
 induction n generalizing i s Q with
 |zero=>exact aG (List.take_zero▸hQ s.heap hit (C8 ..))
 |succ n ih=>
  have jw:i<items.size:=dD (DA (iA n)) hle
  have e:i+(n+1)=i+1+n:=(uD i n).symm
  exact ax (Un hit ht (x:=items[i]) (zb jw) λaz Fn x0=>ax (c8 (ih (s:={s with heap:=az}) Fn (ht.extBut x0.extBut jy) (e▸hle) λaU Zs ZE=>aG
   ((au (List.take (n+1)) (Vo (l:=items.toList) jw)).trans List.take_succ_cons▸hQ aU (e▸Zs) (x0.trans ZE)))))
theorem aiK{t:Addr}{items:aq}{Q:ao->Shared->Prop}(hh:A.handled=none)(ht:s.heap.IsList t items)(hQ:∀h',Heap.ExtBut s.heap.objs.size s.heap h'->Q items.toList {s with heap:=h'}):wpAny B.M A (unpackItems (.ref t) items.size none) Q E s:=by
 have jw:t≠s.heap.objs.size:=ht.elim λo z=>m8 (jH z.1)
 refine ax (m:=notIterableAtAll _) (ax (m:=specialOf _ _) (y3 ht.typeIs slot_list_iter.lookup (aG (bZ rfl (ax (c8 (IB ht (ax (c8 (XD (i:=0) jw ⟨_,dW _ rfl,rfl,rfl⟩ (ht.push _) (aL (og _)) λaz Fn x0=>?_))))))))))
 rw [show(items.toList.drop 0).take items.size=items.toList from List.take_of_length_le (Nat.le_refl _)]
 exact bZ (cQ (kh _)) (ax (c8 (Um hh Fn ((ht.push _).extBut x0.extBut jw) (U0 (aL (og _).symm)) λaU Zk=>aG (hQ aU λb o hb e=>Zk b o hb (x0.extBut b o hb (c9 _ e))))))
theorem R8{v:V}{x:Value}{Q:ao->Shared->Prop}{P:aj->Prop}(a:At B true k nm env loc h s A)(r:aP h s.heap v x)(q:rq v h.c λvs=>vs.length=n/\P vs)
 (hQ:∀vs xs s',P vs->aY h s'.heap vs xs->At B true k nm env loc h s' A->Step c0 h s.heap h s'.heap->Q xs s'):wpAny B.M A (unpackItems x n none) Q E s:=by
 have fin:∀{vs:aj} {xs:ao},P vs->aY h s.heap vs xs->∀h',Heap.ExtBut s.heap.objs.size s.heap h'->Q xs {s with heap:=h'}:=λp rx h' z=>
  have kp:∀b o,s.heap.get? b=some o->h'.get? b=some o:=λb o e=>z b o (m8 (jH e)) e
  have S':Step c0 h s.heap h h':=.more kp (λ_ e=>⟨e,rfl⟩) λ_ a b=>absurd b a
  hQ _ _ _ p (rx.bM (S'.tN a.R)) (a.step (s':={s with heap:=h'}) (a.R.more (s':={s with heap:=h'}) kp rfl rfl) S') S'
 cases v with
 |tup vs=>exact r.iP λl xs hx rx=>(q.1.symm.trans rx.size:n=xs.size)▸wpAny_unpackItems_tuple (a.T.handled rfl) ⟨_,hx,rfl,_,rfl⟩ (fin q.2 rx)
 |ref l=>exact q.elim λvs q=>r.cA λ_=>q.1.rep a.R λxs m hx rx=>(q.2.1.symm.trans rx.size:n=xs.size)▸aiK (a.T.handled rfl) ⟨_,hx,rfl,_,rfl⟩ (fin q.2.2 rx)
 |_=>exact q.elim
theorem r6.nil:r6 B g t k nm [] ib:=λenv loc h s A Q E vs xs a r q=>by
 cases q.1
 exact r.mG (aG (.mk loc h a.R a.F .refl q.2))
theorem r6.cons(he:fy B g t k nm e tw)(dY:r6 B g t k nm es ms):r6 B g t k nm (e::es) (dE tw ms):=λenv loc h s A Q E vs xs a r q=>by
 cases vs with
 |nil=>exact q.elim
 |cons v vs=>exact r.hW λy ys r1 r2=>ax (m:=holding ys (assign e env y)) (c8 (dK (he env loc h s A _ E v y a r1 q) (λ_ s₁ z=>by
  cases z with
  |mk oM az br U' aR aX=>exact Us aR (dY env oM az s₁ A Q E vs ys ⟨a.S,U',br,a.T⟩ (r2.bM (aR.stays a.R λb xs f=>a.F.qW b xs (YH f))) aX)) λ_ _ e=>e))
theorem fy.tuple(dY:r6 B g true k nm es ms)(hp:Le es):fy B g true k nm (.Tuple es c pos) λv loc h Q=>rq v h λvs=>vs.length=es.length/\ms vs loc h Q:=λenv loc h s A Q E v x a r q=>by
 rw [arm_assign_Tuple]
 refine ax (jY ?_)
 unfold unpack
 rw [hp env,List.findIdx?_eq_none_iff.mpr λx hx=>(List.mem_map.mp hx).elim λ_ z=>(congrArg Prod.fst z.2.symm:x.1=false),List.length_map,List.map_map]
 exact ax (c8 (R8 a r q λvs xs s₁ p rx bG aR=>Us aR.all (dY env loc h s₁ A Q E vs xs bG rx p)))
theorem cT.V'(he:aV B t k nm e m)(ht:fy B true t k nm tg tw)(hs:∀env,iC env nm->swapsWith e (some tg) pos.line env=pure false)(hw:∀env,swappedStores [tg] e env=pure none)(h1:∀env,(assignEach [tg] env).map (·.2)=[PySem.assign tg env]):
 cT B t k nm (.Assign [tg] e pos) λloc h Q=>m loc h λv h'=>tw v loc h' λcC bP=>Q .next cC bP:=λenv _ _ _ _ _ _ a q=>
 wpAny_Assign_stores (he.go a q λv az y s₁ r br aR bG aX=>h1 env▸ht.go bG r aX λmB aU cr dh be ck=>.done dh (aR.all.trans be) .next ck) (hs env a.S) (hw env)
theorem RY:fb B t k (inplaceOp op) (xa op):=λA h s Q E a b x y R T ra rb q=>by
 induction q with
 |add q=>exact ra.dG λ_=>rb.dG λ_=>PyProof.Rows.iadd_int (.val (v:=.int _) R ⟨_,rfl⟩ q)
 |sub q=>exact ra.dG λ_=>rb.dG λ_=>PyProof.Rows.isub_int (.val (v:=.int _) R ⟨_,rfl⟩ q)
theorem y5{m:Sem Value}{Q:ab}(a:At B t k nm env loc h s A)(w:wpAny B.M A m (EPost B h s Q) E s){P:aa}(kk:∀v az x s₁,aP az s₁.heap v x->aI B az s₁->Step c0 h s.heap az s₁.heap->At B t k nm env loc az s₁ A->Q v az.c->P x s₁):wpAny B.M A m P E s:=
 dK w (λx s₁ z=>by cases z with|mk v az r R S q=>exact kk v az x s₁ r R S (a.step R S) q) λ_ _ e=>e
theorem cT.We(he:aV B t k nm e m)(hx:nm.lookup x=some .local):
 cT B t k nm (.AugAssign (.Name x p) op e pos) λg h Q=>an (gq nm x) g h λa az=>m g az λb aU=>xa op a b aU λv c6=>Q .next (g.set (gq nm x) (some v)) c6:=λenv loc h s A Q E a q=>q.elim λu q=>by
 cases a.F.ns with
 |mk mm n am=>exact(am x u (AV hx q.1) (a.S.loc x hx)).elim λy w=>wpAny_AugAssign_Name (wpAny_loadName_local a.S.kind (a.S.loc x hx) n w.1 (he.go a q.2 λb az z s₁ rb br aR bG aX=>y5 bG (RY A az s₁ _ E _ _ _ _ br a.T (w.2.step a.R aR) rb aX) λv aU _ cr rv dd be dh ck=>
  HZ dh rv (.inl hx) λs' a' S'=>.done a' ((aR.trans be).all.trans S') .next (sN a.S.nodup hx▸ck)))
theorem cT.Wd(X:lL B){n:Str}(ho:aV B t k nm o mo)(he:aV B t k nm e m)(hn:n∈lY):
 cT B t k nm (.AugAssign (.Attribute o n aix) op e pos) λloc h Q=>mo loc h λov az=>uP n ov az λa aU=>m loc aU λb c6=>xa op a b c6 λv ja=>yL n ov v ja λsT=>Q .next loc sT:=λenv loc h s A Q E a q=>
 wpAny_AugAssign_AttributeAny (ho.go a q λov az x s₁ ro br aR bG aX=>y5 bG (RX X hn br ro aX) λw aU y cr ra dd be dh ck=>he.go dh ck λb c6 z fL rb qF eN gJ fX=>y5 gJ (RY A c6 fL _ E _ _ _ _ qF a.T (ra.step dd eN) rb fX) λv ja u kM rv DL nw xb agc=>
  pN.go xb (aR.trans (be.trans (eN.trans nw))) (R7 X hn DL (ro.step br (be.trans (eN.trans nw))) rv agc) λsT aib Wg z6 HH=>.done Wg z6.all .next HH)
end
noncomputable def vt(ps:List Str)(vs:aj):Loc:=λx=>(ps.zip vs).lookup x
structure Cx(B:Bk)(f:Addr)(fd:FuncData)(body:List Stmt)(ps:List Str)(nm:ag):Prop where
 at_:∃o,B.K.lookup f=some o/\o.data= .func fd
 body:fd.body= .stmts body
 code:codeIn B.K fd.code fd.qualname=true
 names:fd.scope.names=nm
 kind:fd.scope.kind= .function
 co:fd.scope.isCoroutine=false
 gen:fd.scope.isGenerator=false
 di:fd.closure=[]
 glob:fd.globals=mainGlobals
 blt:fd.builtins=builtinsNs
 nodup:ps.Nodup
 Rr:(nm.map (·.1)).Nodup
 params:∀p∈ps,nm.lookup p=some .local\/(nm.lookup p=some .cell/\∀n,((cellsFrom n nm []).lookup p).isSome=true)
 cells:∀x,nm.lookup x=some .cell->∀n,((cellsFrom n nm []).lookup x).isSome=true
 Hd:∀n x,((cellsFrom n nm []).lookup x).isSome=true->nm.lookup x=some .cell
 free:∀x,nm.lookup x≠some .free
noncomputable def Bk.deep(B:Bk)(L:Addr):Bk:={B with cW:=L::B.cW}
noncomputable def c7(f:Fl):V:=f.rec .none .none .none id
noncomputable def lN(B:Bk)(t:Bool)(k:Nat)(f:Value)(Fw:aj->H->(ab)->Prop):Prop:=
 ∀A h s (Q:ab) (E:aa) vs xs,aI B h s->fM B t k A->aY h s.heap vs xs->Fw vs h.c Q->
  codeAny B.M A (.call f ⟨xs,[]⟩) (λr s'=>wpAny_runValue.match_1 (λ_=>Prop) r (λv=>EPost B h s Q v s') (λ_=>False) λe=>E e s') s
section
variable{B:Bk}{t:Bool}{k n:Nat}{nm:ag}{kd:Str->Option NameKind}{x:Str}{bs:List (Str×Value)}{ps:List Str}{h:HA}{g:Heap}{s:Shared}{v:V}{L b:Addr}{env:Env}{A:Around}{c:Addr}{rest:ao}
theorem Mv(hx:x∉bs.map (·.1)):∀{m:Str->Option Value},bindL kd bs m x=m x/\bindC kd bs m x=m x:=by
 induction bs with
 |nil=>exact⟨rfl,rfl⟩
 |cons p r ih=>
  intro m
  have hx:=(not_congr dP).mp hx
  have ih:=@ih λz=>hx (.inr z)
  have n:(if x=p.1 then some p.2 else m x)=m x:=bD λz=>hx (.inl z)
  exact(aN (kd p.1=some .local)).elim (λc=>⟨ih.1.trans ((sI (bz c) x).trans n),ih.2.trans (sI (bz c) x)⟩) λc=>⟨ih.1.trans (sI (bD c) x),ih.2.trans ((sI (bD c) x).trans n)⟩
theorem UY{xs:ao}(h:x∈(ps.zip xs).map (·.1)):x∈ps:=(bg.1 h).elim λp z=>z.2▸(List.of_mem_zip (a:=p.1) (b:=p.2) z.1).1
theorem Mu(hn:ps.Nodup):∀{vs:aj} {xs:ao},aY h g vs xs->(ps.zip vs).lookup x=some v->∃y,aP h g v y/\∀m,(kd x=some .local->bindL kd (ps.zip xs) m x=some y)/\(kd x≠some .local->bindC kd (ps.zip xs) m x=some y):=by
 induction ps with
 |nil=>intro vs xs _ e;cases e
 |cons p ps ih=>
  intro vs xs r e
  have hn:=gX.1 hn
  cases vs with
  |nil=>cases e
  |cons u vs=>
   refine r.hW (P:=λxs=>∃y,aP h g v y/\∀m,(kd x=some .local->bindL kd ((p::ps).zip xs) m x=some y)/\(kd x≠some .local->bindC kd ((p::ps).zip xs) m x=some y)) λy ys r1 r2=>?_
   refine(aN (x=p)).elim (λq=>?_) λq=>?_
   ·subst q
    have no:x∉(ps.zip ys).map (·.1):=λz=>hn.1 (UY z)
    exact⟨y,bc (Kw.symm.trans e)▸r1,λm=>⟨λhl=>(Mv no).1.trans ((sI (bz hl) x).trans (bz rfl)),λhl=>(Mv no).2.trans ((sI (bD hl) x).trans (bz rfl))⟩⟩
   ·rw [List.zip_cons_cons,List.lookup_cons,beq_eq_false_iff_ne.mpr q] at e
    exact(ih hn.2 r2 e).imp λy z=>⟨z.1,λm=>⟨λhl=>(z.2 _).1 hl,λhl=>(z.2 _).2 hl⟩⟩
theorem aI.deep(R:aI B h s)(a:B.av.get? L=none)(b:¬h.used L)(c:∃o es ep,s.heap.get? L=some o/\o.data= .dict es ep):aI (B.deep L) h s:=
 ⟨R.keep,R.objs,R.fresh,R.mods,R.inj,R.ay,R.os,R.gens,λx hx=>(dP.1 hx).elim (λz=>by cases z;exact⟨a,b,c⟩) (R.cW x)⟩
theorem aI.back(R:aI (B.deep L) h s):aI B h s:=⟨R.keep,R.objs,R.fresh,R.mods,R.inj,R.ay,R.os,R.gens,λx hx=>R.cW x (iy _ hx)⟩
theorem lN.call{f:Value}{Fw:aj->H->(ab)->Prop}(c:lN B t k f Fw):dp B t k f Fw:=λA h s Q E vs xs R T rs q=>Iy (c A h s Q E vs xs R T rs q)
theorem units_le{a k c d:Nat}(h:a+10*(k+1)+200<c)(hd:d<=10):a+d+10*k+200<c:=b7 (uB (aw (aL (Dy a d (10*k))) (eV hd _)) 200) h
theorem MW{a k c:Nat}(h:a+(k+1)<c):a+1+k<c:=b7 (aL (Dy a 1 k)) h
theorem fM.deeper(T:fM B t (k+1) A)(hf:env.frame=some L)(hk:env.scope.kind= .function):fM (B.deep L) t k (A.deeper env):=
 ⟨MW T.depth,units_le (d:=3) T.units (by decide),T.guards,T.handled,T.frames.elim λl e=>⟨env::l,Around.frames_deeper e.1,kG (au List.cons hf) e.2.1,λe' he=>(dP.1 he).elim (λz=>z▸hk▸nofun) (e.2.2 e')⟩⟩
theorem E7(h:g.objs.size<=b):g.get? b=none:=ip λz=>gQ z λ_ e=>wE.2 h (jH e)
theorem YL{f:Addr}{fd:FuncData}{body:List Stmt}{ws:aj}{ys:ao}{q:Str}{fo:Option Addr}{s₁:Shared}(D:Cx B f fd body ps nm)(R:aI B h s)(T:fM B t (k+1) A)(rs:aY h s.heap ws ys)(he:env=newEnv fd.scope s.heap.objs.size fd.globals (cellsFrom (s.heap.objs.size+1) fd.scope.names []) q fo fd.code none fd.builtins)
 (x:InCallC s env.locals (bindL env.kindOf (ps.zip ys) λ_=>none) env.cells (bindC env.kindOf (ps.zip ys) λ_=>none) s₁)(br:aI B h s₁)(aR:Step c0 h s.heap h s₁.heap):
 At (B.deep env.locals) t k nm env (vt ps ws) h s₁ (A.deeper env)/\∀b,dM env b->s.heap.get? b=none:=by
 have Nj:env.locals=s.heap.objs.size:=he▸rfl
 have XO:env.cells=cellsFrom (s.heap.objs.size+1) nm []:=D.names▸he▸rfl
 have u7:∀y,env.kindOf y=nm.lookup y:=λy=>D.names▸he▸rfl
 have Nh:env.frame=some env.locals:=he▸rfl
 have Ni:env.scope.kind= .function:=he▸D.kind
 have SK:=rs.bM (aR.tN R)
 have Td:∀y,env.kindOf y=some .cell->∃c,env.cells.lookup y=some c:=λy e=>XO▸Vw.1 (D.cells y ((u7 y).symm.trans e) _)
 have new:∀b,dM env b->s.heap.get? b=none:=λb f=>f.elim (λe=>E7 (aL (e.trans Nj).symm)) λe=>e.elim λy e=>E7 (cN (Nj▸x.above y b (mem_of_lookup e)))
 have F:iV (B.deep env.locals) env (vt ps ws) h s₁.heap:=⟨.mk _ x.toInCall.ns λy v e kx=>(Mu D.nodup SK e).imp λw z=>⟨(z.2 _).1 kx,z.1⟩,λy v e kx=>(Mu (kd:=env.kindOf) D.nodup SK e).elim λw z=>
  have kc:env.kindOf y=some .cell:=kx.elim id λkx=>absurd ((u7 y).symm.trans kx) (D.free y)
  (Td y kc).elim λc hc=>(x.cell y c hc).elim λoc w'=>.mk c oc w hc w'.1 (w'.2.trans (au Data.cell ((z.2 _).2 λw=>nomatch kc.symm.trans w))) z.1,
  λb f u=>R.vd u (new b f),λb f=>R.av (new b f),Td,λy c e=>(x.cell y c e).imp λoc z=>⟨_,z⟩,λy z c e e'=>name_of_addr x.apart (mem_of_lookup e) (mem_of_lookup e'),λy c e=>jk (x.above y c (mem_of_lookup e)),env.locals,gk,Nh⟩
 exact⟨⟨⟨D.Rr,Ni,he▸D.glob,he▸D.blt,λy z=>(u7 y).trans z,λy z=>(u7 y).trans z,λy z=>(u7 y).trans z,λy z=>u7 y▸z⟩,F,br.deep (F.fresh _ (.inl rfl)) (F.off _ (.inl rfl)) (by
  cases F.ns with
  |mk m z=>exact z.imp λo z=>z.imp λes z=>z.imp λep z=>⟨z.1,z.2.1⟩),T.deeper Nh Ni⟩,new⟩
theorem lN.aeW(C:gB B){f:Addr}{fd:FuncData}{body:List Stmt}{Fw:aj->H->(ab)->Prop}{m:SW}{dv:aj}{ds:ao}(D:Cx B f fd body ps nm)
 (xS:∀h s,aI B h s->aY h s.heap dv ds)(xQ:∀s xs,B.K.In s.heap->xs.length=n->BindsTo s fd ⟨xs,[]⟩ (ps.zip (xs++ds)))
 (hb:∀L,fQ (B.deep L) t k nm body m)(hF:∀vs h Q,Fw vs h Q->vs.length=n/\m (cj nm (vt ps (vs++dv))) h λfl _ h'=>Q (c7 fl) h'):lN B t (k+1) (.ref f) Fw:=λA h s Q E vs xs R T rs q=>by
 have q:=hF vs h.c Q q
 have X:=R.X C
 refine D.at_.elim λo od=>codeAny_call_function (b7 (jh _ _) T.depth) (X _ _ od.1) od.2 D.co D.gen D.body (codeRec_of X D.code) (xQ s xs X (rs.length.symm.trans q.1) _ _ _ _ ?_)
 rw [D.di]
 refine wpAny_newFunctionEnv_cells D.kind (λx hx=>D.names▸(D.params x.1 (UY (bg.2 ⟨x,hx,rfl⟩))).imp id λz=>⟨z.1,z.2 _⟩) λenv he s₁ x=>?_
 have xW:=x.toInCall.keep
 obtain⟨g₁,tk,rfl⟩:=x.toInCall.same
 refine⟨(C.bk.lim.keeps R.keep).keeps xW,codeAny_func ?_⟩
 have aR:Step c0 h s.heap h g₁:=.more xW (λ_ e=>⟨e,rfl⟩) λ_ a b=>absurd b a
 have a:=YL (s₁:={s with heap:=g₁,toks:=tk}) D R T (rs.append (xS h s R)) he x (R.more xW rfl rfl) aR
 refine Av a.1 (hb env.locals env _ h _ _ _ _ a.1 q.2) λf fl cC h' cr rf dh be ck=>?_
 have S':Step c0 h s.heap h' cr.heap:=⟨λb o e u _=>be.oL b o (xW b o e) u λf=>cK e (a.2 b f),be.grow,λb u u'=>ip λz=>gQ z λo e=>cK (xW b o e) (be.new b u u'),λb e=>be.alive b (aR.alive b e)⟩
 induction rf with
 |ret r=>exact .mk _ h' r dh.R.back S' ck
 |_=>exact .mk .none h' rfl dh.R.back S' ck
theorem aih:(Code.builtin "type.__call__" ⟨.ref c::rest,[]⟩).weight=1:=by kernel_rfl
theorem aig:(Code.builtin "type.__call__" ⟨.ref c::rest,[]⟩).cUnits=1:=by kernel_rfl
theorem aif:(Code.builtin "type.__call__" ⟨.ref c::rest,[]⟩).guards=[]:=by kernel_rfl
theorem aie:(Code.builtin "type.__call__" ⟨.ref c::rest,[]⟩).envs=[]:=by kernel_rfl
theorem fM.make(T:fM B t (k+1) A):fM B t k (A.under (.builtin "type.__call__" ⟨.ref c::rest,[]⟩)):=by
 refine⟨?_,?_,?_,T.handled,?_⟩
 ·exact(au (λn=>A.depth+n+k<recursionLimit) (aih (c:=c) (rest:=rest))).mpr (MW T.depth)
 ·exact(au (λn=>A.units+n+10*k+200<cLine) (aig (c:=c) (rest:=rest))).mpr (units_le (d:=1) T.units (by decide))
 ·exact(au (λg=>pushGuards g A.guards) (aif (c:=c) (rest:=rest))).trans T.guards
 ·exact T.frames.imp λl e=>⟨(au (λg=>pushEnvs g A.frames) (aie (c:=c) (rest:=rest))).trans e.1,e.2⟩
theorem lN.ofClass(C:gB B){c:CN}{f:Addr}{Fi:aj->H->(ab)->Prop}(hm:makesIn B.K (B.cls c)=true)(hi:findIn B.K (.ref (B.cls c)) "__init__"=some (some (.ref f)))(hf:isFn B.K (.ref f)=true)
 (hc:lN B t k (.ref f) Fi):lN B t (k+1) (.ref (B.cls c)) λvs h Q=>dJ (.inst c λ_=>none) h λv h'=>Fi (v::vs) h' λr bP=>r= .none/\Q v bP:=λA h s Q E vs xs R T rs q=>(q R.ay).elim λl q=>by
 have X:=R.X C
 have hz:(s.heap.push emptyDict).objs.size=s.heap.objs.size+1:=C9 ..
 have hx:((s.heap.push emptyDict).push (instObj (B.cls c) s.heap.objs.size)).get? (s.heap.objs.size+1)=some (instObj (B.cls c) s.heap.objs.size):=hz▸dW _ rfl
 have hd:((s.heap.push emptyDict).push (instObj (B.cls c) s.heap.objs.size)).get? s.heap.objs.size=some emptyDict:=c9 _ (dW _ rfl)
 have Z:=R.add (s':={s with heap:=(s.heap.push emptyDict).push (instObj (B.cls c) s.heap.objs.size)}) (l:=l) (o:=.inst c λ_=>none) (a:=s.heap.objs.size+1) (d:=s.heap.objs.size) q.1 (λ_ _ z=>c9 _ (c9 _ z)) (E7 (jj _)) jv (λ_=>m8 (jM _)) (λz=>z.elim λ_ z=>z.elim λ_ z=>nomatch z)
  (λst=>⟨[],0,HA.nD.symm▸HA.w6.symm▸hx,HA.w6.symm▸hd,⟨λ_ _=>rfl,λ_ _ e=>(nomatch e),rfl,bH _⟩⟩) rfl rfl
 refine make_core (makes_of X hm) (Pf X hi) (λself=>bind_fn X self (i6.1 hf)) (.inl rfl) (codeAny_mono (hc _ _ _ _ E _ _ Z.1 T.make (.cons yW (rs.bM (Z.2.tN R))) q.2) λr s' z=>?_)
 cases r with
 |error e=>exact z
 |ok fl=>cases fl with
  |ret v=>cases z with
   |mk w h' rv dd be z=>
    cases z.1
    cases rv
    have g:=be.grow l (dj H.aJ)
    exact⟨rfl,.mk (.ref l) h' ⟨au Value.ref (g.2.trans HA.nD).symm,g.1⟩ dd (Z.2.trans be) z.2⟩
  |_=>exact z.elim
end
inductive KQ(h:H)(Q:ab):V->Prop
 |mk{i:Int}:Q (.int (-i)) h->KQ h Q (.int i)
noncomputable abbrev Rh(v:V)(h:H)(Q:ab):Prop:=KQ h Q v
inductive KE(h:H)(Q:ab):V->V->Prop
 |mk{x y:Int}: -1000000000<=y/\y<=1000000000->Q (.int (x*y)) h->KE h Q (.int x) (.int y)
noncomputable abbrev Rc(a b:V)(h:H)(Q:ab):Prop:=KE h Q a b
inductive Jw(h:H)(Q:ab):V->V->Prop
 |mk{x y:Int}:0<y/\y<=1000000000->Q (.int (x/y)) h->Jw h Q (.int x) (.int y)
noncomputable abbrev M4(a b:V)(h:H)(Q:ab):Prop:=Jw h Q a b
noncomputable abbrev NR:Str:=⟨#[37,115,32,45,62,32,60,101,109,112,116,121,62]⟩
inductive Dx(h:H)(Q:ab):V->V->Prop
 |int{x y:Int}:0<y->Q (.int (x%y)) h->Dx h Q (.int x) (.int y)
 |str{x:Str}:x.length<=100000->Q (.str (x++Str.ofString " -> <empty>")) h->Dx h Q (.str (Str.ofString "%s -> <empty>")) (.str x)
noncomputable abbrev Q9(a b:V)(h:H)(Q:ab):Prop:=Dx h Q a b
section
set_option maxRecDepth 100000
set_option maxHeartbeats 8000000 in
theorem Yu(z:Str)(t u:Tok)(hz:z.length<=1000000):Meets (Builtin.«str.__mod__» ⟨[.str NR t,.str z u],[]⟩) (λ_ R s=>∀t' k,R (.ok (.ret (.str (z++Str.ofString " -> <empty>") t'))) {s with toks:=k}):=by
 kpc_run_s
end
theorem Yt:Str.ofString "%s -> <empty>"=NR:=by decide+kernel
inductive IY(h:H)(Q:ab):aj->Prop
 |mk{a:L}{bs:List Bool}:h a=some (.lst (bs.map .bool))->Q (.bool (bs.all id)) h->IY h Q [.ref a]
noncomputable abbrev uO(us:aj)(h:H)(Q:ab):Prop:=IY h Q us
inductive Lz(h:H)(Q:ab):aj->Prop
 |mk{a:L}{ns:List Int}:h a=some (.lst (ns.map .int))->Q (.int ns.sum) h->Lz h Q [.ref a]
noncomputable abbrev BS(us:aj)(h:H)(Q:ab):Prop:=Lz h Q us
inductive KD(h:H)(Q:ab):aj->Prop
 |mk{x y:Int}:Q (.int (if y<x then y else x)) h->KD h Q [.int x,.int y]
noncomputable abbrev vA(us:aj)(h:H)(Q:ab):Prop:=KD h Q us
noncomputable abbrev JoinOk(x:Str)(ys:List Str):Prop:=(ys.map (·.length)).sum+ys.length*x.length<=1000000
inductive Df(h:H)(Q:ab):aj->Prop
 |tup{x:Str}{ys:List Str}:JoinOk x ys->Q (.str (Txt.join x ys)) h->Df h Q [.str x,.tup (ys.map .str)]
 |lst{x:Str}{a:L}{ys:List Str}:dR h a (ys.map .str)->JoinOk x ys->Q (.str (Txt.join x ys)) h->Df h Q [.str x,.ref a]
noncomputable abbrev vq(us:aj)(h:H)(Q:ab):Prop:=Df h Q us
inductive LP(h:H)(Q:ab):aj->Prop
 |mk{a:L}{vs:aj}:dR h a vs->vs.length<=1000000->Q (.tup vs) h->LP h Q [.ref a]
noncomputable abbrev rn(us:aj)(h:H)(Q:ab):Prop:=LP h Q us
inductive Dt(h:H)(Q:ab):aj->Prop
 |tup{vs:aj}:vs.length<=1000000->dJ (.lst vs) h Q->Dt h Q [.tup vs]
 |lst{a:L}{vs:aj}:dR h a vs->vs.length<=1000000->dJ (.lst vs) h Q->Dt h Q [.ref a]
noncomputable abbrev yf(us:aj)(h:H)(Q:ab):Prop:=Dt h Q us
inductive Ka(h:H)(Q:ab):aj->Prop
 |mk{a:L}{n:Nat}{v:V}{vs:aj}:h a=some (.lst vs)->n<=vs.length->vs.length<1000000->Q .none (h.upd a (.lst (vs.take n++v::vs.drop n)))->Ka h Q [.ref a,.int n,v]
noncomputable abbrev AL(us:aj)(h:H)(Q:ab):Prop:=Ka h Q us
noncomputable def Ri(us:aj)(h:H)(Q:ab):Prop:=us=[]/\dJ (.set []) h Q
inductive Lq(h:H)(Q:ab):aj->Prop
 |mk{a:L}{y:Str}{ys:List Str}:h a=some (.set ys)->ys.length<1000->Q .none (h.upd a (.set (if y∈ys then ys else ys++[y])))->Lq h Q [.ref a,.str y]
noncomputable abbrev vP(us:aj)(h:H)(Q:ab):Prop:=Lq h Q us
section
variable{B:Bk}{t:Bool}{k n:Nat}{nm:ag}{A:Around}{E:aa}{h:HA}{s:Shared}{v:V}{vs:aj}{x:Value}{Q:ab}{g h':Heap}{bs:List Bool}{xs:aq}{l:L}{a:Addr}
theorem aV.neg{e:Expr}{pos:Pos}{m:EW}(he:aV B t k nm e m):aV B t k nm (.UnaryOp .USub e pos) λloc h Q=>m loc h λv az=>Rh v az Q:=λ_ _ _ _ _ _ _ a q=>
 wpAny_UnaryOp (he.go a q λ_ _ _ _ r br aR _ aX=>by
  induction aX with
  |mk q=>exact r.dG λ_=>PyProof.Rows.neg_int ((EPost.val (v:=.int _) br ⟨_,rfl⟩ q).mono aR))
theorem afi:fb B t k (binaryOp .Mult) Rc:=λA h s Q E a b x y R T ra rb q=>by
 induction q with
 |mk c q=>exact ra.dG λ_=>rb.dG λ_=>PyProof.Rows.mul_int (.val (v:=.int _) R ⟨_,rfl⟩ q) (PySem.IntMulOk.of_right (PySem.intBits_le_64 (Int.lt_of_lt_of_le (by decide) c.1) (wk c.2 (by decide))))
theorem ae8:fb B t k (binaryOp .FloorDiv) M4:=λA h s Q E a b x y R T ra rb q=>by
 induction q with
 | @mk i j c q=>exact ra.dG λ_=>rb.dG λ_=>PyProof.Rows.floordiv_int (Ke c.1) (.val (v:=.int (i/j)) R ⟨_,au (Value.int · _) (Int.fdiv_eq_ediv_of_nonneg _ (Dc c.1))⟩ q) (.inl (PyProof.noPylong_small (iW.1 ((Int.natAbs_of_nonneg (Dc c.1)).symm▸wk c.2 (by decide:(1000000000:Int)<(1073741824:Nat))))))
theorem afh:fb B t k (binaryOp .Mod) Q9:=λA h s Q E a b x y R T ra rb q=>by
 induction q with
 | @int i j c q=>exact ra.dG λ_=>rb.dG λ_=>PyProof.Rows.mod_int' (Ke c) (.val (v:=.int (i%j)) R ⟨_,au (Value.int · _) (Int.fmod_eq_emod_of_nonneg _ (Dc c))⟩ q)
 | @str z hz q=>exact ra.eZ λ_=>rb.eZ λ_=>Yt▸KPc.mod_str (T:=λz=>z++Str.ofString " -> <empty>") rfl (aw hz (by decide)) (λz hz=>Yu z _ _ hz) λt' k=>.val (v:=.str _) R ⟨_,rfl⟩ q
theorem EPost.grown{tk:Nat}(R:aI B h s)(hk:∀b o,s.heap.get? b=some o->h'.get? b=some o)(r:aP h h' v x)(q:Q v h.c):EPost B h s Q x {s with heap:=h',toks:=tk}:=
 .mk v h r (R.more (s':={s with heap:=h',toks:=tk}) hk rfl rfl) (.more hk (λ_ e=>⟨e,rfl⟩) λ_ a b=>absurd b a) q
theorem ae1{it:Addr}{o:Obj}(hn:g.get? it=none)(hk:∀b o',b∉[it]->(g.push o).get? b=some o'->h'.get? b=some o'):∀b o,g.get? b=some o->h'.get? b=some o:=λb o e=>
 hk b o (λm=>cK e (a6.1 m▸hn)) (c9 _ e)
theorem getD_at{i:Nat}(hi:i<bs.length):bs[i]=bs.getD i false:=(au (Option.getD · false) (fu hi)).symm
theorem WB(r:aY h g (bs.map .bool) xs.toList){i:Nat}{v:Value}(e:xs[i]?=some v):v= .bool (bs.getD i false):=
 have hi:i<bs.length:=f5 (rK.1 e).1 (r.size.symm.trans (bx _))
 r.get' (n:=i) (v:=.bool bs[i]) (eL.trans (au (Option.map V.bool) (fu hi))) λy hy ry=>(bc (e.symm.trans hy)).trans ((ry:y= .bool bs[i]).trans (au Value.bool (getD_at hi)))
theorem all_range(bs:List Bool):(List.range bs.length).all (λi=>bs.getD i false)=bs.all id:=Cq.2 (d5.trans (Iff.trans
 ⟨λf b hb=>(List.getElem?_of_mem hb).elim λi hi=>have z:=cm.1 hi;z.elim λl e=>e▸getD_at l▸f i (kZ.2 l),λf i hi=>getD_at (kZ.1 hi)▸f _ (Dm (kZ.1 hi))⟩ d5.symm))
theorem WM:dp B true k (.builtin "all") uO:=λA h s Q E vs xs R T rs q=>by
 induction q with
 | @mk a bs e q=>
  exact rs.one λx rx=>rx.cA λ_=>R.lst e λxs n hx rx=>
   have hl:s.heap.IsList (h.adr a) xs:=⟨_,hx,rfl,_,rfl⟩
   call_all_walk (IB hl ⟨_,_,[s.heap.objs.size],_,_,_,λi=>bs.getD i false,rfl,Walks.list (A:=A.in1) (T.handled rfl) s.heap.objs.size (h.adr a) (m8 (jH hx)) xs,⟨⟨_,dW _ rfl,rfl,rfl⟩,hl.push _⟩,λi v s' Q' E' hP hQ=>WB rx hP▸ID hQ,λh' tk hk=>
    EPost.grown R (ae1 jv hk) (v:=.bool ((List.range xs.size).all λi=>bs.getD i false)) rfl (((au (λn=>(List.range n).all λi=>bs.getD i false) (rx.size.symm.trans (bx _))).trans (all_range bs)).symm▸q)⟩)
theorem ZT{p:Prop}{ns:List Int}:∀{xs:ao},aY h g (ns.map .int) xs->(∀ps:List (Int×Tok),xs=ps.map (λp=>.int p.1 p.2)->ps.map (·.1)=ns->p)->p:=by
 induction ns with
 |nil=>exact λr k=>k [] r rfl
 |cons n ns ih=>exact λr k=>r.elim λy r=>r.elim λys r=>r.2.1.elim λtk z=>ih r.2.2 λps e f=>k ((n,tk)::ps) (r.1.trans (kG (au List.cons z) e)) (au (n::·) f)
theorem W2:dp B true k (.builtin "sum") BS:=λA h s Q E vs xs R T rs q=>by
 induction q with
 | @mk a ns e q=>
  exact rs.one λx rx=>rx.cA λ_=>R.lst e λxs n hx rx=>ZT rx λps e1 e2=>
   have ex:xs=intItems ps.toArray:=zc.1 (e1.trans (by simp [intItems]))
   PySem.sum_intListG (xs:=ps.toArray) (T.handled rfl) ⟨_,hx,rfl,n,ex▸rfl⟩ λh' tk t' hk=>.grown R hk (v:=.int ns.sum) ⟨t',au (Value.int · t') ((preSum_eq ..).trans (au List.sum ((List.take_of_length_le (aL (bx _))).trans e2)))⟩ q
theorem WW:dp B true k (.builtin "min") vA:=λA h s Q E vs xs R T rs q=>by
 induction q with
 | @mk i j q=>exact rs.two λx y rx ry=>rx.dG λt1=>ry.dG λt2=>min_two_ints (T.handled rfl) λh' tk hk=>(aN (j<i)).elim (λz=>bz z▸.grown R hk (v:=.int j) ⟨_,rfl⟩ ((bz z:(if j<i then j else i)=j)▸q)) λz=>bD z▸.grown R hk (v:=.int i) ⟨_,rfl⟩ ((bD z:(if j<i then j else i)=i)▸q)
theorem H0{ys:List Str}:∀{xs:ao},aY h g (ys.map .str) xs->StrsAre xs ys:=by
 induction ys with
 |nil=>exact λr=>r.mG (P:=λxs=>StrsAre xs []) .nil
 |cons y ys ih=>exact λr=>r.hW (P:=λxs=>StrsAre xs (y::ys)) λz zs rz rs=>rz.eZ (p:=λz=>StrsAre (z::zs) (y::ys)) λtk=>.cons y tk (ih rs)
theorem WT:dp B t k (.builtin "str.join") vq:=λA h s Q E vs xs R T rs q=>by
 induction q with
 |tup hl q=>exact rs.two λx y rx ry=>rx.eZ λtk=>ry.iP λb bS hx rx=>join_tuple ⟨_,hx,rfl,_,rfl⟩ (H0 rx) (aw hl (by decide)) λt' k=>.val (v:=.str _) R ⟨_,rfl⟩ q
 |lst e hl q=>exact rs.two λx y rx ry=>rx.eZ λtk=>ry.cA λ_=>dR.rep R e λbS n hx rx=>join_list ⟨_,hx,rfl,_,rfl⟩ (H0 rx) (aw hl (by decide)) λt' k=>.val (v:=.str _) R ⟨_,rfl⟩ q
theorem W3:dp B t k (.type "tuple") rn:=λA h s Q E vs xs R T rs q=>by
 induction q with
 |mk e hl q=>
  exact rs.one λx rx=>rx.cA λ_=>dR.rep R e λbS n hx rx=>call_tuple_list ⟨_,hx,rfl,_,rfl⟩ (λh' hk=>
   have Ow:∀b o,s.heap.get? b=some o->(h'.push {cls:=.type "tuple",data:=.seq bS}).get? b=some o:=λb o e=>c9 _ (hk b o e)
   EPost.grown (tk:=s.toks) R Ow (v:=.tup _) ⟨_,bS,rfl,dW _ rfl,rx.bM (tO Ow)⟩ q) (rx.size▸iM hl)
theorem EPost.Of(R:aI B h s)(hk:∀b o,s.heap.get? b=some o->h'.get? b=some o)(hn:s.heap.get? a=none)(ha:LstAt h' a xs n)(r:aY h s.heap vs xs.toList)(q:dJ (.lst vs) h.c Q):EPost B h s Q (.ref a) {s with heap:=h'}:=(q R.ay).elim λl q=>
 have Z:=R.add (s':={s with heap:=h'}) (l:=l) (o:=.lst vs) (a:=a) (d:=a) q.1 hk hn hn (λz=>z.elim λ_ z=>z.elim λ_ z=>nomatch z) (λz=>z.elim λ_ z=>z.elim λ_ z=>nomatch z) (λst=>⟨xs,n,HA.nD.symm▸ha,r.bM st⟩) rfl rfl
 .mk (.ref l) _ yW Z.1 Z.2 q.2
theorem WV:dp B t k (.type "list") yf:=λA h s Q E vs xs R T rs q=>by
 induction q with
 |tup hl q=>exact rs.one λx rx=>rx.iP λb bS hx rx=>call_list_seq b (T:="tuple") (.inr rfl) hx rfl rfl (λh' c' hk ha=>.Of R hk jv ha rx q) (rx.size▸iM hl)
 |lst e hl q=>exact rs.one λx rx=>rx.cA λ_=>dR.rep R e λbS n hx rx=>call_list_seq _ (T:="list") (.inl rfl) hx rfl rfl (λh' c' hk ha=>.Of R hk jv ha rx q) (rx.size▸iM hl)
noncomputable abbrev AJ(z:Value)(i:Int):aq->aq:=λxs=>have k:=if i<0 then(i+(xs.size:Int)).toNat else min i.toNat xs.size;(xs.extract 0 k).push z++xs.extract k
theorem ZP{z:Value}{n:Nat}(hn:n<=xs.size):(AJ z n xs).toList=xs.toList.take n++z::xs.toList.drop n:=by
 have hk:(if(n:Int)<0 then((n:Int)+(xs.size:Int)).toNat else min (n:Int).toNat xs.size)=n:=(bD (jI.2 (gx n))).trans (Nat.min_eq_left hn)
 unfold AJ
 dsimp only
 rw [hk]
 simp [List.take_of_length_le]
theorem ZQ{i:Int}{tk:Tok}{z:Value}{Q:aa}(hx:LstAt s.heap a xs n)(hi:0<=i)(hf:i<2^63)(hs:xs.size<=1000000)(q:Q .none {s with heap:=s.heap.update a (Obj.mapSeq (AJ z i))}):wpAny B.M A (call (.builtin "list.insert") [.ref a,.int i tk,z]) Q E s:=by
 have hg:¬(!Builtin.List.listFitsIndex i)=true:=λz=>jd ((au (!·) (fitsIndex_of hi hf)).symm.trans z)
 clear hf
 exact @call_meets B.prog B.w A E s "list" "insert" "list.insert" _ (.ref a) [.int i tk,z] _ _ VC ⟨_,hx,rfl⟩ PySem.F.entry_list_insert (PySem.F.args_list_insert_3 _ _ _) (AutoSeq1.list_insert_list_int_val_1 a xs n i tk z hg (iM hs)) ⟨hx,q⟩
theorem WS:dp B t k (.builtin "list.insert") AL:=λA h s Q E vs xs R T rs q=>by
 induction q with
 | @mk a n v ws e hn hl q=>
  exact rs.three λx y z rx ry rz=>rx.cA λ_=>ry.dG λtk=>R.lst e λbS m hx ri=>
   have hs:bS.size<=1000000:=ri.size▸cN hl
   have Z:=R.vX e hx (f:=AJ z n) (vs':=ws.take n++v::ws.drop n) (tk:=s.toks) ((ZP (z:=z) (xs:=bS) (ri.size▸hn)).symm▸(ri.take n).append (.cons rz (ri.drop n)))
   ZQ hx (gx n) (tv (aw hn (cN hl))) hs (.mk .none _ rfl Z.1 Z.2 q)
theorem aeV{o:Obj}{c:Value}{d:Option Addr}{dt:Data}{sl:Array (Option Value)}(h1:o.cls=c)(h2:o.dict=d)(h3:o.slots=sl)(h4:o.data=dt):o=⟨c,d,dt,sl⟩:=h1▸h2▸h3▸h4▸rfl
theorem r7.back{w:World}{prog:Program}{ys:List Str}{f:Str->Bool}(S:g.SetOf (PySem.strKind prog w) a f n)(hf:∀y,f y=true↔y∈ys)(hn:ys.Nodup)(hl:n=ys.length):
 ∃es ep t,g.get? a=some {cls:=.type "set",dict:=none,data:=.set es ep t,slots:=#[]}/\r7 w.params es ys/\t.fits es.size=true:=S.elim λo S=>S.imp λes S=>S.imp λep S=>S.imp λt S=>
 have he:=S.2.2.2.1
 ⟨S.1.trans (au some (aeV S.2.1.1 S.2.1.2.1 S.2.1.2.2 S.2.2.1)),⟨λe h=>(he e h).1.imp λy z=>(DX z.1).imp λtk w=>⟨w,z.2⟩,
  λy=>(hf y).symm.trans ((S.2.2.2.2.1 y).trans ⟨λz=>z.imp λe z=>⟨z.1,DX z.2⟩,λz=>z.imp λe z=>⟨z.1,z.2.elim λtk z=>(au (Value.isStrOf y) z).trans (iF y)⟩⟩),hn,S.2.2.2.2.2.2.2.trans hl,S.2.2.2.2.2.1⟩,S.2.2.2.2.2.2.1⟩
theorem WX:dp B t k (.type "set") Ri:=λA h s Q E vs xs R T rs q=>by
 cases q.1
 exact rs.mG (call_set_0 λled=>.new R q.2 (ob:={cls:=.type "set",dict:=none,data:=.set #[] 0 (.fresh 0 0 led)}) rfl (λ_ st ea eg=>⟨_,_,_,ea.symm▸eg,⟨λe he=>absurd he a0,λy=>⟨λz=>absurd z a0,λz=>z.elim λ_ z=>absurd z.1 a0⟩,.nil,rfl,by decide⟩,rfl⟩) rfl)
theorem V1{y z:Str}{ys:List Str}:(decide (z∈ys)||decide (z=y))=true↔z∈if y∈ys then ys else ys++[y]:=(aN (y∈ys)).elim
 (λm=>bz m▸⟨λq=>((lM _ _).mp q).elim cU λe=>cU e▸m,λq=>(lM _ _).mpr (.inl (cE q))⟩)
 λm=>bD m▸⟨λq=>bO.2 (((lM _ _).mp q).imp cU λe=>a6.2 (cU e)),λq=>(lM _ _).mpr ((bO.1 q).imp cE λe=>cE (a6.1 e))⟩
theorem V2{y:Str}{ys:List Str}(n:ys.Nodup):(if y∈ys then ys else ys++[y]).Nodup:=(aN (y∈ys)).elim (λm=>bz m▸n)
 λm=>bD m▸pp.2 ⟨n,qz _ _,λa ha b hb e=>m (a6.1 hb▸e▸ha)⟩
theorem V0{y:Str}{ys:List Str}:(if decide (y∈ys)=true then ys.length else ys.length+1)=(if y∈ys then ys else ys++[y]).length:=(aN (y∈ys)).elim (λm=>bz m▸bz (cE m))
 λm=>bD m▸(bD λz=>m (cU z)).trans (cw (as:=ys) (bs:=[y])).symm
theorem W0:dp B t k (.builtin "set.add") vP:=λA h s Q E vs xs R T rs q=>by
 induction q with
 | @mk a y ys e hl q=>
  exact rs.two λx z rx rz=>rx.cA λ_=>rz.eZ λtk=>R.set e λes ep tt ho S hf=>call_set_add (knd:=PySem.strKind B.prog B.w) (k:=y) (iF y) rfl (S.of (prog:=B.prog) ho hf) (b7 hl (by decide)) λh' sb VJ=>
   have Z:=r7.back VJ (λz=>V1) (V2 S.nodup) V0
   have al:h'.get? (h.adr a)≠none:=Z.elim λ_ Z=>Z.elim λ_ Z=>Z.elim λ_ Z=>dj Z.1
   have W:=R.turn (s':={s with heap:=h',toks:=s.toks+1}) (o':=.set (if y∈ys then ys else ys++[y])) (a:=h.adr a) e rfl rfl rfl sb.2 (λst=>Z) al rfl rfl
   .mk .none _ rfl W.1 W.2 q
end
noncomputable def vk(k:NameKind):NameKind:=if k= .free then .cell else k
noncomputable def fW(ns:ag):ag:=ns.map λp=>(p.1,vk p.2)
noncomputable def Ge(ns:ag)(loc:Loc):Loc:=λx=>if ns.lookup x=some .free then loc x else none
noncomputable def OF(nm ns:ag)(g:Fm):Fm:=ns.map λp=>if p.2= .free then(g[gq nm p.1]?).join else none
noncomputable def sj(env:Env)(cs:List (Str×Addr))(p:Str×NameKind):List (Str×Addr):=if p.2= .free then(env.cells.lookup p.1).elim cs λa=>(p.1,a)::cs else cs
noncomputable def shared(env:Env)(ns:ag)(cs:List (Str×Addr)):List (Str×Addr):=ns.foldl (sj env) cs
structure pf(nm:ag)(sc:Scope):Prop where
 kind:sc.kind= .function
 Hd:∀x∈sc.names,x.2≠.cell
 loc:∀x∈sc.names,x.2= .local->sc.names.lookup x.1=some .local
 free:∀x∈sc.names,x.2= .free->nm.lookup x.1=some .cell
 nodup:(sc.names.map (·.1)).Nodup
section
variable{ns nm:ag}{x:Str}{kd:NameKind}{env:Env}{cs:List (Str×Addr)}{loc:Loc}{v:V}{a:Addr}{sc:Scope}{p:Str×NameKind}
theorem aaz{α β:Type}{f:α->β}{l:List (Str×α)}:(l.map λp=>(p.1,f p.2)).lookup x=(l.lookup x).map f:=by
 induction l with
 |nil=>rfl
 |cons p l ih=>
  rw [List.map_cons,List.lookup_cons,List.lookup_cons]
  cases x==p.1 with
  |true=>rfl
  |false=>exact ih
theorem Rq:(fW ns).lookup x=(ns.lookup x).map vk:=aaz
theorem aeA:(fW ns).map (·.1)=ns.map (·.1):=gj
theorem agk(hk:env.scope.kind= .function)(hf:∀x∈ns,x.2= .free->env.kindOf x.1=some .cell):
 (ns.map λ(n,k)=>if(k==.free&&env.scope.kind==.function&&env.kindOf n==some .cell) then(n,.cell) else(n,k))=fW ns:=qy λx hx=>by
 cases x with
 |mk n c=>
  have hf:=hf _ hx
  dsimp only at hf⊢
  rw [hk]
  cases c with
  |free=>rw [hf rfl];rfl
  |_=>rfl
theorem Pd(e:Ge ns loc x=some v):ns.lookup x=some .free/\loc x=some v:=(aN (ns.lookup x=some .free)).elim (λc=>⟨c,(bz c).symm.trans e⟩) λc=>nomatch (bD c).symm.trans e
theorem lookup_mem{α:Type}{l:List (Str×α)}(d:(l.map (·.1)).Nodup){p:Str×α}(h:p∈l):l.lookup p.1=some p.2:=by
 induction l with
 |nil=>cases h
 |cons a r ih=>
  have d:=gX.1 d
  refine(dP.1 h).elim (λe=>e▸Kw) λh=>?_
  rw [List.lookup_cons,beq_eq_false_iff_ne.mpr λz=>d.1 (List.mem_map.mpr ⟨p,h,z⟩)]
  exact ih d.2 h
theorem YJ(N:pf nm sc):cj (fW sc.names) (Ge sc.names loc)=OF nm sc.names (cj nm loc):=gj.trans (qy λp hp=>by
 have hl:=lookup_mem N.nodup hp
 refine(aN (p.2= .free)).elim (λhf=>?_) λhf=>?_
 ·exact(bz (hl.trans (au some hf))).trans ((bz hf).trans (au Option.join (NW (loc:=loc) (N.free p hp hf)))).symm
 ·exact(bD λz=>hf (bc (hl.symm.trans z))).trans (bD hf).symm)
theorem wZ(hf:p.2= .free)(ha:env.cells.lookup p.1=some a):sj env cs p=(p.1,a)::cs:=(bz hf).trans (au (λo=>Option.elim o cs λa=>(p.1,a)::cs) ha)
theorem D3(hf:p.2≠.free):sj env cs p=cs:=bD hf
theorem L1(hf:p.2= .free)(ha:env.cells.lookup p.1=none):sj env cs p=cs:=(bz hf).trans (au (λo=>Option.elim o cs λa=>(p.1,a)::cs) ha)
theorem YN(hf:p.2≠.free):(p.2==NameKind.free)=false:=nF.2 hf
theorem ahA:(∀x∈ns,x.2= .free->∃a,env.cells.lookup x.1=some a)->∀{cs:List (Str×Addr)},
 (forIn ns cs λ(x:Str×NameKind) cs=>if(x.2==NameKind.free)=true then do let a<-cellOf env x.1;pure (ForInStep.yield ((x.1,a)::cs)) else pure (ForInStep.yield cs):Sem _)=pure (shared env ns cs):=by
 induction ns with
 |nil=>exact λ_ _=>rfl
 |cons p r ih=>
  intro h cs
  have ih:=@ih λx hx=>h x (iy _ hx)
  rw [List.forIn_cons]
  refine(aN (p.2= .free)).elim (λhf=>(h p gk hf).elim λa ha=>?_) λhf=>?_
  ·rw [if_pos (beq_iff_eq.mpr hf),cellOf,ha]
   exact(@ih ((p.1,a)::cs)).trans (au (λc=>pure (r.foldl (sj env) c)) (wZ hf ha).symm)
  ·rw [YN hf]
   exact(@ih cs).trans (au (λc=>pure (r.foldl (sj env) c)) (D3 hf).symm)
theorem Gh{y:Str}:((y,a)::cs).lookup x=if x=y then some a else cs.lookup x:=by
 rw [List.lookup_cons]
 exact(aN (x=y)).elim (λe=>by rw [if_pos e,beq_iff_eq.mpr e]) λe=>by rw [if_neg e,beq_eq_false_iff_ne.mpr e]
theorem ahD:∀{cs:List (Str×Addr)},(∀x a,cs.lookup x=some a->env.cells.lookup x=some a)->∀x a,(shared env ns cs).lookup x=some a->env.cells.lookup x=some a:=by
 induction ns with
 |nil=>exact id
 |cons p r ih=>
  intro cs h
  refine ih λx a=>(aN (p.2= .free)).elim (λhf=>?_) λhf=>D3 hf▸h x a
  cases ha:env.cells.lookup p.1 with
  |none=>exact λe=>h x a ((L1 (cs:=cs) hf ha)▸e)
  |some b=>exact λe=>(aN (x=p.1)).elim (λq=>q▸ha.trans ((bz q).symm.trans (Gh.symm.trans (wZ hf ha▸e)))) λq=>h x a ((bD q).symm.trans (Gh.symm.trans (wZ hf ha▸e)))
theorem ahC:∀{cs:List (Str×Addr)},(cs.lookup x).isSome=true->((shared env ns cs).lookup x).isSome=true:=by
 induction ns with
 |nil=>exact id
 |cons p r ih=>
  intro cs h
  refine ih ((aN (p.2= .free)).elim (λhf=>?_) λhf=>D3 hf▸h)
  cases ha:env.cells.lookup p.1 with
  |none=>rw [L1 hf ha];exact h
  |some b=>rw [wZ hf ha,Gh];exact(aN (x=p.1)).elim (λq=>by rw [if_pos q];rfl) λq=>by rw [if_neg q];exact h
theorem ahB(m:(x,NameKind.free)∈ns):(∀x∈ns,x.2= .free->∃a,env.cells.lookup x.1=some a)->∀{cs:List (Str×Addr)},((shared env ns cs).lookup x).isSome=true:=by
 induction ns with
 |nil=>cases m
 |cons p r ih=>
  intro h cs
  refine(dP.1 m).elim (λe=>?_) λm=>ih m λy hy=>h y (iy _ hy)
  subst e
  refine(h _ gk rfl).elim λa ha=>ahC (cs:=sj env cs (x,.free)) ?_
  rw [wZ rfl ha,List.lookup_cons_self];rfl
end
section
variable{B:Bk}{t:Bool}{k:Nat}{nm:ag}{env:Env}{loc:Loc}{h h':HA}{s:Shared}{A:Around}{sc:Scope}{g':Heap}{tk:Nat}{C:Addr}
noncomputable abbrev sG(sc:Scope)(env:Env)(C:Addr):Env:=compEnvC sc (shared env sc.names []) C env
theorem pf.cellsOf(N:pf nm sc)(a:At B t k nm env loc h s A):∀x∈sc.names,x.2= .free->∃a,env.cells.lookup x.1=some a:=λx hx hf=>a.F.cells x.1 (a.S.ce _ (N.free x hx hf))
theorem uY(x:Str)(c:Addr)(e:(sG sc env C).cells.lookup x=some c):env.cells.lookup x=some c:=ahD (cs:=[]) (λ_ _ e=>nomatch e) x c e
theorem EA{b:Addr}(f:dM (sG sc env C) b):b=C\/dM env b:=f.imp id λf=>.inr (f.imp λ_ e=>uY _ _ e)
theorem Xn(N:pf nm sc)(a:At B t k nm env loc h s A)(lx:g'.Ns s.heap.objs.size λ_=>none)(hk:∀b o,s.heap.get? b=some o->g'.get? b=some o):
 At B t k (fW sc.names) (sG sc env s.heap.objs.size) (Ge sc.names loc) h {s with heap:=g',toks:=tk} A:=by
 have bG:At B t k nm env loc h {s with heap:=g',toks:=tk} A:=a.step (a.R.more (s':={s with heap:=g',toks:=tk}) hk rfl rfl) (.more hk (λ_ e=>⟨e,rfl⟩) λ_ a b=>absurd b a)
 have Zl:=N.cellsOf a
 have kd:∀y,Env.kindOf (sG sc env s.heap.objs.size) y=(sc.names.lookup y).map vk:=λy=>(au (List.lookup y) (agk a.S.kind λx hx hf=>a.S.ce _ (N.free x hx hf))).trans Rq
 have kn:∀y,Env.kindOf (sG sc env s.heap.objs.size) y=(fW sc.names).lookup y:=λy=>(kd y).trans Rq.symm
 have has:∀y,sc.names.lookup y=some .free->∃c,(sG sc env s.heap.objs.size).cells.lookup y=some c:=λy e=>Vw.1 (ahB (cs:=[]) (mem_of_lookup e) Zl)
 have F:=bG.F
 refine⟨⟨(au List.Nodup aeA).mpr N.nodup,N.kind,a.S.glob,a.S.blt,λy z=>(kn y).trans z,λy z=>(kn y).trans z,λy z=>(kn y).trans z,λy z=>kn y▸z⟩,⟨.mk _ lx λy w e ky=>(nomatch ((kd y).trans (au (Option.map vk) (Pd e).1)).symm.trans ky),λy w e _=>?_,
  λb f=>(EA f).elim (λe=>e▸a.R.S9) (F.off b),λb f=>(EA f).elim (λe=>e▸a.R.av jv) (F.fresh b),λy e=>?_,λy c e=>F.sW y c (uY _ _ e),λy z c e e'=>F.inj y z c (uY _ _ e) (uY _ _ e'),λy c e z=>a.F.Ed (.inr ⟨y,uY _ _ e⟩) (z▸jv),F.frame⟩,bG.R,a.T⟩
 ·have z:=Pd e
  cases F.cell y w z.2 (.inl (a.S.ce y (N.free _ (mem_of_lookup z.1) rfl))) with
  |mk c o u hc ho hd ru=>exact(has y z.1).elim λc' Oq=>.mk c' o u Oq (bc (hc.symm.trans (uY _ _ Oq))▸ho) hd ru
 ·have e:=(kd y).symm.trans e
  exact nQ e λc hc ec=>by
   cases c with
   |free=>exact has y hc
   |cell=>exact absurd rfl (N.Hd _ (mem_of_lookup hc))
   |_=>cases ec
end
noncomputable abbrev qq:=L->Fm->H->(H->Prop)->Prop
noncomputable def pH(B:Bk)(t:Bool)(k:Nat)(nm:ag)(emit:Env->Value->Sem Unit)(ma:qq):Prop:=
 ∀env loc h s A (Q:H->Prop) (E:aa) l,At B t k nm env loc h s A->h.c l≠none->ma l (cj nm loc) h.c Q->wpAny B.M A (emit env (.ref (h.adr l))) (pN B h s Q) E s
noncomputable def Tw(ifs:List Expr)(env:Env):Sem Bool:=forIn ifs true λc r=>if r=true then do let ok<-isTrue c env (eval c env);pure (ForInStep.yield ok) else pure (ForInStep.yield r)
noncomputable def nq(B:Bk)(t:Bool)(k:Nat)(nm:ag)(ifs:List Expr)(m:BW):Prop:=
 ∀env loc h s A (Q:Bool->H->Prop) (E:aa),At B t k nm env loc h s A->m (cj nm loc) h.c Q->wpAny B.M A (Tw ifs env) (mU B h s Q) E s
structure n9(e:Expr)(target iter:Expr)(ifs:List Expr)(sc:Scope)(pos:Pos)(ly:Sem Value)(emit:Env->Value->Sem Unit):Prop where
 clauses:clausesOf e=[⟨target,iter,ifs,0⟩]
 eval:∀env,eval e env=comprehension e sc env pos ly false (PySem.eval iter env)
 used:∀env use,evalThenUse e env use=(do let _<-comprehension e sc env pos ly false (PySem.eval iter env) (some use))
 turn:∀it D env,compTurn e 0 it (.ref D) env=(do
  standAt iter.pos
  match<-pyNext it with
  |none=>pure (.done .next)
  |some v=>
   letOwnedTupleGo target it v
   assign target env v
   let ok<-Tw ifs env
   if ok then emit env (.ref D)
   again (.compLoop e 0 it (.ref D) env))
 u0:∀it acc env,(Code.compLoop e 0 it acc env).weight=0/\(Code.compLoop e 0 it acc env).cUnits=0/\(Code.compLoop e 0 it acc env).quiet=true
 u1:∀it acc env,(Code.compStart e 0 it acc env).weight=0/\(Code.compStart e 0 it acc env).cUnits=0
 d0:∀(B:Bk) it acc env,B.M.den (.compLoop e 0 it acc env)=(compTurn e 0 it acc env).onRaise (λx=>do noteFrame x env;theTreesLotGoes x)
 d1:∀(B:Bk) it acc env,B.M.den (.compStart e 0 it acc env)=(compStart e 0 it acc env).onRaise (λx=>do noteFrame x env;standAt theWindowsPlace)
noncomputable def xq(src:jQ)(tw:TW)(mc:BW)(ma:qq)(l:L)(loc:Fm)(h:H)(Q:H->Prop):Prop:=∀P:Nat->Fm->H->Prop,
 (∀i loc h,BO (src h i) (λv=>tw v loc h λcC h'=>mc cC h' λb bP=>if b then ma l cC bP (P (i+1) cC) else P (i+1) cC bP) (Q h)->P i loc h)->P 0 loc h
noncomputable def Bw(v:V)(f:L->Prop):Prop:=v.rec (motive_1:=λ_=>Prop) (motive_2:=λ_=>Unit) False (λ_=>False) (λ_=>False) (λ_=>False) (λ_ _=>False) f () λ_ _ _ _=>()
noncomputable abbrev Vt:=ag
noncomputable def EG(nm:ag)(mi:IW)(b:Bool)(o:O)(ns:Vt)(tw:TW)(mc:BW)(ma:qq)(loc:Fm)(h:H)(Q:L->H->Prop):Prop:=
 mi loc h λsrc az=>src.ok b/\dJ o az λv aU=>Bw v λl=>xq src.next tw mc ma l (OF nm ns loc) aU (Q l)
section
variable{B:Bk}{t:Bool}{k:Nat}{nm:ag}{env:Env}{loc:Loc}{h av:HA}{s s₀:Shared}{A:Around}{E:aa}{e target iter:Expr}{ifs:List Expr}{sc:Scope}{pos:Pos}{ly:Sem Value}{emit:Env->Value->Sem Unit}
theorem nq.nil:nq B t k nm [] λ_ h Q=>Q true h:=λ_ _ h _ _ _ _ a q=>aG (.mk h a.R .refl q)
theorem nq.one{c:Expr}{m:BW}(hc:gZ B t k nm c m):nq B t k nm [c] m:=λenv loc h s A Q E a q=>
 ax (m:=if true=true then _ else _) (iR rfl (ax (dK (hc env loc h s A Q E a q) (λ_ _ e=>aG (aG e)) λ_ _ e=>e)))
theorem Xp(FM:n9 e target iter ifs sc pos ly emit){it acc:Value}{R:Result->Shared->Prop}(h0:codeAny B.M A (.compLoop e 0 it acc env) R s)
 (h:wpAny B.M A (pyIter it) (λnO s'=>codeAny B.M A (.compLoop e 0 nO acc env) R s') (notedBy B.M A env λx s'=>R (.error x) s') s):codeAny B.M A (.compStart e 0 it acc env) R s:=by
 refine xp ?_
 rw [Around.under_of_weight (c:=.compStart e 0 it acc env) (FM.u1 ..).1 (FM.u1 ..).2,FM.d1]
 refine wpAny_notedAt ?_
 unfold compStart
 rw [FM.clauses]
 exact ax (Cc (o6 (λ_=>ax (aG (aG ⟨rfl,h0⟩))) λ_=>ax (mO (ax (jY (ax (dK h (λnO s' h'=>aG ⟨rfl,h'⟩) λ_ _ x=>x)))))))
section
variable{it d:Addr}{bS:List Addr}{jW:Expr->Prop}{src:jQ}{P:Nat->HA->Heap->Prop}{tw:TW}{mc:BW}{ma:qq}{l:L}{Q:H->Prop}{RR:Result->Shared->Prop}
theorem Xq(FM:n9 e target iter ifs sc pos ly emit){X:Fm->H->Prop}{i:Nat}(I:je B it bS jW src P)(p5:jW target)(ht:fy B false true k nm target tw)(hc:nq B true k nm ifs mc)(hm:pH B true k nm emit ma)
 (a:At B true k nm env loc h s A)(St:Step (oF env) av s₀.heap h s.heap)(hP:P i h s.heap)(hu:∀a∈bS,¬h.used a)(hn:∀a∈bS,B.av.get? a=none/\¬dM env a/\s₀.heap.get? a=none)(hl:h.c l≠none)(ea:h.adr l=d)
 (q:BO (src h.c i) (λv=>tw v (cj nm loc) h.c λcC h'=>mc cC h' λb bP=>if b then ma l cC bP (X cC) else X cC bP) (Q h.c))
 (hR:∀cC h' s',At B true k nm env cC h' s' A->Step (oF env) av s₀.heap h' s'.heap->h'.c l≠none->h'.adr l=d->Q h'.c->RR (.ok .next) s')
 (re:∀cC h' s',X (cj nm cC) h'.c->At B true k nm env cC h' s' A->Step (oF env) av s₀.heap h' s'.heap->P (i+1) h' s'.heap->(∀a∈bS,¬h'.used a)->h'.c l≠none->h'.adr l=d->codeAny B.M A (.compLoop e 0 (.ref it) (.ref d) env) RR s'):
 codeAny B.M A (.compLoop e 0 (.ref it) (.ref d) env) RR s:=by
 have ap:∀a∈bS,Apart B env h s.heap a:=λb m=>a.R.apart (hu b m) (hn b m).1 (hn b m).2.1 (I.at_ hP b m)
 have new:∀a∈bS,s₀.heap.get? a=none:=λa m=>(hn a m).2.2
 refine xp ?_
 rw [Around.under_of_weight (c:=.compLoop e 0 (.ref it) (.ref d) env) (FM.u0 ..).1 (FM.u0 ..).2.1,FM.d0]
 refine wpAny_noted ?_
 rw [FM.turn]
 refine ax (jY (ax ?_))
 cases e':src h.c i with
 |none=>rw [e'] at q;exact q.elim
 |some r=>
  rw [e'] at q
  cases r with
  |none=>exact I.done (a.T.handled rfl) a.R hP e' λs₁ as=>aG (hR loc h s₁ (a.jq ap as) (St.jq as new) hl ea q)
  |some v=>
   refine I.item p5 (a.T.handled rfl) a.R hP e' λx s₁ F9=>ax (F9 λcr rx hP as=>ax (ht.go (a.jq ap as) rx q λmB aU fL dh be ck=>ax (dK (hc env mB aU fL A _ _ dh ck) (λb kM z=>?_) λ_ _ e=>e)))
   have go:∀{ja kM},At B true k nm env mB ja kM A->Step c0 aU fL.heap ja kM.heap->X (cj nm mB) ja.c->codeAny B.M A (.compLoop e 0 (.ref it) (.ref d) env) RR kM:=λ{ja kM} xb nw z=>
    have be:Step (oF env) h cr.heap ja kM.heap:=be.trans nw.all
    have gr:=be.grow l hl
    re mB ja kM z xb ((St.jq as new).trans be) (I.bM hP (λa m=>(I.at_ hP a m).elim λo w=>by
     cases w.2 with
     |mk _ d=>exact(be.keep a o w.1 (hu a m) (λf=>(hn a m).2.1 (.inl f)) λ_ _ z=>Data.noConfusion (d.symm.trans z)).trans w.1.symm) (be.stays (a.jq ap as).R λb xs f=>(a.jq ap as).F.qW b xs (.inl f))) (λa m=>be.unused (hu a m) ((I.at_ hP a m).elim λ_ w=>dj w.1)) gr.1 (gr.2.trans ea)
   cases z with
   |mk c6 qF eN fX=>
    have gJ:=dh.step qF eN
    cases b
    ·exact aG ⟨rfl,go gJ eN fX⟩
    ·have gr:=(be.trans eN.all).grow l hl
     exact ax (dK ((gr.2.trans ea)▸hm env mB c6 kM A _ _ l gJ gr.1 fX) (λ_ aib z=>by
      cases z with
      |mk sT VI z6 HH=>exact aG ⟨rfl,go (gJ.step VI z6) (eN.trans z6) HH⟩) λ_ _ e=>e)
theorem Xo(FM:n9 e target iter ifs sc pos ly emit)(I:je B it bS jW src P)(p5:jW target)(ht:fy B false true k nm target tw)(hc:nq B true k nm ifs mc)(hm:pH B true k nm emit ma)
 (a:At B true k nm env loc h s A)(St:Step (oF env) av s₀.heap h s.heap)(hP:P 0 h s.heap)(hu:∀a∈bS,¬h.used a)(hn:∀a∈bS,B.av.get? a=none/\¬dM env a/\s₀.heap.get? a=none)(hl:h.c l≠none)(q:xq src tw mc ma l (cj nm loc) h.c Q)
 (hR:∀cC h' s',At B true k nm env cC h' s' A->Step (oF env) av s₀.heap h' s'.heap->h'.c l≠none->h'.adr l=h.adr l->Q h'.c->RR (.ok .next) s'):codeAny B.M A (.compLoop e 0 (.ref it) (.ref (h.adr l)) env) RR s:=
 q (λi gg hc=>∀(cC:Loc) (h':HA) (s':Shared),cj nm cC=gg->h'.c=hc->At B true k nm env cC h' s' A->Step (oF env) av s₀.heap h' s'.heap->P i h' s'.heap->(∀a∈bS,¬h'.used a)->h'.c l≠none->h'.adr l=h.adr l->
  codeAny B.M A (.compLoop e 0 (.ref it) (.ref (h.adr l)) env) RR s') (λ_ _ _ q' _ _ _ e1 e2 a' S' Fe Fs sR ea=>by cases e1;cases e2;exact Xq FM I p5 ht hc hm a' S' Fe Fs hn sR ea q' hR λ_ _ _ p=>p _ _ _ rfl rfl) loc h s rfl rfl a St hP hu hl rfl
end
section
variable{mi:IW}{o:O}{tw:TW}{mc:BW}{ma:qq}{tb:Bool}
theorem MS(FM:n9 e target iter ifs sc pos ly emit)(N:pf nm sc)(hi:jP B true k nm iter mi)(tg:Tg tb target)(ht:fy B false true k (fW sc.names) target tw)(hc:nq B true k (fW sc.names) ifs mc)(hm:pH B true k (fW sc.names) emit ma)
 (xO:∀{h:HA} {s:Shared} {Q:ab} {A:Around} {E:aa},aI B h s->dJ o h.c Q->wpAny B.M A ly (EPost B h s Q) E s)(hs:∀env x,foldedSetIterable iter env x=pure x)
 {use:Option (Value->Sem Unit)}{Q:L->H->Prop}{Q':aa}(a:At B true k nm env loc h s A)(q:EG nm mi tb o sc.names tw mc ma (cj nm loc) h.c Q)
 (fin:∀C l h' s' m,s.heap.get? C=none->At B true k nm env loc h' s' A->Step c0 h s.heap h' s'.heap->¬h'.used C->s'.heap.Ns C m->h'.c l≠none->Q l h'.c->compPost B.M A E use Q' (.ref (h'.adr l)) C (.ok .next) s'):
 wpAny B.M A (comprehension e sc env pos ly false (PySem.eval iter env) use) Q' E s:=by
 have Zd:closureFor sc env=pure (shared env sc.names []):=by
  unfold closureFor
  exact(au (·>>= λcs=>pure cs) (ahA (cs:=[]) (N.cellsOf a))).trans rfl
 refine wpAny_comprehension_free (g:=⟨target,iter,ifs,0⟩) (gs:=[]) FM.clauses (hs env) Zd N.kind N.loc (hi.go a q λsrc az x s₁ it bG aR aX=>it _ _ _ (a.T.handled rfl) λia bS P cr I hP dd be hn=>?_)
 have dh:=bG.step dd be
 refine y5 dh (xO dd aX.2) λv c6 acc fL rv qF eN gJ fX=>?_
 cases v with
 |ref l=>
  refine rv.cA λhl=>wpAny_newFunctionEnv N.Hd (λ_ m=>absurd m a0) (λg' lx ZC=>?_) N.kind
  have hk:∀b o,fL.heap.get? b=some o->g'.get? b=some o:=λb o e=>ZC.extBut b o (m8 (jH e)) (c9 _ e)
  have a':=Xn (tk:=fL.toks) N gJ lx hk
  have LD:=aR.trans (be.trans eN)
  have lv:s.heap.get? fL.heap.objs.size=none:=ip λz=>LD.alive _ z jv
  have nw:Step c0 c6 fL.heap c6 g':=.more hk (λ_ e=>⟨e,rfl⟩) λ_ a b=>absurd b a
  have DS:=eN.trans nw
  have Ok:P 0 c6 g':=I.bM hP (λb m=>(I.at_ hP b m).elim λo w=>by
   cases w.2 with
   |mk _ d=>exact(DS.keep b o w.1 (hn b m).2 id λ_ _ z=>Data.noConfusion (d.symm.trans z)).trans w.1.symm) (DS.tN dd)
  have loop:codeAny B.M A (.compLoop e 0 (.ref ia) (.ref (c6.adr l)) (sG sc env fL.heap.objs.size)) (compPost B.M A E use Q' (.ref (c6.adr l)) fL.heap.objs.size) {fL with heap:=g',toks:=fL.toks}:=
   Xo FM I (src.Tz aX.1 tg) ht hc hm (s₀:=s) (av:=h) a' (LD.trans nw).all Ok (λb m=>DS.unused (hn b m).2 ((I.at_ hP b m).elim λ_ w=>dj w.1))
    (λb m=>⟨a.R.av (hn b m).1,λf=>(EA f).elim (λz=>(I.at_ hP b m).elim λo w=>gQ (eN.alive b (dj w.1)) λ_ e=>cK e (z▸jv)) (a.F.vJ (hn b m).1),(hn b m).1⟩) hl (YJ N▸fX) λcC h' s' DY z0 sR ea q'=>by
    cases DY.F.ns with
    |mk m Zv _=>
     have S':Step c0 h s.heap h' s'.heap:=⟨λb o e u _=>z0.oL b o e u λf=>cK e (f▸lv),z0.grow,z0.new,z0.alive⟩
     exact ea▸fin _ l h' s' m lv (a.step DY.R S') S' (DY.F.off _ (.inl rfl)) Zv sR q'
  exact Xp FM loop (I.self (a.T.handled rfl) Ok loop)
 |_=>exact fX.elim
theorem aI.Rv{C:Addr}(R:aI B h s)(e:s.heap.get? C=none):C∉B.cW:=λhL=>(R.cW C hL).2.2.elim λob z=>z.elim λes z=>z.elim λep z=>cK z.1 e
theorem At.letGo{g':Heap}{C:Addr}{m:Str->Option Value}(a:At B t k nm env loc h s A)(hb:B.av.get? C=none)(hk:C∉B.cW)(hu:¬h.used C)(lx:s.heap.Ns C m)(hf:¬dM env C)(sb:Heap.SameBut C s.heap g'):
 At B t k nm env loc h {s with heap:=g'} A/\pc [C] s {s with heap:=g'}:=
 have as:pc [C] s {s with heap:=g'}:=⟨λb o hb e=>(sb.2 b (Hf hb)).trans e,rfl,rfl⟩
 ⟨a.jq (λb m=>(a6.1 m).symm▸⟨hu,hb,hf,λxs z=>lx.elim λo w=>w.elim λes w=>w.elim λep w=>Data.noConfusion ((rm z w.1).symm.trans w.2.1),hk⟩) as,as⟩
theorem aV.comp(FM:n9 e target iter ifs sc pos ly emit)(N:pf nm sc)(hi:jP B true k nm iter mi)(tg:Tg tb target)(ht:fy B false true k (fW sc.names) target tw)(hc:nq B true k (fW sc.names) ifs mc)(hm:pH B true k (fW sc.names) emit ma)
 (xO:∀{h:HA} {s:Shared} {Q:ab} {A:Around} {E:aa},aI B h s->dJ o h.c Q->wpAny B.M A ly (EPost B h s Q) E s)(hs:∀env x,foldedSetIterable iter env x=pure x):
 aV B true k nm e λloc h Q=>EG nm mi tb o sc.names tw mc ma loc h λl h'=>Q (.ref l) h':=λenv loc h s A Q E a q=>by
 rw [FM.eval]
 exact MS FM N hi tg ht hc hm xO hs a q λC l h' s' m lv a' S' hu lx hl q'=>⟨m,lx,λg' sb=>
  have z:=a'.letGo (a.R.av lv) (a.R.Rv lv) hu lx (a.F.vJ lv) sb
  .mk (.ref l) h' ⟨rfl,hl⟩ z.1.R (S'.jq z.2 λb m=>a6.1 m▸lv) q'⟩
theorem cT.Mj{x:Str}{p Th:Pos}(FM:n9 e target iter ifs sc pos ly emit)(N:pf nm sc)(hi:jP B true k nm iter mi)(tg:Tg tb target)(ht:fy B false true k (fW sc.names) target tw)(hc:nq B true k (fW sc.names) ifs mc)(hm:pH B true k (fW sc.names) emit ma)
 (xO:∀{h:HA} {s:Shared} {Q:ab} {A:Around} {E:aa},aI B h s->dJ o h.c Q->wpAny B.M A ly (EPost B h s Q) E s)(hs:∀env x,foldedSetIterable iter env x=pure x)
 (hx:nm.lookup x=some .local)(ZD:∀env,iC env nm->swapsWith e (some (.Name x p)) Th.line env=pure true):
 cT B true k nm (.Assign [.Name x p] e Th) λloc h Q=>EG nm mi tb o sc.names tw mc ma loc h λl h'=>Q .next (loc.set (gq nm x) (some (.ref l))) h':=λenv loc h s A Q E a q=>by
 rw [exec_Assign_Name_used _ _ _ _ (ZD env a.S),FM.used]
 refine ax (jY (ax (ax (MS FM N hi tg ht hc hm xO hs a q λC l h' s' m lv a' S' hu lx hl q'=>ax (jY (Cd (yP a' (v:=.ref l) ⟨rfl,hl⟩ hx λcr dh be=>?_)))))))
 have lx:cr.heap.Ns C m:=lx.elim λo w=>(be.oL C o (w.elim λes w=>w.elim λep w=>w.1) hu λf=>a.F.vJ lv (.inl f)).elim λo' z=>⟨o',w.imp λes w=>w.imp λep w=>⟨z.1,z.2.data.trans w.2.1,w.2.2⟩⟩
 refine⟨m,lx,λg' sb=>aG (aG ?_)⟩
 have z:=dh.letGo (a.R.av lv) (a.R.Rv lv) hu lx (a.F.vJ lv) sb
 exact .done z.1 ((S'.all.trans (be.wide λ_ e=>.inl e)).jq z.2 λb m=>a6.1 m▸lv) .next (sN a.S.nodup hx▸q')
end
theorem n9.list{elt:Expr}:n9 (.ListComp elt [⟨target,iter,ifs,0⟩] sc pos) target iter ifs sc (firstIterPos [⟨target,iter,ifs,0⟩] pos) (newList [])
 λenv acc=>PySem.eval elt env>>= λx=>call (.builtin "list.append") [acc,x]>>= λ_=>pure ():=
 ⟨rfl,λ_=>rfl,λ_ _=>rfl,λ_ _ _=>rfl,λ_ _ _=>⟨rfl,rfl,rfl⟩,λ_ _ _=>⟨rfl,rfl⟩,λ_ _ _ _=>rfl,λ_ _ _ _=>rfl⟩
noncomputable def MY(ek ev:Expr)(env:Env)(acc:Value):Sem Unit:=do
 let kv<-PySem.eval ek env
 let vv<-holding [kv] (PySem.eval ev env)
 match acc with
 | .ref d=>do
  standAt {ek.pos with endLine:=ev.pos.endLine,endCol:=ev.pos.endCol}
  holding [kv,vv] (dictSet d kv vv)
 |_=>PySem.unsupported "internal:dictcomp"
theorem n9.dict{ek ev:Expr}:n9 (.DictComp ek ev [⟨target,iter,ifs,0⟩] sc pos) target iter ifs sc (firstIterPos [⟨target,iter,ifs,0⟩] pos) newDict (MY ek ev):=
 ⟨rfl,λ_=>rfl,λ_ _=>rfl,λ_ _ _=>rfl,λ_ _ _=>⟨rfl,rfl,rfl⟩,λ_ _ _=>⟨rfl,rfl⟩,λ_ _ _ _=>rfl,λ_ _ _ _=>rfl⟩
theorem L0{Q:ab}(R:aI B h s)(q:dJ (.lst []) h.c Q):wpAny B.M A (newList []) (EPost B h s Q) E s:=jX (EPost.lst R (xs:=[]) aY.nil q)
theorem LZ{Q:ab}(R:aI B h s)(q:dJ (.aF [] 0) h.c Q):wpAny B.M A newDict (EPost B h s Q) E s:=jX (EPost.aF R q)
theorem pH.list{m:EW}(he:aV B t k nm e m):pH B t k nm (λenv acc=>PySem.eval e env>>= λx=>call (.builtin "list.append") [acc,x]>>= λ_=>pure ()) λl loc h Q=>m loc h λv h'=>de [.ref l,v] h' λ_ bP=>Q bP:=λenv loc h s A Q E l a hl q=>
 ax (he.go a q λv az x s₁ r br aR bG aX=>have gr:=aR.grow l hl
  ax (gr.2▸y5 bG (Mz A az s₁ _ E [.ref l,v] _ br a.T (.cons ⟨rfl,gr.1⟩ (.cons r .nil)) aX) λw aU y cr _ dd be _ ck=>aG (.mk aU dd (aR.trans be) ck)))
noncomputable abbrev Bv(o i v:V)(h:H)(Q:H->Prop):Prop:=Bw o λa=>∃es n,h a=some (.aF es n)/\es.length<=1000000/\cz 8 i/\Q (h.upd a (.aF (dS es i v) (q5 es i n)))
theorem pH.dict{ek ev:Expr}{mk mv:EW}(hk:aV B t k nm ek mk)(hv:aV B t k nm ev mv):pH B t k nm (MY ek ev) λl loc h Q=>mk loc h λkv h'=>mv loc h' λvv bP=>Bv (.ref l) kv vv bP Q:=λenv loc h s A Q E l a hl q=>
 ax (hk.go a q λkv az x s₁ r br aR bG aX=>ax (c8 (hv.go bG aX λvv aU y cr ahk dd be dh ck=>ck.elim λes ck=>ck.elim λn ck=>have gr:=(aR.trans be).grow l hl
  ax (m:=standAt _) (jY (c8 (gr.2▸EM dd (B3 (A:=A) a.T (cB 100)) ck.1 ck.2.1 ck.2.2.1 (r.step br be) ahk λs' R' S'=>.mk _ R' ((aR.trans be).trans S') ck.2.2.2))))))
end
noncomputable def Eg(a b:EW):EW:=λloc h Q=>a loc h λv az=>vW v az λc=>if c then b loc az Q else Q v az
noncomputable def orV(a b:EW):EW:=λloc h Q=>a loc h λv az=>vW v az λc=>if c then Q v az else b loc az Q
inductive C4(h:H)(Q:ab):aj->Prop
 |got{us:aj}:N4 us h Q->C4 h Q us
 |none{a:L}{dv:V}{n:Nat}:h a=some (.aF [] n)->Q dv h->C4 h Q [.ref a,.none,dv]
noncomputable abbrev eY(us:aj)(h:H)(Q:ab):Prop:=C4 h Q us
inductive K6(h:H)(Q:ab):aj->Prop
 |mk{a:L}{as:ac}{vs:aj}:h a=some (.inst .dg as)->as "prod"=some (.tup vs)->vs.length<=1000000->Q (.int vs.length) h->K6 h Q [.ref a]
noncomputable abbrev vK(us:aj)(h:H)(Q:ab):Prop:=K6 h Q us
inductive Dg(h:H)(Q:ab)(us:aj):Prop
 |got:AT us h Q->Dg h Q us
 |prod:vK us h Q->Dg h Q us
noncomputable abbrev dQ(us:aj)(h:H)(Q:ab):Prop:=Dg h Q us
section
variable{B:Bk}{t:Bool}{k:Nat}{nm:ag}{e e':Expr}{es:List Expr}{pos:Pos}{m n:EW}{x:Str}{op:BoolOp}
theorem aV.WA(he:aV B t k nm e m):aV B t k nm (.BoolOp op [e] pos) m:=he
theorem aV.and(C:gB B)(he:aV B t k nm e m)(dY:aV B t k nm (.BoolOp .And (e'::es) pos) n):aV B t k nm (.BoolOp .And (e::e'::es) pos) (Eg m n):=λenv loc h s A Q E a q=>
 BoolOp_and (he.go a q λv az x s₁ r br aR bG aX=>dK (Ho C br r (Q:=λc h'=>if c then n (cj nm loc) h' Q else Q v h') aX) (λc cr z=>by
  cases z with
  |mk aU dd be ck=>
   cases c
   ·exact .mk v aU (r.step br be) dd (aR.trans be) ck
   ·exact jE (aR.trans be) (dY env loc aU cr A Q E (bG.step dd be) ck)) λ_ _ e=>e)
theorem aV.or(C:gB B)(he:aV B t k nm e m)(dY:aV B t k nm (.BoolOp .Or (e'::es) pos) n):aV B t k nm (.BoolOp .Or (e::e'::es) pos) (orV m n):=λenv loc h s A Q E a q=>
 BoolOp_or (he.go a q λv az x s₁ r br aR bG aX=>dK (Ho C br r (Q:=λc h'=>if c then Q v h' else n (cj nm loc) h' Q) aX) (λc cr z=>by
  cases z with
  |mk aU dd be ck=>
   cases c
   ·exact jE (aR.trans be) (dY env loc aU cr A Q E (bG.step dd be) ck)
   ·exact .mk v aU (r.step br be) dd (aR.trans be) ck) λ_ _ e=>e)
theorem aV.Xs:aV B t k nm (.Dict [] [] pos) λ_ h Q=>dJ (.aF [] 0) h Q:=λ_ _ _ _ _ _ _ a q=>wpAny_Dict_empty (EPost.aF a.R q)
theorem ah5{prog:Program}{w:World}{A:Around}{E:aa}{s:Shared}{kx vx:Sem Value}{Q:Addr->Shared->Prop}
 (h:wpAny (model prog w) A kx (λkv s₁=>wpAny (model prog w) A vx (λvv cr=>wpAny (model prog w) A (dictSet s.heap.objs.size kv vv) (λ_ fL=>Q s.heap.objs.size fL) E cr) E s₁) E {s with heap:=s.heap.push {cls:=.type "dict",data:=.dict #[]}}):
 wpAny (model prog w) A (subDict [(kx,vx)]) Q E s:=by
 refine ax (wpAny_alloc (ax (c8 (iR rfl (ax (evalPairs_cons (dK h (λkv s₁ az=>dK az (λvv cr aU=>evalPairs_nil (c8 ?_)) λ_ _ e=>e) λ_ _ e=>e)))))))
 rw [List.forIn_cons]
 exact ax (ax (ax (dK aU (λ_ fL c6=>aG (aG (aG (aG c6)))) λ_ _ e=>e)))
theorem aV.Xt{ek ev:Expr}{mk mv:EW}(hk:aV B t k nm ek mk)(hv:aV B t k nm ev mv):
 aV B t k nm (.Dict [some ek] [ev] pos) λloc h Q=>dJ (.aF [] 0) h λd az=>mk loc az λkv aU=>mv loc aU λvv c6=>Bv d kv vv c6 λja=>Q d ja:=λenv loc h s A Q E a q=>by
 rw [arm_eval_Dict,zip_pairTrees [some ek] [ev] env pos rfl rfl,dictDisplay_pairs _ (by simp [pairTrees]) (by simp [pairTrees])]
 simp only [pairTrees]
 refine ax (jY (ax (ah5 ?_)))
 cases EPost.aF (n:=0) a.R q with
 |mk d az rd br aR aX=>
  have bG:=a.step br aR
  refine hk.go bG aX λkv aU x cr rk dd be dh ck=>ax (hv.go dh ck λvv c6 y fL rv qF eN gJ fX=>ax (jY (aG ?_)))
  cases d with
  |ref l=>
   have gr:=(be.trans eN).grow l rd.2
   have e1:s.heap.objs.size=c6.adr l:=(Value.ref.inj rd.1).trans gr.2.symm
   exact fX.elim λes fX=>fX.elim λn fX=>e1▸EM qF (B3 (A:=A) a.T (cB 100)) fX.1 fX.2.1 fX.2.2.1 (rk.step dd eN) rv λkM DL nw=>aG (.mk (.ref l) (c6.turn l (.aF (dS es kv vv) (q5 es kv n))) ⟨rfl,dj H.aJ⟩ DL (aR.trans (be.trans (eN.trans nw))) fX.2.2.2)
  |_=>exact fX.elim
theorem aV.global(C:gB B){y:Str}(hx:nm.lookup x=some .globalImplicit)(hg:∃tk,B.mg x=some (.str y tk))(hd:(x==("__debug__":Str))=false):aV B t k nm (.Name x pos) λ_ h Q=>Q (.str y) h:=λ_ _ _ _ _ _ _ a q=>
 hg.elim λ_ hg=>Pc C a.S a.R hx hg hd (.iQ (v:=.str y) a.R ⟨_,rfl⟩ q)
theorem cT.no{st:Stmt}:cT B t k nm st λ_ _ _=>False:=λ_ _ _ _ _ _ _ _ q=>q.elim
theorem WR:dp B t k (.builtin "dict.get") eY:=λA h s Q E vs xs R T rs q=>by
 induction q with
 |got q=>exact WQ A h s Q E _ xs R T rs q
 | @none a dv n e q=>
  refine rs.three λx y w rx ry mL=>rx.cA λ_=>ry.none_ (R.aF e λaQ ho er _ _=>?_)
  cases er
  exact jD JL ⟨_,ho,rfl⟩ JK (ax (m:=dictGet (h.adr a) .none) (c8 (ax (pyHash_laid .none .none _ s _ rfl .none (rp (A:=A) T (by decide)) λtk=>ax (c8 (ax (ql ho rfl (aG (aG
   (ax (m:=Builtin.Dict.missed (h.adr a) .none) (IA (R.mods _ _ _ e) (aG ⟨w,rfl,.val R mL q⟩)))))))))))) (F.args_dict_get_3 _ _ _)
theorem fM.in1{A:Around}(T:fM B t (k+1) A):fM B t k A.in1:=⟨Nat.lt_of_succ_lt T.depth,units_le (d:=1) T.units (by decide),T.guards,T.handled,T.frames⟩
theorem WU(C:gB B){f:Addr}(hs:findIn B.K (.ref (B.cls .dg)) "__len__"=some (some (.ref f)))(hf:isFn B.K (.ref f)=true)(hc:dp B t k (.ref f) vK):dp B t (k+1) (.builtin "len") dQ:=λA h s Q E vs xs R T rs q=>by
 cases q with
 |got q=>exact MA A h s Q E vs xs R T rs q
 |prod q=>
  induction q with
  | @mk a as us e ep hl q=>
   refine rs.one λx rx=>rx.cA λhn=>R.inst e λaQ m I ar=>Jn kind_len plain_len entry_len (args_len1 _) (ax (m:=oneArg "len" _) (aG ?_))
   refine ax (m:=callSpecial? (.ref (h.adr a)) (Str.ofString "__len__")) (special_fn (R.X C) I hs (i6.1 hf) (dK (hc A.in1 h s (λv h'=>v= .int us.length/\Q (.int us.length) h') E [.ref a] _ R T.in1 (.cons ⟨rfl,hn⟩ .nil) (.mk e ep hl ⟨rfl,q⟩)) (λy s₁ z=>?_) λ_ _ y=>y))
   cases z with
   |mk v az r br aR z=>exact(z.1▸r:aP az s₁.heap (.int us.length) y).dG λtk=>ax (c8 (aG (ax (wpAny_letGo (bZ (cQ (jI.2 (gx _))) (bZ (cQ (yt hl)) (ax (wpAny_mkInt (aG ⟨_,rfl,.mk (.int us.length) az ⟨_,rfl⟩ (br.toks _) aR z.2⟩)))))))))
theorem cT.ah7{a b:Str}{c:Nat}{pa pb pt:Pos}(he:aV B true k nm e m)(ha:nm.lookup a=some .local)(hb:nm.lookup b=some .local)
 (hs:∀env,swapsWithSole [.Tuple [.Name a pa,.Name b pb] c pt] e pos.line env=pure false)(hw:∀env,iC env nm->swappedStores [.Tuple [.Name a pa,.Name b pb] c pt] e env=pure (some [a,b])):
 cT B true k nm (.Assign [.Tuple [.Name a pa,.Name b pb] c pt] e pos) λg h Q=>m g h λv h'=>rq v h' λvs=>∃x y,vs=[x,y]/\Q .next ((g.set (gq nm b) (some y)).set (gq nm a) (some x)) h':=λenv loc h s A Q E at_ q=>
 Assign_Tuple_swapped (names:=[a,b]) (he.go at_ q λv az z s₁ r br aR bG aX=>R8 bG (P:=λvs=>∃x y,vs=[x,y]/\Q .next (((cj nm loc).set (gq nm b) (some y)).set (gq nm a) (some x)) az.c) r (aiJ aX λvs z=>⟨z.elim λ_ z=>z.elim λ_ z=>z.1▸rfl,z⟩) λvs xs cr p rx dh be=>p.elim λx p=>p.elim λy p=>aY.two (P:=λxs=>wpAny B.M A (assignInOrder [bindName env b,bindName env a] xs.reverse) _ E cr) (p.1▸rx) λu w ru mL=>
  ax (m:=holding [u] (bindName env b w)) (c8 (Cd (yP dh mL hb λfL gJ eN=>ax (m:=holding [] (bindName env a u)) (c8 (Cd (yP gJ (ru.bM (eN.stays dh.R λb xs f=>dh.F.qW b xs (.inl f))) ha λkM xb nw=>
   aG (.done xb (((aR.trans be).all.trans (eN.wide λ_ e=>.inl e)).trans (nw.wide λ_ e=>.inl e)) .next (sN at_.S.nodup ha▸sN at_.S.nodup hb▸p.2))))))))) (hs env) (hw env at_.S)
end
structure pB(ls:List Addr)(g g':Heap):Prop where
 gd:∀b o,g.get? b=some o->∃o',g'.get? b=some o'/\j9 o o'
 same:∀b,b∉ls->g'.get? b=g.get? b
noncomputable abbrev zF(g:Heap)(L:Addr):Prop:=∃o es ep,g.get? L=some o/\o.data= .dict es ep
structure Vu(B:Bk)(a:Addr)(oe:Obj)(g g':Heap)(tb:Addr):Prop where
 gd:∀b o,b≠a->g.get? b=some o->∃o',g'.get? b=some o'/\j9 o o'
 same:∀b,b≠a->b∉B.cW->g.get? b≠none->g'.get? b=g.get? b
 at_:g'.get? a=some (oe.mapFields (·.setIfInBounds 1 (.ref tb)))
 new:g.get? tb=none
 obj:∃ot Id,g'.get? tb=some ot/\ot.data= .fields Id/\3<Id.size
 ne:tb≠a
noncomputable def ExcAt(g:Heap)(a:Addr)(cls:String):Prop:=∃oe vs,g.get? a=some oe/\oe.cls= .type cls/\oe.data= .fields vs/\vs[1]?=some .none
inductive pO(B:Bk)(h:HA)(s:Shared)(F:String->H->Prop):aa
 |mk{a:Addr}{cls:String}{h':HA}{s':Shared}:aI B h' s'->Step c0 h s.heap h' s'.heap->ExcAt s'.heap a cls->s.heap.get? a=none->¬h'.used a->F cls h'.c->pO B h s F (.ref a) s'
inductive Dw(h:H)(F:String->Prop):V->V->Prop
 |key{a:L}{es:af}{n:Nat}{i:V}:h a=some (.aF es n)->cz 8 i->cg es i=none->F "KeyError"->Dw h F (.ref a) i
 |idx{vs:aj}{j:Int}:(vs.length:Int)<=j->j<=1000000->F "IndexError"->Dw h F (.tup vs) (.int j)
noncomputable abbrev G6(ov iv:V)(h:H)(F:String->Prop):Prop:=Dw h F ov iv
structure DV(B:Bk)(a:Addr)(g g':Heap):Prop where
 gd:∀b o,b≠a->g.get? b=some o->∃o',g'.get? b=some o'/\j9 o o'
 same:∀b,b≠a->b∉B.cW->g.get? b≠none->g'.get? b=g.get? b
noncomputable def pK(B:Bk)(nm:ag)(te:Expr)(cls:String):Prop:=∀env h s A a (Q:Bool->Shared->Prop) (E:aa),iC env nm->aI B h s->s.TypeIs (.ref a) cls->
 (∀s',aI B h s'->(∀b o,s.heap.get? b=some o->s'.heap.get? b=some o)->Q true s')->wpAny B.M A (PySem.eval te env) (λc s₁=>wpAny B.M A (excMatches (.ref a) c) Q E s₁) E s
section
variable{B:Bk}{t:Bool}{k:Nat}{nm:ag}{env:Env}{loc:Loc}{h h' av az:HA}{s s' s₀ s₁:Shared}{A:Around}{E:aa}{ls:List Addr}{g g' nL:Heap}{L a:Addr}{oe:Obj}{vs:aq}{cls:String}{F:String->H->Prop}{x:Value}{tk:Nat}
theorem pB.refl:pB ls g g:=⟨λ_ o e=>⟨o,e,.same⟩,λ_ _=>rfl⟩
theorem pB.trans(a:pB ls g g')(b:pB ls g' nL):pB ls g nL:=⟨λx o e=>(a.gd x o e).elim λo' z=>(b.gd x o' z.1).imp λ_ w=>⟨w.1,z.2.trans w.2⟩,λx n=>(b.same x n).trans (a.same x n)⟩
theorem zF.aeL(f:zF g L)(n:pB ls g g'):zF g' L:=f.elim λo f=>f.elim λes f=>f.elim λep f=>(n.gd L o f.1).imp λ_ z=>⟨es,ep,z.1,z.2.data.trans f.2⟩
theorem aeM{o:Obj}{es:Array DictEntry}{ep:Nat}(ho:g.get? L=some o)(hd:o.data= .dict es ep)(hL:L∈ls)(sl:Obj->Array (Option Value)):pB ls g (g.update L λo=>{o with slots:=sl o}):=
 ⟨λb x e=>(aN (b=L)).elim (λz=>by
  cases z
  cases ho.symm.trans e
  exact⟨_,qv _ ho (by unfold Obj.isFreed;rw [hd]),.slots hd⟩) λz=>⟨x,(rS _ _ _ _ z).trans e,.same⟩,
  λb nb=>rS _ _ _ _ λz=>nb (z▸hL)⟩
theorem ready{l:List Env}:∀{s:Shared} {Q:Unit->Shared->Prop},(∀e∈l,e.scope.kind≠.module/\∃L∈ls,e.frame=some L/\zF s.heap L)->(∀g',pB ls s.heap g'->Q () {s with heap:=g'})->wpAny B.M A (readyFrames l) Q E s:=by
 induction l with
 |nil=>exact λ_ q=>aG (q _ .refl)
 |cons env outer ih=>
  intro s Q hl q
  have z:=hl env gk
  refine z.2.elim λL y=>y.2.2.elim λo w=>w.elim λes w=>w.elim λep w=>?_
  unfold readyFrames
  rw [y.2.1]
  have go:∀sl:Obj->Array (Option Value),wpAny B.M A (update L (λo=>{o with slots:=sl o})>>= λ_=>readyFrames outer) Q E s:=λsl=>
   have N:=aeM w.1 w.2 y.1 sl
   ax (wpAny_update w.1 (ih (λe he=>have u:=hl e (iy _ he);⟨u.1,u.2.imp λ_ v=>⟨v.1,v.2.1,v.2.2.aeL N⟩⟩) λg' n=>q g' (N.trans n)))
  refine ax (wpAny_load w.1 (o6 (λ_=>aG (q _ .refl)) λ_=>ax (o7 (a:=false) ?_ ?_)))
  ·unfold behindIsImport
   rw [show(env.scope.kind !=.module)=true from bne_iff_ne.mpr z.1,Bool.true_or]
   rfl
  ·cases outer with
   |nil=>exact ax (wpAny_keptBack_nil λ_=>go _)
   |cons c r=>exact ax (aG (go _))
theorem XG{l:List Env}{p:Prop}(h:some L∈l.map (·.frame))(f:∀e r,l.dropWhile (λx=>x.frame !=some L)=e::r->e.frame=some L->(∀x∈e::r,x∈l)->p):p:=by
 induction l with
 |nil=>cases h
 |cons x l ih=>
  refine(aN (x.frame=some L)).elim (λz=>f x l ?_ z λ_ m=>m) λz=>ih ((dP.1 h).resolve_left λe=>z e.symm) λe r h1 h2 h3=>f e r ?_ h2 λy m=>iy _ (h3 y m)
  ·rw [List.dropWhile_cons,if_neg λw=>bne_iff_ne.mp w z]
  ·rw [List.dropWhile_cons,if_pos (bne_iff_ne.mpr z)];exact h1
theorem aI.Rs(R:aI B h s)(he:s.heap.get? a=some oe)(hd:oe.data= .fields vs):a∉B.cW:=λz=>(R.cW a z).2.2.elim λo w=>w.elim λes w=>w.elim λep w=>Data.noConfusion (w.2.symm.trans (bc (he.symm.trans w.1)▸hd))
theorem aeK{Q:Unit->Shared->Prop}(R:aI B h s)(T:fM B t k A)(hf:env.frame=some L)(hL:L∈B.cW)(he:s.heap.get? a=some oe)(hd:oe.data= .fields vs)(h1:vs[1]?=some .none)(q:∀g' tb,Vu B a oe s.heap g' tb->Q () {s with heap:=g'}):
 wpAny B.M A (noteFrame (.ref a) env) Q E s:=by
 refine T.frames.elim λl z=>?_
 have Fp:1<vs.size:=(rK.1 h1).1
 have Zu:=R.Rs he hd
 unfold noteFrame
 rw [hf]
 refine ax (wpAny_field he hd h1 (bZ rfl ?_))
 unfold PySem.frameOf
 refine ax (ax (wpAny_frameEnvs z.1 (XG (L:=L) (l:=l) (z.2.1▸bg.2 ⟨L,hL,rfl⟩) λe0 r e1 e2 e3=>?_)))
 rw [hf,e1]
 refine ax (m:=readyFrames _>>= λ_=>_) (ax (ready (ls:=B.cW) (λe m=>⟨z.2.2 e (e3 e m),?_⟩) λg₁ N=>aG ?_))
 ·exact(bg.1 (z.2.1▸bg.2 ⟨e,e3 e m,rfl⟩:e.frame∈B.cW.map some)).imp λL' w=>⟨w.1,w.2.symm,(R.cW L' w.1).2.2⟩
 ·rw [e2]
  refine aG (ax (wpAny_entryPlaceOf λpl ZB=>?_))
  have Fk:g₁.get? a=some oe:=(N.same a Zu).trans he
  refine ax (jX ?_ (ZB.sizeOk5 _ _ _ _ _))
  refine o8 (c9 _ Fk) hd Fp (q _ g₁.objs.size ?_)
  have On:g₁.objs.size≠a:=jk (jH Fk)
  exact⟨λb o hb e=>(N.gd b o e).imp λo' w=>⟨(J6 _ _ (uF hb)).trans (c9 _ w.1),w.2⟩,
   λb hb hk e=>gQ e λo w=>(J6 _ _ (uF hb)).trans ((c9 _ ((N.same b hk).trans w)).trans w.symm),
   qv _ (c9 _ Fk) (KY (wJ hd _)),ip λw=>gQ w λo w=>(N.gd _ o w).elim λ_ w=>kh _ (jH w.1),
   ⟨_,_,(J6 _ _ (uF On)).trans (dW g₁ rfl),rfl,by simp⟩,On⟩
theorem pO.mono(S:Step c0 h s.heap az s₁.heap)(e:pO B az s₁ F x s'):pO B h s F x s':=by
 induction e with
 |mk R S' X n u q=>exact .mk R (S.trans S') X (ip λz=>S.alive _ z n) u q
theorem Nz(R:aI B h s)(n:Heap.NewExc s.heap g' a cls)(q:F cls h.c):pO B h s F (.ref a) {s with heap:=g',toks:=tk}:=by
 obtain⟨k,new,ob,tt,e,hc,hd⟩:=n
 exact .mk (R.more (s':={s with heap:=g',toks:=tk}) k rfl rfl) (.more k (λ_ e=>⟨e,rfl⟩) λ_ a b=>absurd b a) ⟨ob,_,e,hc,hd,rfl⟩ new (λu=>R.vd u new) q
theorem ahp{j:Int}{n:Nat}(h0:(n:Int)<=j):seqIndex? j n=none:=by
 unfold seqIndex?
 dsimp only
 rw [if_neg (Int.not_lt.mpr (Int.le_trans (Int.natCast_nonneg n) h0))]
 exact bD λz=>absurd (cU (j6.1 z).2) (jI.2 h0)
theorem afg{value slice:Expr}{Q:aa}{ov iv:V}{y:Value}(R:aI B h s)(T:fM B true k A)(ro:aP h s.heap ov x)(ri:aP h s.heap iv y)
 (hs:∀x y,subscripted slice false x y=operate [x,y] (getItem x y))(q:G6 ov iv h.c λc=>F c h.c):wpAny B.M A (subscriptTail value slice x y) Q (pO B h s F) s:=by
 induction q with
 |idx h0 h1 q=>exact ro.iP λa xs hx rx=>ri.dG λtk=>tU (s:=s) (T:="tuple") ⟨_,hx,rfl⟩ VD.lookup (getItem_meets ⟨_,hx,rfl⟩ (by decide) VD PySem.F.entry_tuple_getitem (PySem.F.args_tuple_getitem_2 _ _) (MeetsSeq.tuple_getitem_out a xs 0 _ tk (m5 (by decide) (m5 (gx _) h0)) (wk h1 (by decide)) (ahp (rx.size▸h0))) ⟨hx,T.handled rfl,λh' tk e hn=>Nz R hn q⟩) (hs _ _)
 | @key a es n i e ki hl q=>
  refine ro.cA λ_=>R.aF e λaQ ho _ _ _=>?_
  have hT:s.TypeIs (.ref (h.adr a)) "dict":=⟨_,ho,rfl⟩
  exact tU (s:=s) (T:="dict") hT yM.lookup (c8 (ax (IC hT (by decide) (ax (qk (name:=Str.ofString "__getitem__") hT yM (jD yM hT entry_dict_getitem
   (ax (m:=dictGet (h.adr a) y) (xt R (rp (A:=A) T (cB 100)) e ki ri (λz tk=>ax (m:=Builtin.Dict.missed (h.adr a) y) (IA (R.mods _ _ _ e) (ax (y4 (s:={s with toks:=tk}) hT (bZ (by decide)
    (ax (mO (wpAny_raise_newExc (A:=A.in1) plainExc_KeyError (T.handled rfl) λh' e hn=>Nz R hn q)))))))) λv' w z mL tk=>cK z hl)) (args_dict_getitem _ _))))))) (hs _ _)
theorem At.turned(at_:At B t k nm env loc h s A)(ap:Apart B env h s.heap a)(T:DV B a s.heap s'.heap)(ho:s'.os=s.os)(hg:s'.gens=s.gens):At B t k nm env loc h s' A:=
 have st:dH h s.heap h s'.heap:=⟨λb xs q=>(T.gd b _ (λz=>ap.t xs (z▸q)) q).elim λo' z=>z.1.trans (au some (z.2.exact λ_ _ w=>Data.noConfusion w)),λ_ e=>⟨e,rfl⟩⟩
 have R:=at_.R
 ⟨at_.S,at_.F.gd st at_.F.off (λo e=>(T.gd _ o (λz=>ap.f (.inl z.symm)) e).imp λ_ z=>⟨z.1,z.2.data⟩) λx c o y e eo ed=>(T.gd c o (λz=>ap.f (.inr ⟨x,z▸e⟩)) eo).elim λo' z=>z.1.trans (au some (z.2.exact λ_ _ w=>nomatch ed.symm.trans w)),
  R.gd (λb o e=>(T.same b (λz=>cK e (z▸ap.b)) (λm=>cK e (R.cW b m).1) (dj (R.keep b o e))).trans (R.keep b o e)) st (λb u=>T.same b (λz=>ap.n (z▸u)) (λm=>(R.cW b m).2.1 u) (R.vd u))
   (λL hL=>⟨(R.cW L hL).1,(R.cW L hL).2.1,(R.cW L hL).2.2.elim λob z=>z.elim λes z=>z.elim λep z=>(T.gd L ob (λw=>ap.k (w▸hL)) z.1).imp λo' w=>⟨es,ep,w.1,w.2.data.trans z.2⟩⟩) ho hg,at_.T⟩
theorem Step.turned{F:Addr->Prop}(S:Step F h g h' g')(hn:g.get? a=Option.none)(T:DV B a g' nL):Step F h g h' nL:=
 ⟨λb o e q f=>(S.oL b o e q f).elim λo' z=>(T.gd b o' (λw=>cK e (w▸hn)) z.1).imp λ_ w=>⟨w.1,z.2.trans w.2⟩,S.grow,S.new,λb e=>gQ (S.alive b e) λo z=>(T.gd b o (λw=>e (w▸hn)) z).elim λ_ w=>dj w.1⟩
theorem W4{te:Expr}{sF:Stmt}{tQ:List Stmt}{hs:List ExceptHandler}{hp:Pos}{mh:SW}{Q:Fl->Fm->H->Prop}(ht:pK B nm te cls)(hh:fQ B false k nm (sF::tQ) mh)(at_:At B true k nm env loc h s A)
 (St:Step (dM env) av s₀.heap h s.heap)(new:s₀.heap.get? a=none)(na:¬h.used a)(nb:B.av.get? a=none)(nf:¬dM env a)(X:ExcAt s.heap a cls)(q:mh (cj nm loc) h.c Q):
 wpAny B.M A (noteFrame (.ref a) env) (λ_ cr=>wpAny B.M A (setFlight (.ref a) none) (λ_ fL=>wpAny B.M A (handleBy (.ref a) env (.ExceptHandler (some te) none (sF::tQ) hp::hs)) (iZ B nm env av s₀ Q) E fL) E cr) E s:=by
 refine at_.F.frame.elim λL fl=>X.elim λoe X=>X.elim λvs X=>?_
 have R:=at_.R
 have ap:Apart B env h s.heap a:=⟨na,nb,nf,λxs z=>Data.noConfusion ((rm z X.1).symm.trans X.2.2.1),R.Rs X.1 X.2.2.1⟩
 refine aeK R at_.T fl.2 fl.1 X.1 X.2.2.1 X.2.2.2 λg' tb N=>N.obj.elim λot tt=>tt.elim λId tt=>?_
 have Fp:1<vs.size:=(rK.1 X.2.2.2).1
 have xR:=wJ X.2.2.1 (·.setIfInBounds 1 (.ref tb))
 have Oi:(vs.setIfInBounds 1 (.ref tb))[1]?=some (.ref tb):=Array.getElem?_setIfInBounds_self_of_lt Fp
 refine wpAny_setFlight_none N.at_ xR Oi tt.1 tt.2.1 tt.2.2 ?_
 have turn:∀{xM:Heap},(∀b o,b≠tb->g'.get? b=some o->xM.get? b=some o)->DV B a s.heap xM:=λ{xM} hg=>
  have nt:∀b,s.heap.get? b≠none->b≠tb:=λb e z=>e (z▸N.new)
  ⟨λb o G8 e=>(N.gd b o G8 e).imp λo' z=>⟨hg b o' (nt b (dj e)) z.1,z.2⟩,λb G8 nk e=>gQ e λo y=>(hg b o (nt b e) ((N.same b G8 nk e).trans y)).trans y.symm⟩
 have upd:∀{g₁:Heap} {b:Addr},b≠tb->(g₁.update tb (Obj.mapFields (·.setIfInBounds 3 .none))).get? b=g₁.get? b:=λhb=>rS _ _ _ _ hb
 have VK:=turn (xM:=g'.update tb (Obj.mapFields (·.setIfInBounds 3 .none))) λb o hb e=>(upd hb).trans e
 have dh:=at_.turned (s':={s with heap:=g'.update tb (Obj.mapFields (·.setIfInBounds 3 .none))}) ap VK rfl rfl
 have Nf:=(upd (g₁:=g') (uF N.ne)).trans N.at_
 have XY:=qv (Obj.mapFields (·.setIfInBounds 3 .none)) tt.1 (KY (wJ tt.2.1 _))
 refine wpAny_handleBy_cons (codeAny_handlers_test (ht env h _ _ a _ _ at_.S dh.R ⟨_,Nf,(Obj.cls_mapFields ..).trans X.2.1⟩ λs' R' e'=>codeAny_handlers_suite (wpAny_setFlight_none (e' _ _ Nf) xR Oi (e' _ _ XY) (wJ tt.2.1 _) (f5 tt.2.2 (Array.size_setIfInBounds ..).symm) ?_))) (λz=>nomatch z)
 have LS:=turn (xM:=s'.heap.update tb (Obj.mapFields (·.setIfInBounds 3 .none))) λb o hb e=>(upd hb).trans (e' b o ((upd hb).trans e))
 have gJ:=at_.turned (s':={s' with heap:=s'.heap.update tb (Obj.mapFields (·.setIfInBounds 3 .none))}) ap LS (R'.os.trans R.os.symm) (R'.gens.trans R.gens.symm)
 exact Cf (St.turned new LS) (hh env loc h _ _ Q _ ⟨at_.S,gJ.F,gJ.R,⟨at_.T.depth,at_.T.units,at_.T.guards,(λz=>nomatch z),at_.T.frames⟩⟩ q)
theorem Tt(C:gB B){x:Str}{T:String}{pos:Pos}(hx:nm.lookup x=some .globalImplicit)(hg:B.mg x=none)(hb:bootBuiltins x=some (.type T))(hn:x≠"__name__")(hd:(x==("__debug__":Str))=false)
 (Zj:isSubtype (.type T) (.type "BaseException")=pure true)(Zw:isSubtype (.type ((Manifest.find? T).elim "type" λx=>x.metatype)) (.type "tuple")=pure false)(OB:isSubtype (.type cls) (.type T)=pure true):pK B nm (.Name x pos) cls:=
 λ_ _ _ _ _ _ _ S R hT q=>yg C S R hx hg hb hn hd (wpAny_excMatches_type hT Zj Zw OB (q _ R λ_ _ e=>e))
end
noncomputable abbrev EX:=Fm->H->(ab)->(String->H->Prop)->Prop
noncomputable def kq(B:Bk)(k:Nat)(nm:ag)(e:Expr)(m:EX):Prop:=
 ∀env loc h s A (Q:ab) (F:String->H->Prop),At B true k nm env loc h s A->m (cj nm loc) h.c Q F->wpAny B.M A (eval e env) (EPost B h s Q) (pO B h s F) s
noncomputable abbrev qG:=Fm->H->(Fl->Fm->H->Prop)->(String->H->Prop)->Prop
noncomputable def lW(B:Bk)(k:Nat)(nm:ag)(st:Stmt)(m:qG):Prop:=
 ∀env loc h s A (Q:Fl->Fm->H->Prop) (F:String->H->Prop),At B true k nm env loc h s A->m (cj nm loc) h.c Q F->wpAny B.M A (exec st env) (iZ B nm env h s Q) (pO B h s F) s
inductive DN(h:H)(P:Str->Prop):V->Prop
 |str{x:Str}:x.length<=100000->P x->DN h P (.str x)
 |lst{l:L}{ds:List PyData}{vs:aj}:h l=some (.lst vs)->jO h vs ds->PyData.showableAll ds=true->PyData.hasDictAll ds=false->PyData.depthAll ds<=50->(PyData.shown (.list ds)).length<=100000->P (PyData.shown (.list ds))->DN h P (.ref l)
noncomputable abbrev S3(v:V)(h:H)(P:Str->Prop):Prop:=DN h P v
noncomputable abbrev JW:=Str->EW
noncomputable def r5(B:Bk)(t:Bool)(k:Nat)(nm:ag)(es:List Expr)(m:JW):Prop:=
 ∀env loc h s A (Q:ab) (E:aa) (acc:Str) av s₀,At B t k nm env loc h s A->Step c0 av s₀.heap h s.heap->acc.length<=1000000->m acc (cj nm loc) h.c Q->
  Joins B.M A E (evalEach es env) acc (λout s₁=>out.length<=sizeLine/\EPost B av s₀ Q (.str out s₁.toks) {s₁ with toks:=s₁.toks+1}) s
inductive C5(acc:Str)(P:Str->Prop):V->Prop
 |mk{x:Str}:(acc++x).length<=1000000->P (acc++x)->C5 acc P (.str x)
section
variable{B:Bk}{t:Bool}{k:Nat}{nm:ag}{e e' o i tg:Expr}{es:List Expr}{pos:Pos}{m mo:EW}{mx mi:EX}{tw:TW}{mj:JW}
theorem kq.of(he:aV B true k nm e m):kq B k nm e λg h Q _=>m g h Q:=λenv loc h s A Q _ a q=>he env loc h s A Q _ a q
theorem kq.go{env:Env}{loc:Loc}{h av:HA}{s s₀:Shared}{A:Around}{Q:ab}{F:String->H->Prop}(he:kq B k nm e mx)(a:At B true k nm env loc h s A)(q:mx (cj nm loc) h.c Q F)(DQ:Step c0 av s₀.heap h s.heap){P:aa}
 (kk:∀v az x s₁,aP az s₁.heap v x->aI B az s₁->Step c0 h s.heap az s₁.heap->At B true k nm env loc az s₁ A->Q v az.c->P x s₁):wpAny B.M A (eval e env) P (pO B av s₀ F) s:=
 dK (he env loc h s A Q F a q) (λx s₁ z=>by cases z with|mk v az r R S q=>exact kk v az x s₁ r R S (a.step R S) q) λ_ _ e=>e.mono DQ
theorem kq.sub(ho:aV B true k nm o mo)(hi:kq B k nm i mi)(hs:∀x y,subscripted i false x y=operate [x,y] (getItem x y)):
 kq B k nm (.Subscript o i pos) λg h Q F=>mo g h λa az=>mi g az (λb aU=>x8 a b aU Q\/G6 a b aU λc=>F c aU) F:=λenv loc h s A Q F a q=>
 z5 (ho.go a q λu az x s₁ ra br aR bG aX=>hi.go bG aX aR λv aU y cr rb dd be dh ck=>ck.elim (λck=>jE (aR.trans be) (R5 dd a.T (ra.step br be) rb ck hs))
  λck=>dK (afg (Q:=EPost B h s Q) dd a.T (ra.step br be) rb hs ck) (λ_ _ e=>e) λ_ _ e=>e.mono (aR.trans be))
theorem lW.assign(he:kq B k nm e mx)(ht:fy B true true k nm tg tw)(hs:∀env,iC env nm->swapsWith e (some tg) pos.line env=pure false)(hw:∀env,swappedStores [tg] e env=pure none)(h1:∀env,(assignEach [tg] env).map (·.2)=[PySem.assign tg env]):
 lW B k nm (.Assign [tg] e pos) λg h Q F=>mx g h (λv h'=>tw v g h' λg' bP=>Q .next g' bP) F:=λenv loc h s A Q F a q=>
 wpAny_Assign_stores (he.go a q .refl λv az y s₁ r br aR bG aX=>h1 env▸ht.go bG r aX λmB aU cr dh be ck=>.done dh (aR.all.trans be) .next ck) (hs env a.S) (hw env)
theorem lW.expr(he:kq B k nm e mx)(hi:∀env,iC env nm->interactive env=false)(hs:∀env,iC env nm->swapsWith e none pos.line env=pure false):
 lW B k nm (.Expr e pos) λg h Q F=>mx g h (λ_ h'=>Q .next g h') F:=λenv loc h s A Q F a q=>
 wpAny_Expr_any (he.go a q .refl λv az y s₁ r br aR bG aX=>.done bG aR.all .next aX) (hi env a.S) (hs env a.S)
theorem kq.GZ(X:lL B){name:Str}{apos:Pos}{pl:Env->Sem Bool}{T id:String}{ms:fZ}{Fw:aj->H->(ab)->Prop}(ho:kq B k nm o mx)(dY:gI B true k nm es ms)
 (pa:PlainAttrs T)(slot:Slot T name id)(Fq:typeOf (.builtin id)=pure (.type "method_descriptor"))(hc:dp B true k (.builtin id) Fw)(he:zN o name apos es pos pl)(hs:ng es):
 kq B k nm (.Call (.Attribute o name apos) es [] pos) λg h Q F=>mx g h (λv az=>oa T v az/\ms g az λvs aU=>Fw (v::vs) aU Q) F:=λenv loc h s A Q F a q=>
 MethodCall_ (pl:=pl env) (ho.go a q .refl λv az x s₁ r br aR bG aX=>have z:=oa.type br r aX.1
  VE z.1 pa slot Fq z.2 (jE aR (xm X.C .builtin hs dY hc bG (fv:=[v]) (.cons r .nil) aX.2))) (he env)
theorem cT.aiF{st sF:Stmt}{te:Expr}{tQ:List Stmt}{hp:Pos}{ms:qG}{mh:SW}{cs:List String}(hb:lW B k nm st ms)(hh:fQ B false k nm (sF::tQ) mh)(ht:∀c∈cs,pK B nm te c):
 cT B true k nm (.Try [st] [.ExceptHandler (some te) none (sF::tQ) hp] [] [] pos) λg h Q=>ms g h Q λc h'=>c∈cs/\mh g h' Q:=λenv loc h s A Q E a q=>
 wpAny_Try_except (Ug (dK (hb env loc h s A _ _ a q) (λfl s₁ z=>by
  cases fl with
  |next=>exact Iz (Iz z)
  |_=>exact z) λx s₁ z=>by
  induction z with
  |mk br aR X new na aX=>exact W4 (ht _ aX.1) hh (a.step br aR) aR.all new na (a.R.av new) (a.F.vJ new) X aX.2))
theorem Tu(C:gB B){x y:Str}{T U cls:String}{b c:Bool}{px py:Pos}{n:Nat}(hx:nm.lookup x=some .globalImplicit)(hy:nm.lookup y=some .globalImplicit)(Zn:B.mg x=none)(Zo:B.mg y=none)
 (Zb:bootBuiltins x=some (.type T))(Zc:bootBuiltins y=some (.type U))(Zx:x≠"__name__")(Zy:y≠"__name__")(Fh:(x==("__debug__":Str))=false)(Zg:(y==("__debug__":Str))=false)
 (e1:isSubtype (.type T) (.type "BaseException")=pure true)(n1:isSubtype (.type ((Manifest.find? T).elim "type" λx=>x.metatype)) (.type "tuple")=pure false)
 (e2:isSubtype (.type U) (.type "BaseException")=pure true)(n2:isSubtype (.type ((Manifest.find? U).elim "type" λx=>x.metatype)) (.type "tuple")=pure false)
 (s1:isSubtype (.type cls) (.type T)=pure b)(s2:isSubtype (.type cls) (.type U)=pure c)(Za:(b||c)=true):pK B nm (.Tuple [.Name x px,.Name y py] n pos) cls:=λenv h s A a Q E S R hT q=>
 Tuple_ (uU (es:=[.Name x px,.Name y py]) (λ_=>rfl)▸Jo (yg C S R hx Zn Zb Zx Fh (Jo (yg C S R hy Zo Zc Zy Zg (Calls.spliced_nil
  (jX (wpAny_excMatches_tup2 (IsTup.new _ _) (hT.imp λo z=>⟨c9 _ z.1,z.2⟩) e1 n1 e2 n2 s1 s2 (Za▸q _ (R.push _) λ_ _ e=>c9 _ e))))))))
theorem aV.shown(he:aV B t k nm e m):aV B t k nm (.FormattedValue e 115 none pos) λg h Q=>m g h λv az=>S3 v az λx=>Q (.str x) az:=λenv loc h s A Q E a q=>by
 rw [arm_eval_FormattedValue]
 refine ax (he.go a q λv az y s₁ r br aR bG aX=>ax (jY (ax (m:=holding [y] (converted 115 y)) (c8 ?_))))
 induction aX with
 | @str x hx aX=>
  have fin:∀{vU n:Nat},EPost B h s Q (.str x vU) {s₁ with toks:=n}:=(EPost.val (v:=.str x) br ⟨_,rfl⟩ aX).mono aR
  have hz:x.length<=sizeLine:=aw hx (by decide)
  exact r.eZ λtk=>wpAny_habitSame_str (Ui (fin (n:=s₁.toks)) fin hz) (Ui fin fin hz) hz
 | @lst l ds vs hl rd h1 h2 h3 h4 aX=>
  refine((Rd.lst (.inl hl) rd).reads br r).elim λas z=>?_
  cases r.1
  exact pyStrObj_of_reads z h1 (λhd=>Bool.noConfusion (hd.symm.trans h2)) a.T.guards (B3 (n:=PyData.depth (.list ds)+1) a.T (aw (cS (cS h3)) (by decide))) (λ_ _ e=>e) (λh' u tk hk=>
   have fin:∀{vU n:Nat},EPost B h s Q (.str (PyData.shown (.list ds)) vU) {s₁ with heap:=h',toks:=n}:=λ{vU n}=>(EPost.grown br hk (v:=.str _) ⟨_,rfl⟩ aX).mono aR
   Ui fin fin (aw h4 (by decide))) (aw h4 (by decide))
theorem r5.nil:r5 B t k nm [] λacc _ h Q=>Q (.str acc) h:=λ_ _ _ _ _ _ _ _ _ _ a S hl q=>⟨iM hl,(EPost.val (v:=.str _) a.R ⟨_,rfl⟩ q).mono S⟩
theorem r5.cons(he:aV B t k nm e m)(dY:r5 B t k nm es mj):r5 B t k nm (e::es) λacc g h Q=>m g h λv az=>C5 acc (λx=>mj x g az Q) v:=λenv loc h s A Q E acc av s₀ a DQ hl q=>
 he.go a q λv az y s₁ r br aR bG aX=>by
  induction aX with
  | @mk x hx aX=>exact r.eZ λtk=>⟨x,tk,rfl,iM hx,dY env loc az s₁ A Q E _ av s₀ bG (DQ.trans aR) hx aX⟩
theorem aV.joined(h:r5 B t k nm (e::e'::es) mj):aV B t k nm (.JoinedStr (e::e'::es) pos) λg h Q=>mj Str.empty g h Q:=λenv loc h' s A Q E a q=>wpAny_JoinedStr (h env loc h' s A Q E _ h' s a .refl (by decide) q)
end
noncomputable def qd:List (List Nat):=[]::((List.range 8).map λp=>[p])++(List.range 8).flatMap λp=>((List.range 8).filter λq=>decide (p<q)).map λq=>[p,q]
structure T7(ps:List Nat)(tb:SetTable):Prop where
 mask:tb.mask=7
 place:tb.place=ps.toArray
 oB:tb.dummies= #[]
 row:ps∈qd
noncomputable def nZ(ps:List Nat):SetTable:=⟨7,ps.toArray,#[],0,true,0,true⟩
noncomputable def HS(ps:List Nat)(j:Nat):Bool:=match (nZ ps).slot j with
 | .empty=>!ps.contains j
 | .live i=>ps[i]?==some j
 | .dummy=>false
theorem ahP:(qd.all λps=>(List.range 8).all λj=>HS ps j)=true:=by decide+kernel
theorem three:(qd.all λps=>(List.range 8).all λj=>!ps.contains j||!ps.contains ((j*5+1)%8)||!ps.contains (((j*5+1)%8*5+1)%8))=true:=by decide+kernel
noncomputable def HG(ps:List Nat)(j:Nat):Bool:=decide (2<=ps.length)||ps.contains j||(decide (((nZ ps).put j).1.place.toList∈qd)&&(((nZ ps).put j).1.place.toList==ps.take ((nZ ps).put j).2++j::ps.drop ((nZ ps).put j).2&&((nZ ps).put j).1.dummies==#[]))
theorem af6:(qd.all λps=>(List.range 8).all λj=>HG ps j)=true:=by decide+kernel
theorem agv:(qd.all λps=>decide ps.Nodup)=true:=by decide+kernel
noncomputable def pos(x:Int)(k:Nat):Nat×Nat:=k.rec (SetTable.bits x%8,SetTable.bits x) λ_ p=>((p.1*5+1+p.2/32)%8,p.2/32)
noncomputable def oS(x:Int)(k:Nat):SetTable.Probe:={j:=(pos x k).1,more:=0,i:=(pos x k).1,perturb:=(pos x k).2,dummy:=none}
noncomputable def se(ps:List Nat)(x:Int)(P:Nat->Prop)(k:Nat):Prop:=∀i,i<k->∃a:Nat,ps[a]?=some (pos x i).1/\P a
inductive Meet(ps:List Nat)(tb:SetTable)(at_:Nat->Int)(x:Int)(P:Nat->Prop)(k:Nat):SetTable.Met->Prop
 |empty{m:Nat}:(pos x m).1∉ps->se ps x P m->Meet ps tb at_ x P k (.empty (pos x m).1 none)
 |Al{m i:Nat}:ps[i]?=some (pos x m).1->tb.slot (pos x m).1= .live i->at_ i=x->se ps x P m->k<=m->Meet ps tb at_ x P k (.candidate (pos x m).1 i (oS x (m+1)))
structure VB(ps:List Nat)(j:Nat)(tb lE:SetTable)(p:Nat):Prop where
 T:T7 (ps.take p++j::ps.drop p) lE
 led:lE.led=tb.led
 plain:lE.plain=tb.plain
section
variable{ps:List Nat}{tb:SetTable}{j k a:Nat}{x:Int}{P:Nat->Prop}{at_:Nat->Int}
theorem Ee{p:List Nat->Nat->Bool}(h:(qd.all λps=>(List.range 8).all λj=>p ps j)=true)(r:ps∈qd)(hj:j<8):p ps j=true:=d5.1 (d5.1 h ps r) j (kZ.2 hj)
theorem Bd(h:(!ps.contains j)=true):j∉ps:=λm=>by rw [List.contains_iff_mem.mpr m] at h;cases h
theorem T7.slot0(T:T7 ps tb):tb.slot j=(nZ ps).slot j:=by
 unfold SetTable.slot
 rw [T.place,T.oB];rfl
theorem T7.slot(T:T7 ps tb)(hj:j<8):(tb.slot j= .empty/\j∉ps)\/∃i,tb.slot j= .live i/\ps[i]?=some j:=by
 have z:HS ps j=true:=Ee ahP T.row hj
 rw [T.slot0]
 unfold HS at z
 cases e:(nZ ps).slot j with
 |empty=>rw [e] at z;exact .inl ⟨rfl,Bd z⟩
 |live i=>rw [e] at z;exact .inr ⟨i,rfl,eq_of_beq z⟩
 |dummy=>rw [e] at z;cases z
theorem yC:(pos x k).1<8:=by cases k<;>exact wB _ (by decide)
theorem SP{i:Nat}(h:i<8):SetTable.runEnd 7 i - i=0:=(au (· - i) (bD λz=>absurd (aw (rY 9 i) z) (by decide):SetTable.runEnd 7 i=i)).trans (KP i)
theorem afI(m:tb.mask=7):tb.probeStart x=oS x 0:=by
 unfold SetTable.probeStart
 rw [m]
 exact au (SetTable.Probe.mk _ · _ _ _) (SP (yC (x:=x) (k:=0)))
theorem afJ(m:tb.mask=7):tb.advance (oS x k)=oS x (k+1):=by
 unfold SetTable.advance
 rw [m]
 exact(bD (kh 0)).trans (au (SetTable.Probe.mk _ · _ _ _) (SP (yC (x:=x) (k:=k+1))))
theorem afG:(pos x k).2=SetTable.bits x/32^k:=by
 induction k with
 |zero=>exact(Nat.div_one _).symm
 |succ k ih=>exact(au (·/32) ih).trans (Nat.div_div_eq_div_mul ..)
theorem Sh(h:(pos x k).2=0):(pos x (k+1)).1=((pos x k).1*5+1)%8/\(pos x (k+1)).2=0:=⟨au (λp=>((pos x k).1*5+1+p/32)%8) h,au (·/32) h⟩
theorem Sf(row:ps∈qd):∃k,k<=15/\(pos x k).1∉ps:=by
 have Oj:(pos x 13).2=0:=afG.trans (Nat.div_eq_of_lt (dD ((Int.toNat_lt (Int.emod_nonneg _ (by decide))).mpr (Int.emod_lt_of_pos x (by decide:(0:Int)<2^64))) (by decide)))
 have UX:=Sh Oj
 have z15:=Sh UX.2
 have t:=Ee three row (yC (x:=x) (k:=13))
 rw [<-UX.1,<-z15.1] at t
 exact((lM _ _).mp t).elim (λz=>((lM _ _).mp z).elim (λz=>⟨13,by decide,Bd z⟩) λz=>⟨14,by decide,Bd z⟩) λz=>⟨15,by decide,Bd z⟩
theorem se.more(v:se ps x P k)(e:ps[a]?=some (pos x k).1)(h:P a):se ps x P (k+1):=λi hi=>(Nat.lt_succ_iff_lt_or_eq.mp hi).elim (v i) λz=>z▸⟨a,e,h⟩
theorem go_eq{f:Nat}{p:SetTable.Probe}:SetTable.probe.go tb at_ x (f+1) p=(tb.slot p.j).rec (motive:=λ_=>Option SetTable.Met) (some (.empty p.j p.dummy)) (SetTable.probe.go tb at_ x f (tb.advance {p with dummy:=some p.j})) (λi=>if at_ i==x then some (.candidate p.j i (tb.advance p)) else SetTable.probe.go tb at_ x f (tb.advance p)):=by kernel_rfl
theorem T7.go(T:T7 ps tb)(hP:∀a,a<ps.length->at_ a≠x->P a){f:Nat}:∀{k:Nat},se ps x P k->16<f+k->∃m,SetTable.probe.go tb at_ x f (oS x k)=some m/\Meet ps tb at_ x P k m:=by
 induction f with
 |zero=>exact λv h=>(Sf T.row).elim λj z=>(v j (b7 z.1 (qB (by decide:15<16) (f5 h (og _))))).elim λa e=>absurd (cP e.1) z.2
 |succ f ih=>
  intro k v h
  rw [go_eq]
  refine(T.slot (yC (x:=x) (k:=k))).elim (λw=>?_) λw=>w.elim λi w=>?_
  ·rw [show tb.slot (oS x k).j=_ from w.1];exact⟨_,rfl,.empty w.2 v⟩
  ·rw [show tb.slot (oS x k).j=_ from w.1]
   dsimp only
   rw [afJ T.mask]
   refine(aN (at_ i=x)).elim (λhx=>?_) λhx=>?_
   ·rw [if_pos (beq_iff_eq.mpr hx)];exact⟨_,rfl,.Al w.2 w.1 hx v (cB _)⟩
   ·rw [if_neg λz=>hx (beq_iff_eq.mp z)]
    refine(ih (v.more w.2 (hP i (cm.1 w.2).1 hx)) (uD f k▸h)).imp λm z=>⟨z.1,?_⟩
    cases z.2 with
    |empty a b=>exact .empty a b
    |Al a b c d km=>exact .Al a b c d (qA km)
theorem T7.put(T:T7 ps tb)(hj:j<8)(n:j∉ps)(l:ps.length<2):VB ps j tb (tb.put j).1 (tb.put j).2:=by
 have z:HG ps j=true:=Ee af6 T.row hj
 unfold HG at z
 rw [decide_eq_false (Nat.not_le.mpr l),Bool.eq_false_iff.mpr λz=>n (List.contains_iff_mem.mp z),Bool.false_or,Bool.false_or] at z
 have z:=(zi _ _).mp z
 have y:=(zi _ _).mp z.2
 have b:=eq_of_beq y.1
 have e1:(tb.put j).2=((nZ ps).put j).2:=au (SetTable.below · j) T.place
 have e2:(tb.put j).1.place=((nZ ps).put j).1.place:=au (λp=>SetTable.insertAt p (SetTable.below p j) j) T.place
 have e3:(tb.put j).1.dummies=((nZ ps).put j).1.dummies:=au (λd=>if SetTable.has d j then SetTable.eraseAt d (SetTable.below d j) else d) T.oB
 exact⟨⟨T.mask,e2.trans (zc.1 (e1▸b)),e3.trans (eq_of_beq y.2),e1▸b▸cU z.1⟩,rfl,rfl⟩
end
noncomputable abbrev oW(es:Array (Int×Value))(ep:Nat)(tb:SetTable):Obj:={cls:=.type "set",dict:=none,data:=.set es ep tb,slots:=#[]}
structure k9(P:Params)(h:HA)(g:Heap)(S:Addr)(ws:aj)(es:Array (Int×Value))(ep:Nat)(tb:SetTable):Prop where
 at_:g.get? S=some (oW es ep tb)
 rep:aY h g ws (es.toList.map (·.2))
 hash:es.toList.map (·.1)=ws.map (cI P)
 nodup:ws.Nodup
 fits:tb.fits es.size=true
 led:tb.led= !P.followText "set-order"
 plain:es.size=0\/tb.plain=false
inductive IsPair:V->Prop
 |mk{i:Int}{y:Str}:PyData.strOk y=true->IsPair (.tup [.int i,.str y])
section
variable{B:Bk}{h:HA}{s:Shared}{A:Around}{E:aa}{v:V}{x:Value}{stored:ao}{Q:Bool->Shared->Prop}{P:Value->Prop}
theorem IsPair.key(p:IsPair v):cz 8 v:=by
 induction p with
 |mk z=>exact .tup (n:=7) λu m=>(dP.1 m).elim (λe=>e▸.int) λm=>a6.1 m▸.str z
@[elab_as_elim] theorem IsPair.cA(p:IsPair v)(r:aP h s.heap v x)(k:∀a i ti y ty,TupAt s.heap a #[.int i ti,.str y ty]->P (.ref a)):P x:=by
 induction p with
 |mk z=>exact r.iP λa xs hx rs=>aY.two (P:=λl=>∀xs:aq,xs.toList=l->TupAt s.heap a xs->P (.ref a)) rs (λu w ru mL=>ru.dG (p:=λu=>∀xs:aq,xs.toList=[u,w]->TupAt s.heap a xs->P (.ref a)) λti=>mL.eZ (p:=λw=>∀xs:aq,xs.toList=[_,w]->TupAt s.heap a xs->P (.ref a)) λty xs e hx=>
  k a _ ti _ ty ((zc.1 e:xs= #[_,_])▸hx)) xs rfl hx
theorem Sb(p:IsPair v)(r:aP h s.heap v x)(q:Q false s):wpAny B.M A (ofAClassStatement 8 x) Q E s:=p.cA r λa i ti y ty hx=>by
 have hT:s.TypeIs (.ref a) "tuple":=⟨_,hx,rfl⟩
 unfold ofAClassStatement
 refine ax (y4 hT ?_)
 refine iR rfl (ax (aG ?_))
 refine bZ rfl (ax (Ce hx rfl (ax ?_)))
 rw [<-Array.forIn_toList]
 exact xJ (λz m P q=>by
  refine ax (m:=ofAClassStatement 7 z) ?_
  have e:ofAClassStatement 7 z=pure false:=(dP.1 m).elim (λe=>e▸rfl) λm=>a6.1 m▸rfl
  rw [e]
  exact aG (bZ rfl (aG q))) (aG q)
theorem afy(p:IsPair v)(r:aP h s.heap v x)(hs:∀y∈stored,∃u,IsPair u/\aP h s.heap u y)(q:Q false s):wpAny B.M A (searchCouldBeSeen x stored) Q E s:=by
 have rx:=r
 revert rx
 refine p.cA r λa _ _ _ _ _ rx=>ax (m:=forIn stored _ _) (xJ (λy m P q=>(hs y m).elim λu z=>?_) (aG q))
 have ry:=z.2
 revert ry
 exact z.1.cA z.2 λb _ _ _ _ _ ry=>o6 (λ_=>aG q) λ_=>ax (AP p.key (cB 8) rx (bZ rfl (ax (AP z.1.key (cB 8) ry (bZ rfl (ax (Sb p rx (bZ rfl (ax (Sb z.1 ry (bZ rfl (aG q))))))))))))
theorem afs(p:IsPair v)(r:aP h s.heap v x)(q:Q false s):wpAny B.M A (hashByValue 8 x) Q E s:=p.cA r λa i ti y ty hx=>by
 have hT:s.TypeIs (.ref a) "tuple":=⟨_,hx,rfl⟩
 unfold hashByValue
 refine ax (y3 hT F.slot_tuple_hash.lookup ?_)
 refine ax (Ce hx rfl (ax ?_))
 rw [<-Array.forIn_toList]
 show wpAny _ _ (forIn [Value.int i ti,.str y ty] _ _) _ _ _
 rw [List.forIn_cons]
 refine ax (ax (aG (bZ rfl (aG ?_))))
 show wpAny _ _ (forIn [Value.str y ty] _ _) _ _ _
 rw [List.forIn_cons]
 exact ax (ax (aG (iR rfl (aG (aG (aG q))))))
end
section
variable(S:Addr)(x:Value)(hv:Int)(f:Nat)
noncomputable def HO(next:SetTable.Probe)(equal:Bool)(ah2:Option Nat):Sem SetFound:=
 ah2.rec (rule "set.search.anew">>= λ_=>setSearchFrom S x hv true f none) λi=>if equal=true then pure (.there (some i)) else setSearchFrom S x hv true f (some next)
noncomputable def ahl(y:Value)(t:SetTable)(j:Nat)(next:SetTable.Probe)(equal:Bool)(p:Array (Int×Value)×Nat×SetTable):Sem SetFound:=
 if(true&&equal)=true then pure (.there none) else match p.2.2.sameMemory t.moves t.mask with
  |some same=>match (if same=true then p.2.2.slot j else .empty) with
   | .live i=>(p.1[i]?).rec (pure none>>= HO S x hv f next equal) λe=>isSame e.2 y>>= λb=>pure (if b=true then some i else none)>>= HO S x hv f next equal
   |_=>pure none>>= HO S x hv f next equal
  |_=>unsupported "set.changed-during-lookup:is-the-new-block-at-the-old-address"
noncomputable def yI(es:Array (Int×Value))(t:SetTable)(j i:Nat)(next:SetTable.Probe):Sem SetFound:=
 match es[i]? with
 |some (_,y)=>holding [y] (eqBool y x)>>= λequal=>setState S>>= ahl S x hv f y t j next equal
 |_=>unsupported "internal:set-entry"
noncomputable def ST(es:Array (Int×Value))(t:SetTable)(m:SetTable.Met):Sem SetFound:=m.rec
 (λj d=>d.rec (pure (.free j false)) λd=>if(true&&t.slot d !=.dummy)=true then rule "set.search.the-dummy-was-taken">>= λ_=>setSearchFrom S x hv true f none else pure (.free d true))
 λj i next=>if(!t.led)=true then searchCouldBeSeen x ((es.filter λe=>e.1==hv).toList.map λe=>e.2)>>= λb=>if b=true then(unsupported "set:the-search-would-show-the-table":Sem Unit)>>= λ_=>yI S x hv f es t j i next else yI S x hv f es t j i next else yI S x hv f es t j i next
noncomputable def BE(oX:Option SetTable.Probe)(p:Array (Int×Value)×Nat×SetTable):Sem SetFound:=
 match p.2.2.probe (λi=>(p.1[i]?.map (·.1)).getD 0) hv (oX.getD (p.2.2.probeStart hv)) with
 |some m=>ST S x hv f p.1 p.2.2 m
 |_=>unsupported "internal:set-table-without-an-empty-slot"
theorem ahn(oX:Option SetTable.Probe):setSearchFrom S x hv true (f+1) oX=setState S>>= λp=>if p.2.2.gaveWay=true then(unsupported "set:on-a-table-that-gave-way":Sem Unit)>>= λ_=>BE S x hv f oX p else BE S x hv f oX p:=by kernel_rfl
end
section
variable{B:Bk}{h:HA}{s:Shared}{A:Around}{E:aa}{v:V}{x:Value}{S:Addr}{ws:aj}{ps:List Nat}{es:Array (Int×Value)}{ep:Nat}{tb:SetTable}
theorem k9.size{P:Params}{g:Heap}(I:k9 P h g S ws es ep tb):es.size=ws.length:=(mT (xs:=es)).symm.trans ((bx _).symm.trans ((au List.length I.hash).trans (bx _)))
theorem k9.elem{P:Params}{g:Heap}{p:Prop}(I:k9 P h g S ws es ep tb){a:Nat}{w:V}(e:ws[a]?=some w)(k:∀y,es[a]?=some (cI P w,y)->aP h g w y->p):p:=
 I.rep.get e λy ey ry=>nQ (eL.symm.trans ey) λq eq e2=>
  have h1:q.1=cI P w:=bc ((eL.trans (au (Option.map λe:Int×Value=>e.1) eq)).symm.trans ((au (λl:List Int=>l[a]?) I.hash).trans (eL.trans (au (Option.map (cI P)) e))))
  k y (Je.symm.trans (eq.trans (au some (ni h1 e2)))) ry
theorem afx{Q:SetFound->Shared->Prop}(R:aI B h s)(hu:A.units+100<cLine)(I:k9 B.w.params h s.heap S ws es ep tb)(T:T7 ps tb)(hl:ps.length=ws.length)(kw:∀w∈ws,IsPair w)(kv:IsPair v)(rv:aP h s.heap v x)
 (path:v∈ws->∃(a k:Nat),ws[a]?=some v/\ps[a]?=some (pos (cI B.w.params v) k).1/\∀i,i<k->(pos (cI B.w.params v) i).1∈ps)
 (q0:v∈ws->Q (.there none) s)(q1:v∉ws->∀m,(pos (cI B.w.params v) m).1∉ps->(∀i,i<m->(pos (cI B.w.params v) i).1∈ps)->Q (.free (pos (cI B.w.params v) m).1 false) s){f:Nat}:
 ∀{k:Nat} {oX:Option SetTable.Probe},oX.getD (tb.probeStart (cI B.w.params v))=oS (cI B.w.params v) k->se ps (cI B.w.params v) (λa=>ws[a]?≠some v) k->16<f+k->wpAny B.M A (setSearchFrom S x (cI B.w.params v) true f oX) Q E s:=by
 induction f with
 |zero=>exact λ_ vi hf=>(Sf T.row).elim λj z=>(vi j (b7 z.1 (qB (by decide:15<16) (f5 hf (og _))))).elim λa e=>absurd (cP e.1) z.2
 |succ f ih=>
  intro k oX ek vi hf
  have state:∀{Q:Array (Int×Value)×Nat×SetTable->Shared->Prop},Q (es,ep,tb) s->wpAny B.M A (setState S) Q E s:=λq=>t9 I.at_ rfl I.fits q
  rw [ahn]
  refine ax (state (bZ (cQ ?_) ?_))
  ·show ¬tb.gaveWay=true
   unfold SetTable.gaveWay
   rw [T.mask];decide
  have met:=T.go (at_:=λi=>(es[i]?.map (·.1)).getD 0) (x:=cI B.w.params v) (P:=λa=>ws[a]?≠some v) (λa _ jy e=>jy (I.elem e λy ey _=>au (λo:Option (Int×Value)=>(o.map (·.1)).getD 0) ey)) (f:=10*SetTable.turns tb.mask) vi (by rw [T.mask];exact dD (by decide:16<10*(7+15)) (jh _ _))
  refine met.elim λm z=>?_
  rw [show BE S x (cI B.w.params v) f oX (es,ep,tb)=ST S x (cI B.w.params v) f es tb m by
   unfold BE
   dsimp only
   rw [ek,show tb.probe (λi=>(es[i]?.map (·.1)).getD 0) (cI B.w.params v) (oS (cI B.w.params v) k)=some m from z.1]]
  cases z.2 with
  | @empty m hp B6=>
   refine aG (q1 (λmv=>(path mv).elim λa y=>y.elim λk0 y=>?_) m hp λi hi=>(B6 i hi).elim λa e=>cP e.1)
   have lt:k0<m:=rZ (wE.1 λz=>hp (y.2.2 m z)) λz=>hp (z▸cP y.2.1)
   have nd:ps.Nodup:=cU (d5.1 agv ps T.row)
   exact(B6 k0 lt).elim λa' e=>e.2 (((wr (cm.1 y.2.1).1 nd).mp (y.2.1.trans e.1.symm))▸y.1)
  | @Al m i e cG hh B6 km=>
   refine gQ (λz=>kh _ (dD (hl▸(cm.1 e).1) (lQ.1 z)):ws[i]?≠none) λw ew=>I.elem ew λy ey ry=>?_
   have pw:=kw w (cP ew)
   have tail:wpAny B.M A (yI S x (cI B.w.params v) f es tb (pos (cI B.w.params v) m).1 i (oS (cI B.w.params v) (m+1))) Q E s:=by
    unfold yI
    rw [ey]
    refine ax (c8 (OT R hu pw.key kv.key (by decide) ry rv (λz=>ax (state (iR rfl (aG (q0 (z▸cP ew)))))) λz=>ax (state (bZ rfl ?_))))
    have sm:tb.sameMemory tb.moves tb.mask=some true:=bz (iF _)
    dsimp only
    rw [sm]
    dsimp only
    rw [if_pos rfl,cG]
    dsimp only
    rw [ey]
    clear ey
    exact pw.cA ry λb _ _ _ _ _=>ax (wpAny_isSame_ref_self (ax (aG (ih (k:=m+1) rfl (B6.more e λy=>z (bc (ew.symm.trans y))) (dD hf (aw (aL (uD f k)) (eV (cS km) f)))))))
   exact o6 (λ_=>ax (afy kv rv (λy hy=>(bg.1 hy).elim λe' z=>I.rep.mem (bg.2 ⟨e',Array.mem_toList_iff.mpr (Array.mem_filter.mp (Array.mem_toList_iff.mp z.1)).1,z.2⟩) λu mu ru=>⟨u,kw u mu,ru⟩) (bZ rfl tail))) λ_=>tail
end
section
variable(S:Addr)(x:Value)(hv:Int)
noncomputable def D4(es:Array (Int×Value))(p:Nat)(wd:Bool)(t:SetTable):Sem Bool:=storeSet S (SetTable.insertAt es p (hv,x)) t>>= λ_=>if(!wd&&t.tooFull)=true then setRelay S (SetTable.grown (es.size+1))>>= λ_=>pure true else pure true
noncomputable def VM(r:SetFound):Sem Bool:=match r with
 | .free slot wd=>setState S>>= λq=>
  if(q.2.2.put slot).1.plain=true then hashByValue 8 x>>= λb=>D4 S x hv q.1 (q.2.2.put slot).2 wd (if b=true then(q.2.2.put slot).1 else {(q.2.2.put slot).1 with plain:=false})
  else pure true>>= λb=>D4 S x hv q.1 (q.2.2.put slot).2 wd (if b=true then(q.2.2.put slot).1 else {(q.2.2.put slot).1 with plain:=false})
 |_=>pure false
theorem L5{f:Nat}:setAddHashedIn S x hv (f+1)=setState S>>= λq=>if byScan x q.1=true then setAddByScan S x hv q.1 q.2.2>>= λr=>r.rec (setAddHashedIn S x hv f) pure else setSearch S x hv true>>= VM S x hv:=by kernel_rfl
end
theorem TN{M:Model}{A:Around}{E:aa}{s:Shared}{α:Type}{x:Value}{jp:SetTable->Sem α}{t:SetTable}{Q:α->Shared->Prop}(hb:∀{Q:Bool->Shared->Prop},Q false s->wpAny M A (hashByValue 8 x) Q E s)(q:wpAny M A (jp {t with plain:=false}) Q E s):
 wpAny M A (if t.plain=true then hashByValue 8 x>>= λb=>jp (if b=true then t else {t with plain:=false}) else pure true>>= λb=>jp (if b=true then t else {t with plain:=false})) Q E s:=
 o6 (λ_=>ax (hb (bD jd▸q))) λz=>ax (aG (by
  have e:({t with plain:=t.plain}:SetTable)={t with plain:=false}:=au (λb=>({t with plain:=b}:SetTable)) (eq_false_of_ne_true z)
  rw [if_pos rfl]
  exact e.symm▸q))
structure DG(P:Params)(h:HA)(g:Heap)(S:Addr)(ws:aj)(es:Array (Int×Value))(ep:Nat)(tb:SetTable)(ps:List Nat):Prop where
 I:k9 P h g S ws es ep tb
 T:T7 ps tb
 len:ps.length=ws.length
 kw:∀w∈ws,IsPair w
 path:∀q∈ws.zip ps,∃k:Nat,q.2=(pos (cI P q.1) k).1/\∀i,i<k->(pos (cI P q.1) i).1∈ps
section
variable{α β:Type}{l:List α}{x z:α}{p:Nat}
theorem yj:z∈l.take p++x::l.drop p↔z=x\/z∈l:=Dr.mem_iff.trans (dP.trans (Iff.of_eq (au (λl=>z=x\/z∈l) (Ds p l))))
theorem ye:(l.take p++x::l.drop p).length=l.length+1:=Dr.length_eq.trans (au (λl:List α=>l.length+1) (Ds p l))
theorem aeF(h:l.Nodup)(n:x∉l):(l.take p++x::l.drop p).Nodup:=Dr.nodup_iff.mpr ((Ds p l).symm▸gX.2 ⟨n,h⟩)
theorem AK{xs:Array α}:(SetTable.insertAt xs p x).toList=xs.toList.take p++x::xs.toList.drop p:=by
 unfold SetTable.insertAt;simp [List.take_of_length_le]
theorem ajS{y:β}{m:List β}(e:m.length=l.length):(l.take p++x::l.drop p).zip (m.take p++y::m.drop p)=(l.zip m).take p++(x,y)::(l.zip m).drop p:=
 (List.zip_append ((List.length_take).trans ((au (min p) e.symm).trans List.length_take.symm))).trans (kG (au (·++·) (List.take_zipWith (f:=Prod.mk)).symm) (au ((x,y)::·) (List.drop_zipWith (f:=Prod.mk)).symm))
end
section
variable{B:Bk}{h:HA}{s:Shared}{A:Around}{E:aa}{v:V}{x:Value}{S:Addr}{ws:aj}{ps:List Nat}{es:Array (Int×Value)}{ep:Nat}{tb:SetTable}{Q:Bool->Shared->Prop}{g g':Heap}
theorem k9.stays{P:Params}(I:k9 P h g S ws es ep tb)(sb:Heap.SameBut S g g'):dH h g h g':=⟨λa xs q=>(sb.2 a λz=>Data.noConfusion (rm (z▸q) I.at_)).trans q,λ_ e=>⟨e,rfl⟩⟩
theorem k9.put{P:Params}{hv:Int}{p:Nat}{tV:SetTable}(I:k9 P h g S ws es ep tb)(rv:aP h g v x)(hh:hv=cI P v)(mv:v∉ws)(f2:tV.fits (SetTable.insertAt es p (hv,x)).size=true)(l2:tV.led=tb.led)(p2:tV.plain=false):
 k9 P h (g.update S (Obj.putSet (SetTable.insertAt es p (hv,x)) tV)) S (ws.take p++v::ws.drop p) (SetTable.insertAt es p (hv,x)) (ep+1) tV:=by
 have st:=I.stays (iu g S (Obj.putSet (SetTable.insertAt es p (hv,x)) tV))
 refine⟨qv (Obj.putSet _ tV) I.at_ rfl,?_,?_,aeF I.nodup mv,f2,l2.trans I.led,.inr p2⟩
 ·rw [AK,List.map_append,List.map_cons,List.map_take,List.map_drop]
  exact((I.rep.bM st).take p).append (.cons (rv.bM st) ((I.rep.bM st).drop p))
 ·rw [AK,List.map_append,List.map_cons,List.map_take,List.map_drop,I.hash,List.map_append,List.map_cons,List.map_take,List.map_drop,hh]
theorem T7.fill(T:T7 ps tb):tb.fill=ps.length:=(kG (au (λa (b:Array Nat)=>a.size+b.size) T.place) T.oB:_)
theorem T7.fits{n:Nat}(T:T7 ps tb)(e:ps.length=n)(l:n<=2):tb.fits n=true/\¬tb.tooFull=true:=by
 unfold SetTable.fits SetTable.tooFull
 rw [T.fill,T.place,T.mask,List.size_toArray,e,beq_self_eq_true,Bool.true_and]
 exact⟨cE (aw l (by decide:2<=7)),λz=>absurd (cU z) (zP.2 (b7 (jN 5 l) (by decide)))⟩
theorem afr(R:aI B h s)(hu:A.units+100<cLine)(I:DG B.w.params h s.heap S ws es ep tb ps)(kv:IsPair v)(rv:aP h s.heap v x)(room:v∉ws->ws.length<2)
 (q0:v∈ws->Q false s)(q1:v∉ws->∀g' cG xA lE Sn p,Heap.SameBut S s.heap g'->DG B.w.params h g' S (ws.take p++v::ws.drop p) cG xA lE Sn->Q true {s with heap:=g'}):
 wpAny B.M A (setAddHashed S x (cI B.w.params v)) Q E s:=by
 have state:∀{Q:Array (Int×Value)×Nat×SetTable->Shared->Prop},Q (es,ep,tb) s->wpAny B.M A (setState S) Q E s:=λq=>t9 I.I.at_ rfl I.I.fits q
 unfold setAddHashed
 rw [L5]
 refine c8 (ax (state (bZ (cQ λz=>Bool.noConfusion (z.symm.trans (kv.cA rv λ_ _ _ _ _ _=>rfl:byScan x es=false))) (ax ?_))))
 refine afx R hu I.I I.T I.len I.kw kv rv (λmv=>(jL.1 mv).elim λa ea=>gQ (λz=>kh _ (dD (I.len.symm▸(cm.1 ea).1) (lQ.1 z)):ps[a]?≠none) λb eb=>(I.path (v,b) (cP (List.getElem?_zip_eq_some.mpr ⟨ea,eb⟩))).elim λk z=>⟨a,k,ea,eb.trans (au some z.1),z.2⟩) (λmv=>aG (q0 mv)) (λmv m hm hp=>?_) (k:=0) (afI I.T.mask) (λ_ z=>nomatch z) (by decide)
 have lw:=room mv
 have Z:=I.T.put (yC (x:=cI B.w.params v) (k:=m)) hm (I.len.symm▸lw)
 refine ax (state (TN (jp:=D4 S x (cI B.w.params v) es (tb.put (pos (cI B.w.params v) m).1).2 false) (afs kv rv) ?_))
 revert Z
 generalize tb.put (pos (cI B.w.params v) m).1=tp
 intro Z
 have hs:(SetTable.insertAt es tp.2 (cI B.w.params v,x)).size=ws.length+1:=mT.symm.trans ((au List.length AK).trans (ye.trans (au (·+1) (mT.trans I.I.size))))
 have T2:T7 (ps.take tp.2++(pos (cI B.w.params v) m).1::ps.drop tp.2) {tp.1 with plain:=false}:=⟨Z.T.mask,Z.T.place,Z.T.oB,Z.T.row⟩
 have F:=T2.fits (ye.trans (au (·+1) I.len)) lw
 refine ax (wpAny_storeSet_of I.I.at_ rfl (bZ (cQ F.2) (aG ?_)) (hs▸iM (aw lw (by decide))))
 refine q1 mv _ _ _ _ _ tp.2 (iu ..) ⟨I.I.put rv rfl mv (hs▸F.1) Z.led rfl,T2,ye.trans ((au (·+1) I.len).trans ye.symm),λw hw=>(yj.mp hw).elim (λz=>z▸kv) (I.kw w),λq hq=>?_⟩
 rw [ajS I.len] at hq
 exact(yj.mp hq).elim (λz=>z▸⟨m,rfl,λi hi=>yj.mpr (.inr (hp i hi))⟩) λz=>(I.path q z).imp λk0 y=>⟨y.1,λi hi=>yj.mpr (.inr (y.2 i hi))⟩
end
section
variable{h:HA}{g:Heap}{vs:aj}{x:Value}{xs ys:ao}
@[elab_as_elim] theorem aY.inv{P:aj->Prop}(r:aY h g vs (x::xs))(k:∀v ws,aP h g v x->aY h g ws xs->P (v::ws)):P vs:=by
 cases vs with
 |nil=>cases r
 |cons v vs=>exact r.elim λy r=>r.elim λys r=>(by cases r.1;exact k v vs r.2.1 r.2.2)
theorem aY.perm(p:ys.Perm xs):∀{vs:aj},aY h g vs xs->∃vs':aj,vs'.Perm vs/\aY h g vs' ys:=by
 induction p with
 |nil=>exact λ{vs} r=>⟨vs,.rfl,r⟩
 |cons x p ih=>exact λr=>r.inv (P:=λvs=>∃vs':aj,vs'.Perm vs/\aY h g vs' _) λv ws a b=>(ih b).elim λlG z=>⟨v::lG,z.1.cons v,.cons a z.2⟩
 |swap x y l=>exact λr=>r.inv (P:=λvs=>∃vs':aj,vs'.Perm vs/\aY h g vs' _) λv ws a b=>b.inv (P:=λws=>∃vs':aj,vs'.Perm (v::ws)/\aY h g vs' _) λw ws b c=>⟨w::v::ws,.swap ..,.cons b (.cons a c)⟩
 |trans p q ZN ZO=>exact λr=>(ZO r).elim λws z=>(ZN z.2).imp λlG y=>⟨y.1.trans z.1,y.2⟩
end
structure ui(P:Params)(h:HA)(g:Heap)(S:Addr)(ws:aj)(es:Array (Int×Value))(ep:Nat)(tb:SetTable):Prop where
 at_:g.get? S=some (oW es ep tb)
 rep:aY h g ws (es.toList.map (·.2))
 nodup:ws.Nodup
 ok:zf P es tb
structure wY(B:Bk)(h:HA)(g:Heap)(S:Addr)(ws:aj)(es:Array (Int×Value))(ep:Nat)(tb:SetTable):Prop where
 I:ui B.w.params h g S ws es ep tb
 el:ElemsOf (PySem.strKind B.prog B.w) es.toList
 kw:∀w∈ws,∃y,w= .str y
 mask:7<=tb.mask
 oB:tb.dummies= #[]
structure Kr(tb lE:SetTable):Prop where
 led:lE.led=tb.led
 mask:7<=lE.mask
 oB:lE.dummies= #[]
theorem aas{tb:SetTable}{es:Array (Int×Value)}{x:Int}{v:Value}(m:7<=tb.mask)(d:tb.dummies= #[]):Kr tb (layNew tb es x v).2.1:=by
 have si:∀n (t':SetTable),t'.led=tb.led->1<=n->Kr tb (t'.standIn n):=λn t' e h=>⟨e,fw (aw (by decide:3<=4*1) (wC 4 h)) (cB 4),rfl⟩
 unfold layNew
 cases tb.freeSlot x with
 |none=>exact si _ _ rfl (rY _ _)
 |some q=>
  have pd:(tb.put q.1).1.dummies= #[]:=by
   unfold SetTable.put
   dsimp only
   rw [d];rfl
  dsimp only
  unfold SetTable.orStandIn
  cases(tb.put q.1).1.fits (SetTable.insertAt es (tb.put q.1).2 (x,v)).size with
  |true=>exact⟨rfl,m,pd⟩
  |false=>exact si _ _ rfl (f5 (iA _) (mT.symm.trans ((au List.length AK).trans ye)).symm)
section
variable(S:Addr)(x:Value)
noncomputable def laid(wd:Bool)(es:Array (Int×Value))(t:SetTable):Sem (Option Bool):=storeSet S es t>>= λ_=>
 if(!wd&&t.tooFull)=true then(match (relayAll t es (SetTable.grown es.size)).2.2 with|true=>rule "set.scan.the-table-gave-way"|false=>pure ())>>= λ_=>storeSet S (relayAll t es (SetTable.grown es.size)).1 (relayAll t es (SetTable.grown es.size)).2.1>>= λ_=>pure (some true)
 else pure (some true)
noncomputable def layIn(L:Array (Int×Value)×SetTable×Bool×Bool):Sem (Option Bool):=(match L.2.2.2 with|true=>rule "set.scan.the-table-gave-way"|false=>pure ())>>= λ_=>
 if L.2.1.plain=true then hashByValue 8 x>>= λb=>laid S L.2.2.1 L.1 (if b=true then L.2.1 else {L.2.1 with plain:=false})
 else pure true>>= λb=>laid S L.2.2.1 L.1 (if b=true then L.2.1 else {L.2.1 with plain:=false})
theorem WH{hv:Int}{es:Array (Int×Value)}{t:SetTable}:setAddByScan S x hv es t=rule "set.add.by-scan">>= λ_=>setScan S x hv true es>>= λr=>r.rec (λ_=>pure (some false)) (layIn S x (layNew t es hv x)) (pure none):=by kernel_rfl
end
section
variable{B:Bk}{h:HA}{s:Shared}{A:Around}{E:aa}{y:Str}{S:Addr}{ws:aj}{es:Array (Int×Value)}{ep:Nat}{tb:SetTable}{tk:Tok}{Q:Bool->Shared->Prop}
theorem ui.bM{P:Params}{g g':Heap}(I:ui P h g S ws es ep tb)(st:dH h g h g')(e:g'.get? S=g.get? S):ui P h g' S ws es ep tb:=⟨e.trans I.at_,I.rep.bM st,I.nodup,I.ok⟩
theorem wY.there(I:wY B h s.heap S ws es ep tb):V.str y∈ws↔∃e∈es.toList,(PySem.strKind B.prog B.w).is y e.2=true:=
 ⟨λm=>(jL.1 m).elim λi e=>I.I.rep.get (q:=∃e∈es.toList,(PySem.strKind B.prog B.w).is y e.2=true) e λx ex r=>(bg.1 (cP ex)).imp λq (z:q∈es.toList/\q.2=x)=>⟨z.1,z.2.symm▸r.eZ (p:=λx=>(PySem.strKind B.prog B.w).is y x=true) λtk=>iF y⟩,
  λz=>z.elim λe z=>I.I.rep.mem (p:=V.str y∈ws) (bg.2 ⟨e,z.1,rfl⟩) λu mu ru=>(I.kw u mu).elim λy' e'=>by
   subst e'
   refine(DX z.2).elim λtk e2=>?_
   rw [e2] at ru
   exact ru.elim λt e3=>(by cases e3;exact mu)⟩
theorem aiG(I:wY B h s.heap S ws es ep tb)(w4:ws.length<=4)(room:V.str y∉ws->ws.length<4)
 (q0:V.str y∈ws->Q false s)(q1:V.str y∉ws->∀g' lG cG xA lE,Heap.SameBut S s.heap g'->wY B h g' S lG cG xA lE->lG.Perm (ws++[.str y])->Q true {s with heap:=g'}):
 wpAny B.M A (setAddHashed S (.str y tk) (PyData.keyHash B.w.params y)) Q E s:=by
 have Nu:es.size=ws.length:=(I.I.rep.length.trans ((bx _).trans mT)).symm
 unfold setAddHashed
 rw [L5]
 refine c8 (ax (t9 I.I.at_ rfl I.I.ok.fits (iR (cE (byScan_of (knd:=PySem.strKind B.prog B.w) rfl (b7 (Nu▸w4) (by decide)) I.el)) ?_)))
 rw [WH]
 refine ax (ax (mO (ax (wpAny_setScan_of (knd:=PySem.strKind B.prog B.w) (k:=y) (iF y) I.I.at_ rfl I.I.ok.fits I.el ?_))))
 cases hr:List.findIdx? (λe=>(PySem.strKind B.prog B.w).is y e.2) es.toList with
 |some j=>exact(List.findIdx?_eq_some_iff_getElem.mp hr).elim λhj z=>aG (aG (q0 (I.there.mpr ⟨_,Dm hj,z.1⟩)))
 |none=>
  have mv:V.str y∉ws:=λz=>(I.there.mp z).elim λe z=>Bool.noConfusion ((List.findIdx?_eq_none_iff.mp hr e z.1).symm.trans z.2)
  have lw:=room mv
  show wpAny B.M A (layIn S _ _) _ _ _
  have xZ:=layNew_perm tb es (PyData.keyHash B.w.params y) (.str y tk)
  have AD:=layNew_fits tb es (PyData.keyHash B.w.params y) (.str y tk)
  have hlay:=aas (es:=es) (x:=PyData.keyHash B.w.params y) (v:=.str y tk) I.mask I.oB
  clear hr
  revert xZ AD hlay
  generalize layNew tb es (PyData.keyHash B.w.params y) (.str y tk)=L
  rw [Array.toList_push]
  intro xZ AD hlay
  have sS:L.1.size=ws.length+1:=mT.symm.trans (xZ.length_eq.trans (cw.trans (au (·+1) (mT.trans Nu))))
  have full:¬(!L.2.2.1&&({L.2.1 with plain:=false}:SetTable).tooFull)=true:=λz=>by
   have e:L.2.1.fill=ws.length+1:=(kG (au (λa (b:Array Nat)=>a+b.size) ((eq_of_beq (j6.1 AD).1:L.2.1.place.size=L.1.size).trans sS)) hlay.oB:_)
   have z3:L.2.1.mask*3<=L.2.1.fill*5:=cU (j6.1 z).2
   rw [e] at z3
   exact absurd z3 (zP.2 (b7 (jN 5 lw) (dD (by decide:4*5<7*3) (jN 3 hlay.mask))))
  have Zm:∀(b:Bool) {s₁:Shared} {Q':Unit->Shared->Prop},Q' () s₁->wpAny B.M A (match b with|true=>rule "set.scan.the-table-gave-way"|false=>pure ()) Q' E s₁:=λb _ _ hq=>by
   cases b with
   |true=>exact mO hq
   |false=>exact aG hq
  have sb:Heap.SameBut S s.heap (s.heap.update S (Obj.putSet L.1 {L.2.1 with plain:=false})):=iu ..
  have st:dH h s.heap h (s.heap.update S (Obj.putSet L.1 {L.2.1 with plain:=false})):=⟨λa xs q=>(sb.2 a λz=>Data.noConfusion (rm (z▸q) I.I.at_)).trans q,λ_ e=>⟨e,rfl⟩⟩
  refine((I.I.rep.append (aY.cons (v:=.str y) (x:=.str y tk) ⟨tk,rfl⟩ .nil)).perm ((xZ.map (·.2)).trans (.of_eq gF))).elim λlG z=>?_
  refine ax (Zm _ (TN (jp:=laid S L.2.2.1 L.1) (λq=>(hashByValue_scannable (x:=.str y tk) 8 rfl)▸aG q) (ax (wpAny_storeSet_of I.I.at_ rfl (bZ (cQ full) (aG (aG (q1 mv _ lG _ _ _ sb ⟨⟨qv (Obj.putSet _ _) I.I.at_ rfl,z.2.bM st,?_,SetTable.fits_plain_off AD,hlay.led.trans I.I.ok.led,.inr rfl⟩,(I.el.push (k:=y) (x:=.str y tk) (iF y) rfl).perm xZ,λw hw=>?_,hlay.mask,hlay.oB⟩ z.1)))) (sS▸iM (aw lw (by decide)))))))
  ·exact z.1.nodup_iff.mpr (pp.2 ⟨I.I.nodup,qz _ _,λa ha b hb e=>mv ((a6.1 hb)▸e▸ha)⟩)
  ·exact(bO.1 (z.1.mem_iff.mp hw)).elim (I.kw w) λz=>⟨y,a6.1 z⟩
end
noncomputable abbrev yK(P:Params):Obj:=oW #[] 0 (.fresh 0 0 (!P.followText "set-order"))
inductive Lb(P:Params)(h:HA)(S:Addr)(ws:aj)(g:Heap):Prop
 |mk{es:Array (Int×Value)}{ep:Nat}{tb:SetTable}{ps:List Nat}:DG P h g S ws es ep tb ps->Lb P h S ws g
inductive LQ(B:Bk)(h:HA)(S:Addr)(ws:aj)(g:Heap):Prop
 |mk{es:Array (Int×Value)}{ep:Nat}{tb:SetTable}:wY B h g S ws es ep tb->LQ B h S ws g
inductive Ji(P:Params)(h:HA)(S:Addr)(ws:aj)(g:Heap):Prop
 |mk{es:Array (Int×Value)}{ep:Nat}{tb:SetTable}:ui P h g S ws es ep tb->Ji P h S ws g
structure Mk(B:Bk)(h:HA)(S:Addr)(vs:aj)(X:aj->Heap->Prop):Prop where
 new:∀g,g.get? S=some (yK B.w.params)->X [] g
 bM:∀{ws:aj} {g g':Heap},X ws g->dH h g h g'->g'.get? S=g.get? S->X ws g'
 out:∀{ws:aj} {g:Heap},X ws g->Ji B.w.params h S ws g
 key:∀v∈vs,cz 8 v
 add:∀{A:Around} {s:Shared} {v:V} {x:Value} {ws:aj} {Q:Bool->Shared->Prop} {E:aa},aI B h s->A.units+100<cLine->v∈vs->aP h s.heap v x->X ws s.heap->(∀w∈ws,w∈vs)->
  (∀b g' lG,Heap.SameBut S s.heap g'->X lG g'->(∀w,w∈lG↔w=v\/w∈ws)->Q b {s with heap:=g'})->wpAny B.M A (setAddHashed S x (cI B.w.params v)) Q E s
section
variable{B:Bk}{h:HA}{s:Shared}{A:Around}{E:aa}{S l:Addr}{vs us ws:aj}{v:V}{n:Nat}{items:aq}{X:aj->Heap->Prop}
theorem NA(hu:us.length<=n)(m:∀v∈vs,v∈us)(hw:∀w∈ws,w∈vs)(nd:ws.Nodup):ws.length<=n:=
 letI:DecidableEq V:=λ_ _=>Classical.propDecidable _
 aw (aeG (l:=ws) (m:=us) nd λw z=>m w (hw w z)) hu
theorem NB(hu:us.length<=n)(m:∀v∈vs,v∈us)(hv:v∈vs)(hw:∀w∈ws,w∈vs)(nd:ws.Nodup)(nv:v∉ws):ws.length<n:=
 NA (ws:=v::ws) hu m (λw z=>(dP.1 z).elim (λe=>e▸hv) (hw w)) (gX.2 ⟨nv,nd⟩)
theorem k9.pR{P:Params}{g:Heap}{es:Array (Int×Value)}{ep:Nat}{tb:SetTable}(I:k9 P h g S ws es ep tb):ui P h g S ws es ep tb:=⟨I.at_,I.rep,I.nodup,I.fits,I.led,I.plain.imp_left λz=>aw (aL z) (bH 1)⟩
theorem aeq(hu:us.length<=2)(m:∀v∈vs,v∈us)(kp:∀v∈vs,IsPair v):Mk B h S vs (Lb B.w.params h S) where
 new:=λg e=>.mk (ps:=[]) ⟨⟨e,.nil,rfl,.nil,rfl,rfl,.inl rfl⟩,⟨rfl,rfl,rfl,.head _⟩,rfl,λ_ z=>absurd z a0,λq z=>absurd z a0⟩
 bM:=λx st e=>x.casesOn λI=>.mk ⟨⟨e.trans I.I.at_,I.I.rep.bM st,I.I.hash,I.I.nodup,I.I.fits,I.I.led,I.I.plain⟩,I.T,I.len,I.kw,I.path⟩
 out:=λx=>x.casesOn λI=>.mk I.I.pR
 key:=λv hv=>(kp v hv).key
 add:=λR hA hv r x hw q=>x.casesOn λI=>afr R hA I (kp _ hv) r (λnv=>NB hu m hv hw I.I.nodup nv) (λmv=>q false _ _ (C8 ..) x λw=>⟨.inr,λz=>z.elim (λz=>z▸mv) id⟩)
  λnv g' cG xA lE Sn p sb I'=>q true g' _ sb (.mk I') λw=>yj
theorem aer(hu:us.length<=4)(m:∀v∈vs,v∈us)(kp:∀v∈vs,∃y,v= .str y/\PyData.strOk y=true):Mk B h S vs (LQ B h S) where
 new:=λg e=>.mk ⟨⟨e,.nil,.nil,rfl,rfl,.inl (by decide)⟩,λ_ z=>absurd z a0,λ_ z=>absurd z a0,cB 7,rfl⟩
 bM:=λx st e=>x.casesOn λI=>.mk ⟨I.I.bM st e,I.el,I.kw,I.mask,I.oB⟩
 out:=λx=>x.casesOn λI=>.mk I.I
 key:=λv hv=>(kp v hv).elim λy z=>z.1▸.str z.2
 add:=λ{A s v x ws Q E} R hA hv r X hw q=>(kp _ hv).elim λy z=>by
  cases z.1
  exact X.casesOn λI=>r.eZ λtk=>aiG I (NA hu m hw I.I.nodup) (λnv=>NB hu m hv hw I.I.nodup nv) (λmv=>q false _ _ (C8 ..) X λw=>⟨.inr,λz=>z.elim (λz=>z▸mv) id⟩)
   λnv g' lG cG xA lE sb I' pm=>q true g' _ sb (.mk I') λw=>pm.mem_iff.trans (bO.trans (or_comm.trans (qZ a6)))
theorem ahv(a:Value){Q:aa}(q:Q (.ref s.heap.objs.size) {s with heap:=s.heap.push (yK B.w.params)}):codeAny B.M A (.call (.builtin "set.__new__") ⟨[.type "set",a],[]⟩) (wants Q E) s:=by
 refine xp ?_
 show wpAny _ A.in1 (do checkBuiltinCall "set.__new__" ⟨[.type "set",a],[]⟩;again (.builtin "set.__new__" ⟨[.type "set",a],[]⟩)) _ _ s
 refine ax (o7 (F.newCall_set_1 a) (aG ⟨Br F.plain_set_new _,qM F.entry_set_new ?_⟩))
 rw [Around.under_plainId F.plain_set_new _]
 unfold Builtin.«set.__new__» Builtin.Frozenset.newClass
 have OB:=Tn
 obtain⟨hp,g,d,tk,os⟩:=s
 wp_walk
 refine Cc (aG ?_)
 simp only [newObj]
 exact ax (wpAny_alloc (aG (aG q)))
structure pq(B:Bk)(h:HA)(s₀:Shared)(S:Addr)(vs:aj)(X:aj->Heap->Prop)(i:Nat)(s:Shared)(ws:aj):Prop where
 x:X ws s.heap
 mem:∀w,w∈ws↔w∈vs.take i
 kp:∀b o,s₀.heap.get? b=some o->s.heap.get? b=some o
 os:s.os=s₀.os
 gens:s.gens=s₀.gens
theorem pq.move{I:Addr}{i j:Nat}{s₁:Shared}{g':Heap}(M:Mk B h S vs X)(J:pq B h s S vs X i s₁ ws)(hI:s.heap.get? I=none)(ne:S≠I)(it:s₁.heap.IsListIter I l j)(x:Heap.ExtBut I s₁.heap g'):pq B h s S vs X i {s₁ with heap:=g'} ws:=
 ⟨M.bM J.x ⟨λa xs t=>x a _ (λz=>it.elim λo y=>Data.noConfusion ((rm (z▸t) y.1).symm.trans y.2.2)) t,λ_ e=>⟨e,rfl⟩⟩ ((M.out J.x).casesOn λb=>(x S _ ne b.at_).trans b.at_.symm),J.mem,λb o e=>x b o (λz=>dj (z▸e) hI) (J.kp b o e),J.os,J.gens⟩
theorem pq.R{i:Nat}{s₁:Shared}(J:pq B h s S vs X i s₁ ws)(R:aI B h s):aI B h s₁:=R.more J.kp J.os J.gens
theorem aht{I:Addr}(R:aI B h s)(hh:A.in1.handled=none)(hu:A.in1.units+100<cLine)(hx:LstAt s.heap l items n)(rx:aY h s.heap vs items.toList)(M:Mk B h S vs X)(hI:s.heap.get? I=none)(hS:s.heap.get? S=none)(ne:S≠I){R':Result->Shared->Prop}
 (q:∀s' ws,pq B h s S vs X vs.length s' ws->R' (.ok (.ret .none)) s'){k:Nat}:
 ∀{i:Nat} {s₁:Shared} {ws:aj},items.size - i=k->i<=items.size->s₁.heap.IsListIter I l i->pq B h s S vs X i s₁ ws->codeAny B.M A (.builtin "set.update.loop" ⟨[.ref S,.ref I],[]⟩) R' s₁:=by
 induction k with
 |zero=>
  intro i s₁ ws hk hi it J
  refine qM U7 ?_
  rw [Around.under_plainId F.plain_set_update_loop _]
  have e:i=items.size:=iz hi (KJ hk)
  exact ax (Um hh it ⟨_,J.kp _ _ hx,rfl,n,rfl⟩ (U0 (aL e.symm)) λg' x=>aG (q _ ws (rx.size.trans e.symm▸J.move M hI ne it x)))
 |succ k ih=>
  intro i s₁ ws hk hi it J
  refine qM U7 ?_
  rw [Around.under_plainId F.plain_set_update_loop _]
  have lt:i<vs.length:=f5 (KK hk) rx.size.symm
  refine rx.get' (fu lt) λx ex rw_=>ax (Un it ⟨_,J.kp _ _ hx,rfl,n,rfl⟩ ex λg' nO sb=>?_)
  have J':=J.move M hI ne it sb.extBut
  have mw:=Dm lt
  have SR:=rw_.bM ⟨λa xs t=>J'.kp _ _ t,λ_ e=>⟨e,rfl⟩⟩
  refine ax (c8 (c8 (ax (OV (b7 (eV (by decide:8<=100) _) hu) (M.key _ mw) SR λtk=>?_))))
  refine M.add ((J'.R R).toks tk) hu mw SR J'.x (λu hu=>List.mem_of_mem_take ((J'.mem u).mp hu)) λb g2 lG SU x' m'=>aG ⟨Br F.plain_set_update_loop _,ih (BR hk) (KK hk) ?_ ⟨x',λu=>?_,λb o e=>(SU.2 b λz=>dj (z▸e) hS).trans (J'.kp b o e),J'.os,J'.gens⟩⟩
  ·exact nO.imp λo y=>⟨(SU.2 I ne.symm).trans y.1,y.2⟩
  ·rw [m',J'.mem,List.take_add_one,List.getElem?_eq_getElem lt,List.mem_append]
   exact or_comm.trans (fH a6.symm)
end
section
variable{B:Bk}{h:HA}{s:Shared}{A:Around}{E:aa}{l:Addr}{vs:aj}{n:Nat}{items:aq}{X:aj->Heap->Prop}
noncomputable abbrev BJ(B:Bk)(s:Shared):Shared:={s with heap:=s.heap.push (yK B.w.params)}
set_option maxRecDepth 100000 in
theorem ahu{T:PySem.Fin->Shared->Prop}(R:aI B h s)(hh:A.handled=none)(hu:A.units+110<cLine)(hx:LstAt s.heap l items n)(rx:aY h s.heap vs items.toList)(M:Mk B h s.heap.objs.size vs X)(hT:(BJ B s).TypeIs (.ref s.heap.objs.size) "set")
 (q:∀s' ws,pq B h s s.heap.objs.size vs X vs.length s' ws->T (.done (.ret .none)) s'):wpAny B.M A (Builtin.«set.__init__» ⟨[.ref s.heap.objs.size,.ref l],[]⟩) T E (BJ B s):=by
 unfold Builtin.«set.__init__» noKeywords Builtin.Frozenset.updateFrom
 have hl:(BJ B s).TypeIs (.ref l) "list":=⟨_,c9 _ hx,rfl⟩
 have sz:((s.heap.push (yK B.w.params)).objs.size)=s.heap.objs.size+1:=C9 ..
 refine ax (iR rfl (aG (ax (ax (ax (y4 hT (bZ rfl (aG (aG ?_)))))))))
 refine ax (m:=checkCount _ 0 1 1) (aG (ax (m:=Builtin.Frozenset.addrOf _) (aG ?_)))
 refine ax (ax (t9 (dW _ rfl) rfl rfl (aG (bZ rfl ?_))))
 refine ax (ax (ax (t8 hl F.sub_list_set (t8 hl F.sub_list_frozenset (bZ rfl ?_)))))
 refine ax (y4 hl (bZ rfl (ax (IB ⟨_,c9 _ hx,rfl,n,rfl⟩ (ax (Uo ?_))))))
 refine aht R hh (b7 (eV (by decide:1+100<=110) _) hu) hx rx M (I:=(s.heap.push (yK B.w.params)).objs.size) (ip λz=>gQ z λo e=>absurd (jH e) (wE.2 (sz▸jj _))) jv (m8 (sz▸jM _)) (λs' ws J=>?_) rfl (bH _) ?_ (ws:=[]) ?_
 rotate_left
 ·exact⟨_,dW _ rfl,rfl,rfl⟩
 ·exact⟨M.new _ (c9 _ (dW _ rfl)),λw=>.rfl,λb o e=>c9 _ (c9 _ e),rfl,rfl⟩
 ·exact aG (aG (q s' ws J))
set_option maxRecDepth 100000 in
theorem ahs{Q:aa}(R:aI B h s)(hh:A.handled=none)(hu:A.units+120<cLine)(hx:LstAt s.heap l items n)(rx:aY h s.heap vs items.toList)(M:Mk B h s.heap.objs.size vs X)
 (q:∀s' ws,pq B h s s.heap.objs.size vs X vs.length s' ws->Q (.ref s.heap.objs.size) s'):wpAny B.M A (call (.type "set") [.ref l]) Q E s:=by
 refine Iy (xp (aG ⟨Code.quiet_builtin _ (by decide+kernel),qM F.entry_type_call ?_⟩))
 rw [Around.under_plain (weight_type_call_type "set" [.ref l] []) rfl]
 have hT:(BJ B s).TypeIs (.ref s.heap.objs.size) "set":=⟨_,dW _ rfl,rfl⟩
 unfold Builtin.«type.__call__»
 refine bZ rfl (bZ (cQ λz=>Bool.noConfusion (CB.canCreate.symm.trans z)) ?_)
 refine ax (o7 (F.typeCall_set_1 (.ref l)) (ax (o7 F.mro_set (bZ rfl (ax (o7 CB.made (ax (aG ?_))))))))
 refine ax (c8 (Iy (ahv (.ref l) ?_)))
 refine ax (t8 hT Tn (bZ rfl (ax (c8 (qk hT CB.init (Iy (codeAny_call_builtin CB.init.plain F.entry_set_init (check_set_init_1 hT ?_))))))))
 exact ahu R hh (b7 (eV (by decide:2+110<=120) _) hu) hx rx M hT λs' ws J=>bZ rfl (aG (q s' ws J))
end
inductive CQ(vs:aj):Prop
 |txt(us:aj)(hu:us.length<=4)(m:∀v∈vs,v∈us)(k:∀v∈vs,∃y,v= .str y/\PyData.strOk y=true)
 |q3(us:aj)(hu:us.length<=2)(m:∀v∈vs,v∈us)(k:∀v∈vs,IsPair v)
section
variable{B:Bk}{k:Nat}
theorem CQ.mk{vs:aj}(f:CQ vs)(h:HA)(S:Addr){p:Prop}(q:∀X,Mk B h S vs X->p):p:=by
 cases f with
 |txt us hu m k=>exact q _ (aer hu m k)
 |q3 us hu m k=>exact q _ (aeq hu m k)
inductive Jh(us:aj)(h:H)(Q:ab):Prop
 |mk{a:L}{vs:aj}:us=[.ref a]->h a=some (.lst vs)->CQ vs->(∀ws:aj,ws.Nodup->(∀w,w∈ws↔w∈vs)->dJ (.pR ws) h Q)->Jh us h Q
noncomputable abbrev Ms:=Jh
theorem WN:dp B true k (.type "set") Ms:=λA h s Q E vs xs R T rs q=>by
 induction q with
 |mk e ea f q=>
  subst e
  exact rs.one λx rx=>rx.cA λ_=>R.lst ea λitems n hx rx=>f.mk h s.heap.objs.size λX M=>ahs R (T.handled rfl) (B4 T.units (by decide)) hx rx M λs' ws J=>
   (M.out J.x).casesOn λI=>(q ws I.nodup (λw=>(J.mem w).trans (by rw [List.take_length])) R.ay).elim λl q=>
    have Z:=R.add (s':=s') (l:=l) (o:=.pR ws) (a:=s.heap.objs.size) (d:=s.heap.objs.size) q.1 J.kp jv jv (λz=>z.elim λ_ z=>z.elim λ_ z=>O.noConfusion z) (λz=>z.elim λ_ z=>z.elim λ_ z=>O.noConfusion z) (λst=>⟨_,_,_,(au s'.heap.get? HA.nD).trans I.at_,I.rep.bM ⟨λ_ _ z=>z,st.u4⟩,I.ok⟩) J.os J.gens
    .mk (.ref l) _ yW Z.1 Z.2 q.2
end
section
variable{α:Type}{l xs:List α}{i n k:Nat}{M:Model}{A:Around}{E:aa}{s:Shared}
theorem ai8{src:Source}{Q:Nat->Shared->Prop}(h:n≠0)(q:∀i,i<n->Q i {s with drawn:=s.drawn.bump src}):wpAny M A (choose src n) Q E s:=λ_ _ _=>And.intro h (q _ (wB _ (KO h)))
theorem Nt{x:α}(h:l[i]?=some x):(x::l.eraseIdx i).Perm l:=by
 refine(cm.1 h).elim λhi e=>?_
 rw [List.eraseIdx_eq_take_drop_succ]
 exact Dr.symm.trans (.of_eq (by rw [<-e,<-List.drop_eq_getElem_cons hi,List.take_append_drop]))
theorem Nr(hi:i<l.length)(h:l.length<=n+1):(l.eraseIdx i).length<=n:=(List.length_eraseIdx_of_lt hi).symm▸Nat.sub_le_of_le_add h
theorem afB{next:Nat->Nat}{f:Nat}:∀{k:Nat} {left:List α} {out:Array α},left.length<=f->(pickOrder.go next f k left out).toList.Perm (out.toList++left):=by
 induction f with
 |zero=>exact λh=>rV (zO.1 h)▸.of_eq (gy _).symm
 |succ f ih=>
  intro k left out h
  cases left with
  |nil=>exact .of_eq (gy _).symm
  |cons a l=>
   have hm:next k%(a::l).length<(a::l).length:=wB _ (iA _)
   have e:=fu hm
   show List.Perm (match (a::l)[next k%(a::l).length]? with|some x=>_|none=>_:Array α).toList _
   rw [e]
   exact(ih (Nr hm h)).trans (by rw [Array.toList_push,List.append_assoc];exact(Nt e).append_left _)
theorem afC{next:Nat->Nat}{xs:Array α}:(pickOrder next xs).toList.Perm xs.toList:=afB (aL mT)
theorem XE:∀{xs:List α} {s:Shared} {Q:List α->Shared->Prop},xs.length<=n->(∀ys d,ys.Perm xs->Q ys {s with drawn:=d})->wpAny M A (drawOrder n xs) Q E s:=by
 induction n with
 |zero=>exact λ{xs s Q} h q=>(rV (zO.1 h)).symm▸aG (q [] s.drawn ((rV (zO.1 h))▸.rfl))
 |succ n ih=>
  intro xs s Q h q
  cases xs with
  |nil=>exact aG (q [] s.drawn .rfl)
  |cons a l=>
   show wpAny M A (choose .order (a::l).length>>= λi=>match (a::l)[i]? with|some x=>drawOrder n ((a::l).eraseIdx i)>>= λr=>pure (x::r)|none=>unsupported "internal:drawOrder") Q E s
   refine ax (ai8 (wH _) λi hi=>?_)
   have e:=fu hi
   rw [e]
   exact ax (ih (Nr hi h) λys d p=>aG (q _ d ((p.cons _).trans (Nt e))))
end
namespace F
theorem afq:Manifest.owners.lookup (String.ofList ['r','o','t','a','r','e','t','i','_','t','e','s'].reverse)=some Manifest.sig_set_iterator:=by kernel_rfl
theorem yN:Slot "set_iterator" "__next__" "set_iterator.__next__":=
 .of (owner:="set_iterator") (n:="__next__") (by rw [typeLookup_type,builtinLookup_eq_fast];kernel_rfl) (by decide+kernel) (by decide+kernel) (by decide+kernel)
  (by first|exact .inl (by decide+kernel)|exact .inr (by decide+kernel)) (by rw [isSubtype_type];kernel_rfl)
theorem Nn:entryFor table "set_iterator.__next__"=some Builtin.«set_iterator.__next__»:=entryFor_of_tree (by kernel_rfl)
theorem Mh(a:Value):argsOk "set_iterator.__next__" ⟨[a],[]⟩:=by
 unfold argsOk;rw [signature?_of (id:="set_iterator.__next__") (n:=['_','_','t','x','e','n','_','_']) (o:=['r','o','t','a','r','e','t','i','_','t','e','s']) (by kernel_rfl) afq];kernel_rfl
theorem XW:entryFor table "set.__iter__"=some Builtin.«frozenset.__iter__»:=entryFor_alias (id':="frozenset.__iter__") (by kernel_rfl) rfl (by decide+kernel) (by kernel_rfl)
end F
inductive Sl(P:Params)(a:Addr)(es:Array (Int×Value))(ep:Nat)(tb:SetTable)(i n:Nat):ao->Prop
 |txt:P.followText "set-order"=true->Sl P a es ep tb i n ((pickOrder (P.setOrder a ep) es).toList.map (·.2))
 |EU:P.followText "set-order"=false->tb.led=true->es.size<=1->SetTable.below tb.place n=i->Sl P a es ep tb i n (es.toList.map (·.2))
inductive Kd(P:Params)(g:Heap)(a:Addr)(es:Array (Int×Value))(ep:Nat)(tb:SetTable)(i:Nat):Value->ao->Prop
 |int{n:Nat}{ord:ao}:Sl P a es ep tb i n ord->Kd P g a es ep tb i (.int n 0) ord
 |xv{c:Addr}{ps:List Nat}{ord:ao}:TupAt g c (ps.map λ(p:Nat)=>Value.int p 0).toArray->ps.map (λ(p:Nat)=>es[p]?.map (·.2))=ord.map some->Kd P g a es ep tb i (.ref c) ord
inductive r4(P:Params)(I a:Addr)(es:Array (Int×Value))(ep:Nat)(tb:SetTable)(ord:ao)(i:Nat)(g:Heap):Prop
 |mk{first:Value}:g.get? a=some (oW es ep tb)->tb.fits es.size=true->dq g I "set_iterator" #[first,.int i 0,.ref a,.int es.size 0,.int ep 0]->Kd P g a es ep tb i first ord->ord.length=es.size->r4 P I a es ep tb ord i g
section
variable{B:Bk}{A:Around}{E:aa}{s:Shared}{I a:Addr}{es:Array (Int×Value)}{ep i n:Nat}{tb:SetTable}{ord:ao}{first:Value}{Q:Option Value->Shared->Prop}{R:Option (Value×Nat)->Shared->Prop}{g g':Heap}{P:Params}
theorem Kd.keep(k:∀c xs,TupAt g c xs->TupAt g' c xs)(kd:Kd P g a es ep tb i first ord):Kd P g' a es ep tb i first ord:=by
 cases kd with
 |int k=>exact .int k
 |xv t e=>exact .xv (k _ _ t) e
theorem Ez{Q:Bool->Shared->Prop}(q:Q (B.w.params.followText "set-order") s):wpAny B.M A setsByText Q E s:=ax (Cc (aG q))
theorem uX{α:Type}[BEq α][LawfulBEq α]{a:α}:decide ((a !=a)=true)=false:=cQ (j7.1 (Ey a))
theorem R9{l:List (Int×Value)}:(l.map (·.2))[i]?=l[i]?.map (·.2):=eL
theorem ahw(hs:s.heap.get? a=some (oW es ep tb))(hf:tb.fits es.size=true)(kd:Sl B.w.params a es ep tb i n ord)(q0:ord[i]?=none->R none s)(q1:∀(x:Value) (m:Nat),ord[i]?=some x->Sl B.w.params a es ep tb (i+1) m ord->R (some (x,m)) s):wpAny B.M A (setNext a n i ep) R E s:=by
 unfold setNext
 refine ax (t9 hs rfl hf (ax (Ez ?_)))
 cases kd with
 |txt h=>
  refine iR (cE h) (bZ uX (ax ?_))
  unfold setWalk
  refine ax (t9 hs rfl hf (ax (Ez (iR (cE h) (ax (Cc (aG (aG ?_))))))))
  rw [R9,Array.getElem?_toList] at q0 q1
  show R (Option.map _ ((pickOrder (B.w.params.setOrder a ep) es)[i]?)) s
  cases e:(pickOrder (B.w.params.setOrder a ep) es)[i]? with
  |none=>exact q0 (au (Option.map _) e)
  |some x=>exact q1 _ _ (au (Option.map _) e) (.txt h)
 |EU h l z b=>
  refine bZ (cQ (j7.1 h)) (bZ (cQ λw:(!tb.plain&&decide (es.size>1))=true=>absurd z (zP.2 (cU (j6.1 w).2))) (ax (m:=if(!tb.led&&!es.isEmpty)=true then unsupported "set:maker-not-led" else pure ()) (bZ (by rw [l];rfl) (aG (aG ?_)))))
  have sz:tb.place.size=es.size:=eq_of_beq (j6.1 hf).1
  rw [R9,Array.getElem?_toList] at q0 q1
  rw [b]
  cases e:es[i]? with
  |none=>exact q0 (au _ e)
  |some x=>
   have hi:=(rK.1 e).1
   have e0:i=0:=KL.1 (dD hi z)
   subst e0
   have ep:=zb (sz▸hi:0<tb.place.size)
   rw [ep]
   have pl:tb.place= #[tb.place[0]]:=Array.ext (sz.trans (iz z hi)) λj h1 h2=>(by cases KL.1 h2;rfl)
   refine q1 _ _ (au _ e) (.EU h l z ?_)
   generalize tb.place[0]=p at pl
   rw [pl]
   exact(by kernel_rfl:SetTable.below #[p] (p+1)=if p<p+1 then 1 else 0).trans (bz (jM p))
theorem Tl(hh:A.handled=none){T:PySem.Fin->Shared->Prop}(hQ:∀g',Heap.ExtBut I s.heap g'->Q none {s with heap:=g'}):wpAny B.M A.in1 (newExc (.type "StopIteration") []>>= λe=>raiseNew e) T (λe s'=>wpAny B.M A (do
 let b<-isInstance e (Value.type "StopIteration")
 if b=true then pure none else throw e) Q E s') s:=by
 refine ax (ax (jX (ax (m:=firstArgMember _ _) (o7 (a:=Value.none) rfl (jX (ax (Uj ?_)) (by size_fits)))) (by size_fits)))
 rw [show A.in1.handled=none from hh]
 refine ax (aG (wpAny_throw ?_))
 exact(ax (t8 (T:="StopIteration") (b:=true) ⟨_,dW _ rfl,rfl⟩ isSubtype_stop (aG (hQ _ (((C8 ..).extBut.push _).push _)))))
theorem S7(hs:s.heap.get? a=some (oW es ep tb))(hf:tb.fits es.size=true)(hl:ord.length=es.size)(ne:I≠a)(it:dq s.heap I "set_iterator" #[first,.int i 0,.ref a,.int es.size 0,.int ep 0]){NE:Value}(nO:dq g' I "set_iterator" #[NE,.int ((i+1:Nat):Int) 0,.ref a,.int es.size 0,.int ep 0])(sb:Heap.SameBut I s.heap g')(kd:Kd B.w.params s.heap a es ep tb (i+1) NE ord):r4 B.w.params I a es ep tb ord (i+1) g':=
 .mk ((sb.2 a ne.symm).trans hs) hf nO (kd.keep λc _ t=>(sb.2 c λw=>it.elim λ_ z=>Data.noConfusion ((rm (w▸t) z.1).symm.trans z.2.2)).trans t) hl
section
variable(hh:A.handled=none)(hs:s.heap.get? a=some (oW es ep tb))(hf:tb.fits es.size=true)(hl:ord.length=es.size)(ne:I≠a)(h1:∀x,ord[i]?=some x->∀g',r4 B.w.params I a es ep tb ord (i+1) g'->Heap.SameBut I s.heap g'->Q (some x) {s with heap:=g'})
 (h2:ord[i]?=none->∀g',Heap.ExtBut I s.heap g'->Q none {s with heap:=g'})
include hh hs hf hl ne h1 h2
theorem ahN(it:dq s.heap I "set_iterator" #[.int n 0,.int i 0,.ref a,.int es.size 0,.int ep 0])(k:Sl B.w.params a es ep tb i n ord):wpAny B.M A (pyNext (.ref I)) Q E s:=by
 refine it.elim λo z=>?_
 have hT:s.TypeIs (.ref I) "set_iterator":=⟨o,z.1,z.2.1⟩
 unfold pyNext
 refine ax (Uf (qk (name:=Str.ofString "__next__") hT F.yN (jD F.yN hT F.Nn ?_ (F.Mh _))))
 refine ax (aG (ax (Uh z.1 z.2.2 (ax (Up hs rfl hf (bZ uX (ax (m:=setNext a n i ep) (ahw hs hf k (λeo=>?_) λx m ex k'=>?_))))))))
 ·exact ax (o8 z.1 z.2.2 (pA nofun) (Tl (s:={s with heap:=_}) hh λg' x=>h2 eo g' ((iu ..).extBut.trans x)))
 ·have nO:=dq.set (k:=0) (v:=rawInt m) it
  exact ax (o8 z.1 z.2.2 (pA nofun) (nO.elim λo' z'=>ax (o8 z'.1 z'.2.2 (pA nofun) (aG ⟨_,rfl,aG (h1 _ ex _ (S7 hs hf hl ne it (dq.set (k:=1) (v:=rawInt ((i:Int)+1)) nO) ((iu ..).trans (iu ..)) (.int k')) ((iu ..).trans (iu ..)))⟩))))
theorem ahM{c:Addr}{ps:List Nat}(it:dq s.heap I "set_iterator" #[.ref c,.int i 0,.ref a,.int es.size 0,.int ep 0])(t:TupAt s.heap c (ps.map λ(p:Nat)=>Value.int p 0).toArray)(e:ps.map (λ(p:Nat)=>es[p]?.map (·.2))=ord.map some):wpAny B.M A (pyNext (.ref I)) Q E s:=by
 refine it.elim λo z=>?_
 have hT:s.TypeIs (.ref I) "set_iterator":=⟨o,z.1,z.2.1⟩
 unfold pyNext
 refine ax (Uf (qk (name:=Str.ofString "__next__") hT F.yN (jD F.yN hT F.Nn ?_ (F.Mh _))))
 refine ax (aG (ax (Uh z.1 z.2.2 (ax (Up hs rfl hf (bZ uX (ax (m:=seqItems? (.ref c)) (Ce t rfl ?_))))))))
 have e1:ps[i]?.map (λ(p:Nat)=>es[p]?.map (·.2))=ord[i]?.map some:=eL.symm.trans ((au (·[i]?) e).trans eL)
 dsimp only
 rw [List.getElem?_toArray,List.getElem?_map,Int.toNat_natCast]
 cases ei:ps[i]? with
 |none=>
  rw [ei] at e1
  have nO:=dq.set (k:=0) (v:=rawInt 0) it
  exact ax (o8 z.1 z.2.2 (pA nofun) (nO.elim λo' z'=>ax (o8 z'.1 z'.2.2 (pA nofun) (Tl (s:={s with heap:=_}) hh λg' x=>h2 (KZ.1 e1.symm) g' (((iu ..).trans (iu ..)).extBut.trans x)))))
 |some p=>
  rw [ei] at e1
  refine nQ e1.symm λx ex e2=>nQ e2.symm λel XQ e3=>ax (m:=setNextDrawn a p ep) (ax (t9 hs rfl hf (bZ uX ?_)))
  dsimp only
  rw [XQ]
  exact aG (e3▸ax (o8 z.1 z.2.2 (pA nofun) (aG ⟨_,rfl,aG (h1 _ ex _ (S7 hs hf hl ne it (dq.set (k:=1) (v:=rawInt ((i:Int)+1)) it) (iu ..) (.xv t e)) (iu ..))⟩)))
end
theorem S8(hh:A.handled=none)(S:r4 B.w.params I a es ep tb ord i s.heap)(ne:I≠a)(h1:∀x,ord[i]?=some x->∀g',r4 B.w.params I a es ep tb ord (i+1) g'->Heap.SameBut I s.heap g'->Q (some x) {s with heap:=g'})
 (h2:ord[i]?=none->∀g',Heap.ExtBut I s.heap g'->Q none {s with heap:=g'}):wpAny B.M A (pyNext (.ref I)) Q E s:=
 S.casesOn λhs hf it kd hl=>by
  cases kd with
  |int k=>exact ahN hh hs hf hl ne h1 h2 it k
  |xv t e=>exact ahM hh hs hf hl ne h1 h2 it t e
end
structure Kp(s s':Shared):Prop where
 kp:∀b o,s.heap.get? b=some o->s'.heap.get? b=some o
 os:s'.os=s.os
 gens:s'.gens=s.gens
section
variable{B:Bk}{A:Around}{E:aa}{s s' s₀:Shared}{I a S:Addr}{es:Array (Int×Value)}{ep:Nat}{tb:SetTable}{ord:ao}{g:Heap}{ps:List Nat}{res:Value}
theorem Kp.but{b:Addr}(k:Kp s₀ s)(sb:∀c,c≠b->g.get? c=s.heap.get? c)(h:s₀.heap.get? b=none){tk:Nat}:Kp s₀ {s with heap:=g,toks:=tk}:=⟨λc o e=>(sb c λz=>dj (z▸e) h).trans (k.kp c o e),k.os,k.gens⟩
theorem Kp.push{o:Obj}{d}(k:Kp s₀ s):Kp s₀ {s with heap:=s.heap.push o,drawn:=d}:=⟨λc w e=>c9 _ (k.kp c w e),k.os,k.gens⟩
theorem Kp.new(k:Kp s s'):s.heap.get? s'.heap.objs.size=none:=ip λz=>gQ z λo e=>dj (k.kp _ o e) jv
theorem af3{l:ao}{c:Nat}{x:Value}(h:LstAt g S l.toArray c):∃c',LstAt (g.update S (Obj.mapSeq (·.push x))) S (l++[x]).toArray c':=⟨_,List.push_toArray l x▸E6 h (·.push x)⟩
theorem XZ(hh:A.handled=none)(hS:S≠I)(Y7:S≠a)(ne:I≠a)(hn:ord.length<=1000){R:Result->Shared->Prop}(hI:s₀.heap.get? I=none)(Y6:s₀.heap.get? S=none)
 (fin:∀s' c,LstAt s'.heap S ord.toArray c->Kp s₀ s'->R (.ok (.ret res)) s'){k:Nat}:∀{i:Nat} {s:Shared} {c:Nat},ord.length - i=k->i<=ord.length->r4 B.w.params I a es ep tb ord i s.heap->LstAt s.heap S (ord.take i).toArray c->Kp s₀ s->
 codeAny B.M A (.builtin "list.extend.loop" ⟨[.ref S,.ref I,res],[]⟩) R s:=by
 induction k with
 |zero=>
  intro i s c hk hi st hl kp
  refine qM F.entry_extend_loop ?_
  rw [Around.under_plainId F.plain_extend_loop _]
  have e:i=ord.length:=iz hi (KJ hk)
  rw [e,List.take_length] at hl
  exact ax (S8 hh st ne (λx hx=>nomatch (Dk (aL e.symm)).symm.trans hx) λ_ g' x=>aG (fin {s with heap:=g'} c (x S _ hS hl) ⟨λb o e=>x b o (λz=>dj (z▸e) hI) (kp.kp b o e),kp.os,kp.gens⟩))
 |succ k ih=>
  intro i s c hk hi st hl kp
  have lt:=KK hk
  refine qM F.entry_extend_loop ?_
  rw [Around.under_plainId F.plain_extend_loop _]
  refine ax (S8 hh st ne (λx hx g' fI sb=>?_) λz=>cK (fu lt) z)
  have sR:=(sb.2 S hS).trans hl
  have BG:Heap.SameBut S g' (g'.update S (Obj.mapSeq (·.push x))):=iu ..
  have sz:(ord.take i).toArray.size<=1000:=aw (aL List.size_toArray) (aw (List.length_take_le' ..) hn)
  refine ax (Ur sR rfl (aG ⟨Br F.plain_extend_loop _,(af3 (x:=x) sR).elim λc' hc=>ih (c:=c') (BR hk) lt ?_ ?_ ((kp.but sb.2 hI).but BG.2 Y6)⟩) (aw sz (by decide)) (aw (aL (Array.size_push _)) (aw (cS sz) (by decide))))
  ·cases fI with
   |mk h1 h2 h3 h4 h5=>exact .mk ((BG.2 a Y7.symm).trans h1) h2 (h3.imp λ_ z=>⟨(BG.2 I hS.symm).trans z.1,z.2⟩) (h4.keep λc xs t=>(BG.2 c λz=>n5 (by decide:("tuple"=="list")=false) (au Obj.cls (bc ((z▸t).symm.trans sR)))).trans t) h5
  ·rw [List.take_add_one,hx]
   exact hc
theorem agd(p:ps.Perm (List.range es.size)):∃ord:ao,ps.map (λ(p:Nat)=>es[p]?.map (·.2))=ord.map some/\ord.Perm (es.toList.map (·.2)):=
 ⟨ps.map λp=>(es[p]?.map (·.2)).getD .none,(qy λq hq=>by rw [Function.comp_apply,Array.getElem?_eq_getElem (List.mem_range.mp (p.mem_iff.mp hq))];rfl).trans (gj ..).symm,
  (p.map _).trans (.of_eq (List.ext_getElem (by rw [List.length_map,List.length_range,List.length_map,Array.length_toList]) λi h1 h2=>by
   rw [List.getElem_map,List.getElem_range,List.getElem_map,Array.getElem_toList,Array.getElem?_eq_getElem];rfl))⟩
theorem Wt{pl:Array Nat}(h:pl.size<=1):SetTable.below pl 0=0:=by
 cases pl with
 |mk l=>
  cases l with
  |nil=>rfl
  |cons p l=>cases l with
   |nil=>kernel_rfl
   |cons=>exact absurd h (zP.2 (wG (iA _)))
theorem Z5{Q:aa}(hs:s.heap.get? a=some (oW es ep tb))(O:zf B.w.params es tb)(hl:es.size<=1000)
 (hQ:∀I ord s',ord.Perm (es.toList.map (·.2))->s.heap.get? I=none->Kp s s'->r4 B.w.params I a es ep tb ord 0 s'.heap->Q (.ref I) s'):wpAny B.M A (pyIter (.ref a)) Q E s:=by
 have hT:s.TypeIs (.ref a) "set":=⟨_,hs,rfl⟩
 have hf:=O.fits
 have fin:∀{first:Value} {s':Shared} {ord:ao},ord.Perm (es.toList.map (·.2))->Kp s s'->Kd B.w.params s'.heap a es ep tb 0 first ord->
  wpAny B.M A.in1 (setEpoch a>>= λe=>newFields "set_iterator" [first,rawInt 0,.ref a,rawInt es.size,rawInt e]>>= λv=>ret v) (λfin s'=>∃v,fin=PySem.Fin.done (Flow.ret v)/\∃T' r,s'.TypeIs v T'/\typeLookup (.type T') (Str.ofString "__next__")=pure (some r)/\Q v s') E s':=λ{first s' ord} p k kd=>
  ax (wpAny_setEpoch_of (k.kp _ _ hs) rfl hf (ax (jX (aG ⟨_,rfl,"set_iterator",_,⟨_,dW _ rfl,rfl⟩,F.yN.lookup,hQ _ ord _ p k.new (k.push (d:=s'.drawn)) (.mk (c9 _ (k.kp _ _ hs)) hf ⟨_,dW _ rfl,rfl,rfl⟩ (kd.keep λc xs t=>c9 _ t) (p.length_eq.trans ((bx _).trans mT)))⟩))))
 refine wpAny_pyIter_slot hT F.slot_set_iter (jD F.slot_set_iter hT F.XW ?_ (F.args_set_iter_1 _))
 refine ax (m:=Builtin.Frozenset.slot0 _ _) (ax (m:=slotArgs _ _ _) (aG (aG ?_)))
 refine ax (m:=Builtin.Frozenset.sizeOf _) (ax (Up hs rfl hf (aG (ax (m:=setDrawn _) (ax (t9 hs rfl hf (ax (Ez (aG ?_)))))))))
 refine o6 (λz:(!B.w.params.followText "set-order"&&(!tb.plain&&decide (es.size>1)))=true=>?_) λz:¬(!B.w.params.followText "set-order"&&(!tb.plain&&decide (es.size>1)))=true=>?_
 ·refine ax (XE (aL iw) λps d pm=>(agd pm).elim λord w=>ax (wpAny_newTuple ?_ ?_))
  ·exact fin (s':={s with heap:=s.heap.push (seqObj "tuple" (ps.map λ(p:Nat)=>Value.int p 0).toArray 0),drawn:=d}) w.2 ⟨λb o e=>c9 _ e,rfl,rfl⟩ (.xv (dW _ rfl) w.1)
  ·exact aw (aL ((bx _).trans (pm.length_eq.trans iw))) (aw hl (by decide))
 ·refine ax (aG ?_)
  cases h:B.w.params.followText "set-order" with
  |true=>exact fin ((afC).map _) ⟨λ_ _ e=>e,rfl,rfl⟩ (.int (n:=0) (.txt h))
  |false=>
   have sz:es.size<=1:=O.plain.elim id λw=>Nat.le_of_not_lt λy=>z (by rw [h,w,decide_eq_true y];rfl)
   exact fin .rfl ⟨λ_ _ e=>e,rfl,rfl⟩ (.int (n:=0) (.EU h (by rw [O.led,h];rfl) sz (Wt (aw (aL (eq_of_beq (j6.1 hf).1)) sz))))
end
section
variable{B:Bk}{A:Around}{E:aa}{s:Shared}{a:Addr}{es:Array (Int×Value)}{ep:Nat}{tb:SetTable}
theorem RS{α:Type}{t t':Sem α}{Q:α->Shared->Prop}(e:t'=t)(h:wpAny B.M A t' Q E s):wpAny B.M A t Q E s:=e▸h
noncomputable def Ot(a:Addr)(_:Unit):Sem Bool:=typeOf (.ref a)>>= λt=>match t with
 | .ref _=>(do
  let some k<-asInt? (<-call (.builtin "len") [.ref a])|unsupported "internal:len-gave-no-int"
  return k !=0)
 |_=>pure false
theorem Zq{Q:Bool->Shared->Prop}(hT:s.TypeIs (.ref a) "set")(q:Q false s):wpAny B.M A (Builtin.List.listLengthHint (.ref a)) Q E s:=by
 unfold Builtin.List.listLengthHint
 refine ax (y3 hT F.slot_set_len.lookup (RS (t':=isInstance (.ref a) (.type "set")>>= λb=>if(!b)=true then unsupported "list.length-hint:a-built-in-type's-method-under-a-special-name-of-what-is-no-instance-of-that-type">>= Ot a else Ot a ()) (by kernel_rfl) ?_))
 exact ax (t8 hT Tn (bZ rfl (ax (y4 hT (aG q)))))
theorem Xl{Q:ao->Shared->Prop}(hh:A.handled=none)(hs:s.heap.get? a=some (oW es ep tb))(O:zf B.w.params es tb)(hl:es.size<=1000)(hQ:∀ord s',ord.Perm (es.toList.map (·.2))->Kp s s'->Q ord s'):wpAny B.M A (collect (.ref a)) Q E s:=by
 have sS:(s.heap.push (seqObj "list" #[] 0)).get? a=some (oW es ep tb):=c9 _ hs
 have ne:=jk (jH hs)
 unfold collect
 refine ax (Uo (qM F.entry_proto_collect ?_))
 rw [Around.under_plainId F.plain_proto_collect _]
 refine ax (m:=newList []) (jX (aG ⟨Br F.plain_list_iadd _,qM F.entry_list_iadd ?_⟩))
 rw [Around.under_plainId F.plain_list_iadd _]
 show wpAny _ A.in1 (Builtin.List.listExtendWith (.ref s.heap.objs.size) (.ref a) (.ref s.heap.objs.size)) _ _ _
 unfold Builtin.List.listExtendWith
 refine ax (y4 ⟨_,sS,rfl⟩ (bZ (cQ λz=>ne (eq_of_beq ((lM _ _).mp z |>.elim (λz=>(lM _ _).mp z |>.elim id λz=>Bool.noConfusion z) λz=>Bool.noConfusion z))) ?_))
 refine ax (Z5 (s:={s with heap:=s.heap.push (seqObj "list" #[] 0)}) sS O hl λI ord s' p nI k S=>?_)
 refine ax (c8 (Zq ⟨_,k.kp _ _ sS,rfl⟩ (iR rfl (ax (mO ?_)))))
 have hS:=k.kp _ _ (dW _ rfl:(s.heap.push (seqObj "list" #[] 0)).get? s.heap.objs.size=_)
 have Ol:=E6 hS (·.push Value.none)
 have fA:∀b,b≠s.heap.objs.size->((s'.heap.update s.heap.objs.size (Obj.mapSeq (·.push Value.none))).update s.heap.objs.size (Obj.mapSeq (·.pop))).get? b=s'.heap.get? b:=((iu ..).trans (iu ..)).2
 have Rg:s.heap.objs.size≠I:=λz=>cK (dW _ rfl) (z▸nI)
 refine ax (ax (m:=updateSeq s.heap.objs.size (·.push .none)) (Ur hS rfl (Ur Ol rfl (aG ⟨Br F.plain_extend_loop _,?_⟩) (by decide) (by decide)) (by decide) (by decide)))
 refine XZ (s₀:=s) (es:=es) (ep:=ep) (tb:=tb) hh Rg ne (λz=>cK sS (z▸nI)) (aw (aL (p.length_eq.trans ((bx _).trans mT))) hl) (ip λz=>gQ z λo e=>cK (c9 _ e) nI) jv (λs2 c e k2=>?_) rfl (bH _) ?_ (E6 Ol (·.pop)) ⟨λb o e=>(fA b (m8 (jH e))).trans (k.kp b o (c9 _ e)),k.os,k.gens⟩
 ·exact ax (m:=load s.heap.objs.size) (wpAny_load e (aG (hQ ord s2 p k2)))
 ·cases S with
  |mk h1 h2 h3 h4 h5=>exact .mk ((fA a ne.symm).trans h1) h2 (h3.imp λ_ z=>⟨(fA I Rg.symm).trans z.1,z.2⟩) (h4.keep λc xs t=>(fA c λz=>n5 (by decide:("tuple"=="list")=false) (au Obj.cls (bc ((z▸t).symm.trans hS)))).trans t) h5
end
inductive r3(g:Heap):Value->Prop
 |mk{a:Addr}{i:Int}{ti:Tok}{y:Str}{ty:Tok}:TupAt g a #[.int i ti,.str y ty]->r3 g (.ref a)
noncomputable def BM(a:Addr)(before:Nat)(s:SortSt):Sem PySem.Fin:=do
 let sorted:=(arrOf s).map (·.2)
 let touched:=(<-seqEpoch a)!=before
 Builtin.List.listUpdate (.ref a) λ_=>sorted
 if let some e:=failedOf s then rule "list.sort.comparison-raised";throw e
 if touched then rule "list.sort.modified";raiseError "ValueError" "list modified during sort"
 ret .none
noncomputable def HV(a:Addr)(items:aq)(before:Nat):Sem PySem.Fin:=do
 let kind<-if items.size<2 then pure general' else keyKind' items
 let((),s)<-(if items.size<2 then pure () else sortRuns').run (SortSt.mk' kind (items.zip items) #[] 7 none)
 BM a before s
section
variable{B:Bk}{A:Around}{E:aa}{s:Shared}{a:Addr}{x y:Value}{vs out:ao}{n e1:Nat}{P:PySem.Fin->Shared->Prop}
theorem afv{C:Bool->Shared->Prop}(hx:r3 s.heap x)(hy:r3 s.heap y)(q:∀b,C b s):wpAny B.M A (keyLt' (tuples' true) x y) C E s:=by
 cases hx with
 |mk h1=>cases hy with
  |mk h2=>
   exact kat_lt h1 rfl h2 rfl (kat_cons (wpAny_eqBool_int (kat_go (λ_=>kat_yes (kat_cons (wpAny_eqBool_str (kat_go (λ_=>kat_yes (kat_nil (q _))) λ_=>kat_no (kat_one _ _ (lt_str (q _))))))) λ_=>kat_no (oneLt_int (q _)))))
theorem ahW{cmp:Nat->Nat->(Bool->Shared->Prop)->Shared->Prop}{G:Array Nat->Shared->Prop}(hc:∀i j C,i<2->j<2->(∀b,C b s)->cmp i j C s)(h1:G #[0,1] s)(h2:G #[1,0] s):(kas_sort 2).kasWp cmp G s:=by
 refine hc 1 0 _ (by decide) (by decide) λb=>?_
 cases b
 ·exact h1
 ·repeat (first|exact h1|exact h2|(refine hc _ _ _ (by decide) (by decide) λb=>?_;cases b))
theorem HW{st:SortSt}(ho:s.heap.get? a=some (seqObj "list" #[] e1))(hf:failedOf st=none)(e:(arrOf st).map (·.2)=out.toArray)(hl:out.length<=2)(q:P (.done (.ret .none)) {s with heap:=s.heap.update a (Obj.mapSeq λ_=>out.toArray)}):wpAny B.M A (BM a e1 st) P E s:=by
 unfold BM
 rw [e,hf]
 exact ax (seqEpoch_at ho rfl (ax (listUpdate_at ho rfl (bZ uX (aG q)) (bH _) (aw hl (by decide)))))
theorem UZ{l:ao}:(l.toArray.zip l.toArray).map (·.2)=l.toArray:=zc.1 (by rw [Array.toList_map,Array.toList_zip];exact List.map_snd_zip (cB _))
theorem ahU(ho:s.heap.get? a=some (seqObj "list" #[] e1))(hp:∀v∈vs,r3 s.heap v)(hl:vs.length<=2)(q:∀out:ao,out.Perm vs->P (.done (.ret .none)) {s with heap:=s.heap.update a (Obj.mapSeq λ_=>out.toArray)}):wpAny B.M A (HV a vs.toArray e1) P E s:=by
 unfold HV
 cases vs with
 |nil=>exact iR rfl (ax (aG (ax (aG (a:=((),_)) (HW (out:=[]) ho rfl UZ hl (q _ .rfl))))))
 |cons u l=>cases l with
  |nil=>exact iR rfl (ax (aG (ax (aG (a:=((),_)) (HW (out:=[u]) ho rfl UZ hl (q _ .rfl))))))
  |cons v l=>cases l with
   |cons=>exact absurd hl (zP.2 (wG (wG (iA _))))
   |nil=>
    have hu:=hp u (.head _)
    have hv:=hp v (.tail _ (.head _))
    have at_:∀i,i<2->r3 s.heap ([u,v].getD i Value.none):=λi h=>by
     cases i with
     |zero=>exact hu
     |succ i=>exact(KL.1 (Nat.lt_of_succ_lt_succ h))▸hv
    have kt:wpAny B.M A (keyKind' #[u,v]) (λk s'=>k=tuples' true/\s'=s) E s:=by
     cases hu with
     |mk g1=>cases hv with
      |mk g2=>exact kat_kind (.cons g1 rfl rfl rfl (.cons g2 rfl rfl rfl .nil)) (Nat.zero_lt_succ _) (T:=.type "int") (λz hz=>(dP.1 hz).elim (λz=>z▸.now) λhz=>a6.1 hz▸.now) (by decide) ⟨rfl,rfl⟩
    refine bZ rfl (ax (dK kt (λk s' z=>?_) λ_ _ e=>e))
    rw [z.1,z.2]
    refine ax (m:=sortRuns'.run _) (kat_run (Q:=λst s'=>wpAny B.M A (BM a e1 st) P E s') (vs:=[u,v]) (ks:=[u,v]) (G:=λp s'=>(∃out:ao,out.Perm [u,v]/\(p.toList.map λi=>[u,v].getD i Value.none)=out)/\s'=s) rfl (cB _) (eH rfl) (λp st s' _ ar hf G=>?_)
     (ahW (λi j C hi hj q=>afv (at_ i hi) (at_ j hj) q) ⟨⟨_,.rfl,rfl⟩,rfl⟩ ⟨⟨_,.swap ..,rfl⟩,rfl⟩))
    rw [G.2]
    exact G.1.elim λout w=>HW ho hf ((kat_snds (ks:=[u,v]) (vs:=[u,v]) rfl ar).trans (au List.toArray w.2)) (aL w.1.length_eq) (q out w.1)
theorem ahV(ho:s.heap.get? a=some (seqObj "list" vs.toArray n))(hp:∀v∈vs,r3 s.heap v)(hl:vs.length<=2)(q:∀out:ao,out.Perm vs->P (.done (.ret .none)) {s with heap:=sortedHeap s.heap a vs out.toArray}):wpAny B.M A (Builtin.«list.sort» ⟨[.ref a],[]⟩) P E s:=by
 rw [list_sort_plain]
 have l2:vs.toArray.size<=sizeLine:=aw hl (by decide)
 have Oz:=E6 ho (λ_=>#[])
 refine ax (listItems_at ho rfl (ax (listUpdate_at ho rfl (ax (seqEpoch_at Oz rfl (ax (wpAny_newTuple (ax (wpAny_newList (c8 ?_) (bH _))) l2)))) l2 (bH _))))
 show wpAny B.M A (HV _ _ _) _ _ _
 exact ahU (s:={s with heap:=_}) (c9 _ (c9 _ Oz)) (λv hv=>(hp v hv).casesOn λt=>.mk (c9 _ (c9 _ ((rS _ _ _ _ λz=>n5 (by decide:("tuple"=="list")=false) (au Obj.cls (bc ((z▸t).symm.trans ho)))).trans t)))) hl q
end
inductive pI(vs:aj)(h:H)(Q:ab):Prop
 |txt:(∀v∈vs,∃y,v= .str y)->vs.length<64->(∀ws:List Str,(ws.map V.str).Perm vs->sortedS ws=true->dJ (.lst (ws.map .str)) h Q)->pI vs h Q
 |q3:(∀v∈vs,IsPair v)->vs.length<=2->(∀ws:aj,ws.Perm vs->dJ (.lst ws) h Q)->pI vs h Q
inductive Lr(us:aj)(h:H)(Q:ab):Prop
 |mk{a:L}{vs:aj}:us=[.ref a]->h a=some (.lst vs)\/h a=some (.pR vs)->pI vs h Q->Lr us h Q
noncomputable abbrev BN:=Lr
theorem aiH:∀{vs:aj},(∀v∈vs,∃y,v= .str y)->∃ys:List Str,vs=ys.map .str:=λ{vs}=>by
 induction vs with
 |nil=>exact λ_=>⟨[],rfl⟩
 |cons v vs ih=>exact λk=>(k v (.head _)).elim λy e=>(ih λu m=>k u (.tail _ m)).elim λys e'=>⟨y::ys,e▸e'▸rfl⟩
section
variable{B:Bk}{k:Nat}{h:HA}{s s':Shared}{A:Around}{E:aa}{vs ws:aj}{Q:ab}{xs:aq}{ord:ao}{a n:Nat}{Da:H}
theorem pI.perm(p:ws.Perm vs)(q:pI vs Da Q):pI ws Da Q:=by
 cases q with
 |txt t l q=>exact .txt (λv m=>t v (p.mem_iff.mp m)) (p.length_eq▸l) λus z=>q us (z.trans p)
 |q3 t l q=>exact .q3 (λv m=>t v (p.mem_iff.mp m)) (p.length_eq▸l) λus z=>q us (z.trans p)
theorem pI.len(q:pI vs Da Q):vs.length<64:=by
 cases q with
 |txt _ l _=>exact l
 |q3 _ l _=>exact b7 l (by decide)
theorem afH(R:aI B h s)(K:Kp s s')(hn:s.heap.get? a=none)(ha:LstAt s'.heap a xs n)(r:aY h s.heap vs xs.toList)(q:dJ (.lst vs) h.c Q):EPost B h s Q (.ref a) s':=(q R.ay).elim λl q=>
 have Z:=R.add (s':=s') (l:=l) (o:=.lst vs) (a:=a) (d:=a) q.1 K.kp hn hn (λz=>z.elim λ_ z=>z.elim λ_ z=>O.noConfusion z) (λz=>z.elim λ_ z=>z.elim λ_ z=>O.noConfusion z) (λst=>⟨xs,n,(au s'.heap.get? HA.nD).trans ha,r.bM st⟩) K.os K.gens
 .mk (.ref l) _ yW Z.1 Z.2 q.2
theorem ah4{xs:ao}{ss:List Str}(z:StrsAre xs ss):aY h s.heap (ss.map .str) xs:=by
 induction z with
 |nil=>exact .nil
 |cons x t _ ih=>exact .cons ⟨t,rfl⟩ ih
theorem Te(R:aI B h s)(K:Kp s s')(r:aY h s.heap vs ord)(q:pI vs h.c Q):wpAny B.M A (newList ord>>= λl=>holding [l] (call (.builtin "list.sort") [l] [])>>= λ_=>ret l) (λfin s2=>∃v,fin=PySem.Fin.done (Flow.ret v)/\EPost B h s Q v s2) E s':=by
 have lo:ord.length<64:=b7 (aL r.length.symm) q.len
 have xY:(s'.heap.push (seqObj "list" ord.toArray 0)).get? s'.heap.objs.size=some (seqObj "list" ord.toArray 0):=dW _ rfl
 have hn:=K.new
 have old:∀out:aq,Kp s {s' with heap:=sortedHeap (s'.heap.push (seqObj "list" ord.toArray 0)) s'.heap.objs.size ord out}:=λout=>⟨λb o e=>
  have lt:=jH (K.kp _ _ e)
  (sortedHeap_old (m8 lt) (f5 (Nat.lt_succ_of_lt lt) (C9 ..).symm)).trans (c9 _ (K.kp _ _ e)),K.os,K.gens⟩
 have fin:∀{out:aq} {ws:aj},aY h s.heap ws out.toList->dJ (.lst ws) h.c Q->EPost B h s Q (.ref s'.heap.objs.size) {s' with heap:=sortedHeap (s'.heap.push (seqObj "list" ord.toArray 0)) s'.heap.objs.size ord out}:=λ{out ws} r q=>(sortedHeap_at (out:=out) xY).elim λc hc=>afH R (old out) hn hc r q
 refine ax (wpAny_newList ?_ (aw (cN lo) (by decide)))
 show wpAny _ _ _ _ _ {s' with heap:=s'.heap.push (seqObj "list" ord.toArray 0)}
 cases q with
 |txt t l q=>
  refine(aiH t).elim λys e=>?_
  subst e
  have hS:StrsAre ord ys:=H0 r
  refine ax (c8 (jD slot_list_sort ⟨_,xY,rfl⟩ entry_list_sort (list_sort_treeK strKind_oneLt xY hS.keysOf (λIh Ii rest e=>keyKind_strs (by rw [<-e];exact hS)) lo λfI a1 a2=>⟨_,rfl,?_⟩) (args_list_sort _)))
  exact(sorted_out_str hS a1 a2).elim λws z=>aG ⟨_,rfl,fin (ah4 z.1) (q ws (z.2.1.map _) z.2.2)⟩
 |q3 t l q=>
  have st:dH h s.heap h (s'.heap.push (seqObj "list" ord.toArray 0)):=⟨λa xs e=>c9 _ (K.kp _ _ e),λ_ e=>⟨e,rfl⟩⟩
  refine ax (c8 (jD slot_list_sort ⟨_,xY,rfl⟩ entry_list_sort (ahV xY (λx hx=>(r.bM st).mem hx λv hv rv=>(t v hv).cA (P:=r3 _) (s:={s' with heap:=s'.heap.push (seqObj "list" ord.toArray 0)}) rv λ_ _ _ _ _ t=>.mk t) (aw (aL r.length.symm) l) λout pm=>⟨_,rfl,?_⟩) (args_list_sort _)))
  exact(r.perm pm).elim λws z=>aG ⟨_,rfl,fin z.2 (q ws z.1)⟩
theorem W1:dp B true k (.builtin "sorted") BN:=λA h s Q E vs xs R T rs q=>by
 induction q with
 |mk e ea q=>
  subst e
  refine rs.one λx rx=>rx.cA λ_=>Jn kind_sorted plain_sorted entry_sorted (args_sorted1 _) (ax (m:=checkCount "sorted" 1 1 _) (aG ?_))
  refine ea.elim (λea=>R.lst ea λitems n hx rx=>?_) λea=>?_
  ·exact ax (collect_list ⟨_,hx,rfl,n,rfl⟩ (Te R ⟨λb o e=>(rS _ _ _ _ (m8 (jH e))).trans (c9 _ e),rfl,rfl⟩ rx q) (aw (cN (rx.length▸q.len)) (by decide)))
  ·exact(R.objs _ _ ea).elim λes r=>r.elim λep r=>r.elim λtb r=>ax (Xl (T.handled rfl) r.1 r.2.2 (aw (aL (mT.symm.trans ((bx _).symm.trans r.2.1.length.symm))) (aw (cN q.len) (by decide))) λord s' p K=>(r.2.1.perm p).elim λvs' z=>Te R K z.2 (q.perm z.1))
end
inductive Alike(h:H)(v u:V):Prop
 |mk{da db:PyData}:Rd h v da->Rd h u db->da.canLay0=true->db.canLay0=true->min da.depth db.depth<=100->PyData.eqv da db=true->Alike h v u
inductive Jv(h:H)(Q:Bool->Prop):V->V->Prop
 |mk{la lb:L}{es fs:af}{n m:Nat}:h la=some (.aF es n)->h lb=some (.aF fs m)->es.length=fs.length->(∀p∈es,∃u,cg fs p.1=some u/\Alike h p.2 u)->Q true->Jv h Q (.ref la) (.ref lb)
noncomputable abbrev MV(a b:V)(h:H)(Q:Bool->Prop):Prop:=Jv h Q a b
noncomputable def Ht(b:Addr)(e:DictEntry):Sem Bool:=do
 let some j<-dictFind b e.key e.hash|pure false
 let some f:=(<-dictEntries b)[j]?|unsupported "internal:dict-equal"
 holding [f.val] (eqBool e.val f.val)
section
variable{B:Bk}{t:Bool}{k:Nat}{h:HA}{s:Shared}{A:Around}{E:aa}{la lb:L}{es fs:af}{n m:Nat}{kv v u:V}{en:DictEntry}{x:Addr}{aQ fns:List DictEntry}{y:Addr}
theorem afw{Q:Bool->Shared->Prop}(R:aI B h s)(hu:A.units+110<cLine)(e:h.c lb=some (.aF fs m))(kk:cz 8 kv)(eh:en.hash=cI B.w.params kv)(rk:aP h s.heap kv en.key)(rv:aP h s.heap v en.val)(al:∃u,cg fs kv=some u/\Alike h.c v u)(q:Q true s):wpAny B.M A (Ht (h.adr lb) en) Q E s:=
 R.seek (b7 (eV (by decide:100<=110) _) hu) e kk rk λfns S=>al.elim λu eu=>by
  unfold Ht
  rw [eh]
  refine ax (EL S (λno=>cK eu.1 (AW no)) λj z=>z.elim λw z=>S.er.at' z λf a _ _ rf=>ax (ql S.ho rfl ?_))
  rw [List.getElem?_toArray,a]
  cases bc (eu.1.symm.trans (AX S.hn z))
  cases eu.2 with
  |mk r1 r2 c1 c2 hd eq=>exact(r1.reads R rv).elim λ_ z1=>(r2.reads R rf).elim λ_ z2=>c8 (SeqAt.eqBoolOverData B.prog B.w A E s en.val f.val _ _ _ _ _ z1 z2 c1 c2 (b7 (eV (aw hd (by decide:100<=110)) _) hu) (eq▸q))
theorem ahm{Q:Bool->Shared->Prop}{id:String}(R:aI B h s)(hu:A.units+110<cLine)(mx:(h.adr la==sysModules)=false)(my:(h.adr lb==sysModules)=false)(ea:h.c la=some (.aF es n))(eb:h.c lb=some (.aF fs m))(hl:es.length=fs.length)(al:∀p∈es,∃u,cg fs p.1=some u/\Alike h.c p.2 u)(q:Q true s):
 wpAny B.M A (Builtin.Dict.samePairs id (h.adr la) (h.adr lb)) Q E s:=R.aF ea λaQ hx ex _ kx=>R.aF eb λfns hy ey _ _=>by
 unfold Builtin.Dict.samePairs
 refine ax (m:=Builtin.Dict.showsAll _) (bZ (cQ (j7.1 mx)) (aG (ax (m:=Builtin.Dict.showsAll _) (bZ (cQ (j7.1 my)) (aG ?_)))))
 refine ax (ql hx rfl (ax (ql hy rfl (bZ (cQ λz=>lg.1 z (ex.length.symm.trans (hl.trans ey.length))) (ax (v6 hx rfl (ax (RS (Std.Legacy.Range.forIn_eq_forIn_range' ..).symm
  (wpAny_forIn_list _ (λrest r s'=>s'=s/\r=(none,())/\∀i∈rest,i<es.length) _ (λi rest r s' I=>?_) (λr s' I=>?_) _ _ ⟨rfl,rfl,λi hi=>?_⟩)))))))))
 ·rw [I.1]
  have ei:=fu (I.2.2 i (.head _))
  refine ex.at' ei λen a eh rk rv=>ax (ql hx rfl ?_)
  rw [List.getElem?_toArray,a]
  exact ax (c8 (m:=Ht (h.adr lb) en) (afw R hu eb (kx _ (cP ei)) eh rk rv (al _ (cP ei)) (bZ rfl (ax (v6 hx rfl (bZ uX (aG ⟨rfl,rfl,λj hj=>I.2.2 j (.tail _ hj)⟩)))))))
 ·rw [I.1,I.2.1]
  exact aG q
 ·exact ex.length▸f5 (List.mem_range'_1.mp hi).2 ((og _).trans (Nat.div_one _))
theorem ae7(C:gB B):fb B t k (compareOp .Eq) λa b h Q=>MV a b h λr=>Q (.bool r) h:=λA h s Q E a b x y R T ra rb q=>by
 induction q with
 |mk ea eb hl al q=>
  refine ra.cA λ_=>rb.cA λ_=>R.aF ea λaQ ho _ _ _=>R.aF eb λfns Zz _ _ _=>?_
  have hT:s.TypeIs (.ref (h.adr _)) "dict":=⟨_,ho,rfl⟩
  have Om:s.TypeIs (.ref (h.adr _)) "dict":=⟨_,Zz,rfl⟩
  refine wpAny_richCompare_same_room (op:=.Eq) hT Om PySem.F.slot_dict_eq (jD PySem.F.slot_dict_eq hT PySem.F.entry_dict_eq ?_ (PySem.F.args_dict_eq_2 _ _)) (B4 T.units (bH _))
  refine ax (m:=Builtin.Dict.dictSlotArgs "__eq__" _) (ax (Uk hT (ax (m:=slotArgs _ _ _) (aG (aG ?_)))))
  refine ax (t8 Om PySem.F.sub_dict_dict (bZ rfl ?_))
  exact ax (aG (ax (aG (ax (ahm R (TL T.units (by decide)) (R.mods _ _ _ ea) (R.mods _ _ _ eb) ea eb hl al (aG ⟨_,rfl,Value.noConfusion,.iQ (v:=.bool _) R rfl q⟩))))))
end
noncomputable abbrev Nm:=ag
noncomputable def el{F:Expr->Sort u}(no:∀x,F x)(con:∀a b c,F (.Constant a b c):=λ_ _ _=>no _)(name:∀a b,F (.Name a b):=λ_ _=>no _)(bin:∀a b c d,F (.BinOp a b c d):=λ_ _ _ _=>no _)(un:∀a b c,F (.UnaryOp a b c):=λ_ _ _=>no _)(bo:∀a b c,F (.BoolOp a b c):=λ_ _ _=>no _)
 (cmp:∀a b c d,F (.Compare a b c d):=λ_ _ _ _=>no _)(ZM:∀a b c d,F (.IfExp a b c d):=λ_ _ _ _=>no _)(lst:∀a b,F (.List a b):=λ_ _=>no _)(tup:∀a b c,F (.Tuple a b c):=λ_ _ _=>no _)(gM:∀a b c,F (.Dict a b c):=λ_ _ _=>no _)(att:∀a b c,F (.Attribute a b c):=λ_ _ _=>no _)(sub:∀a b c,F (.Subscript a b c):=λ_ _ _=>no _)
 (lc:∀a b c d,F (.ListComp a b c d):=λ_ _ _ _=>no _)(dc:∀a b c d e,F (.DictComp a b c d e):=λ_ _ _ _ _=>no _)(call:∀a b c d,F (.Call a b c d):=λ_ _ _ _=>no _)(fmt:∀a b c d,F (.FormattedValue a b c d):=λ_ _ _ _=>no _)(jo:∀a b,F (.JoinedStr a b):=λ_ _=>no _)(slc:∀a b c d,F (.Slice a b c d):=λ_ _ _ _=>no _)(x:Expr):F x:=
 match x with
 | .Constant ..=>con ..
 | .Name ..=>name ..
 | .BinOp ..=>bin ..
 | .UnaryOp ..=>un ..
 | .BoolOp ..=>bo ..
 | .Compare ..=>cmp ..
 | .IfExp ..=>ZM ..
 | .List ..=>lst ..
 | .Tuple ..=>tup ..
 | .Dict ..=>gM ..
 | .Attribute ..=>att ..
 | .Subscript ..=>sub ..
 | .ListComp ..=>lc ..
 | .DictComp ..=>dc ..
 | .Call ..=>call ..
 | .FormattedValue ..=>fmt ..
 | .JoinedStr ..=>jo ..
 | .Slice ..=>slc ..
 |x=>no x
noncomputable def cls:Expr->Nat:=el (F:=λ_=>Nat) (λ_=>0) (λ_ _ _=>1) (λ_ _=>1) (λ_ _ _ _=>1) (λ_ _ _=>5) (λ_ _ _=>5) (λ_ _ _ _=>5) (λ_ _ _ _=>5) (λ_ _=>1) (λ_ _ _=>3) (λ_ _ _=>1) (λ_ _ _=>1) (λ_ _ _=>1) (λ_ _ _ _=>4) (λ_ _ _ _ _=>4) (λ_ _ _ _=>2) (λ_ _ _ _=>1) (λ_ _=>1)
structure Fx(e:Expr):Prop where
 star:∀es env,starEach (e::es) env=(false,eval e env)::starEach es env
 each:∀es env,assignEach (e::es) env=(false,assign e env)::assignEach es env
 set:∀env x,foldedSetIterable e env x=pure x
 sub:∀x y,subscripted e false x y=operate [x,y] (getItem x y)
 base:cls e≠2->∀n env m,attributeBase e n env m=m
 aeI:cls e≠3->∀es c p env,swappedStores [.Tuple es c p] e env=pure none
 comp:cls e≠4->∀tg n env,swapsWith e tg n env=pure false
 tru:cls e≠5->∀env whole,isTrue e env whole=(do let v<-whole;standAt e.pos;holding [v] (truthy v))
theorem fx:∀{e:Expr},cls e≠0->Fx e:=λ{e}=>by
 cases e with
 |Call=>exact λ_=>⟨λ_ _=>rfl,λ_ _=>rfl,λ_ _=>rfl,λ_ _=>rfl,λh=>absurd rfl h,λ_ _ _ _ _=>rfl,λ_ _ _ _=>rfl,λ_ _ _=>rfl⟩
 |Tuple=>exact λ_=>⟨λ_ _=>rfl,λ_ _=>rfl,λ_ _=>rfl,λ_ _=>rfl,λ_ _ _ _=>rfl,λh=>absurd rfl h,λ_ _ _ _=>rfl,λ_ _ _=>rfl⟩
 |ListComp|DictComp=>exact λ_=>⟨λ_ _=>rfl,λ_ _=>rfl,λ_ _=>rfl,λ_ _=>rfl,λ_ _ _ _=>rfl,λ_ _ _ _ _=>rfl,λh=>absurd rfl h,λ_ _ _=>rfl⟩
 |UnaryOp|BoolOp|Compare|IfExp=>exact λ_=>⟨λ_ _=>rfl,λ_ _=>rfl,λ_ _=>rfl,λ_ _=>rfl,λ_ _ _ _=>rfl,λ_ _ _ _ _=>rfl,λ_ _ _ _=>rfl,λh=>absurd rfl h⟩
 |_=>first|exact λh=>absurd rfl h|exact λ_=>⟨λ_ _=>rfl,λ_ _=>rfl,λ_ _=>rfl,λ_ _=>rfl,λ_ _ _ _=>rfl,λ_ _ _ _ _=>rfl,λ_ _ _ _=>rfl,λ_ _ _=>rfl⟩
noncomputable abbrev b6:=aj->H->(ab)->Prop
noncomputable abbrev wj:=aj->H->(Src->H->Prop)->Prop
inductive MC where
 |own(C:CN)(F:b6)
 |blt(T:String)(F:b6)
structure Sg where
 fns:List (Str×b6)
 bS:List (Str×wj)
 mD:List (Str×MC)
 AB:List (Str×Str)
noncomputable def Mt:Operator->V->V->H->(ab)->Prop
 | .Add=>addW
 | .Sub=>nN λx y=>.int (x - y)
 | .Mult=>Rc
 | .FloorDiv=>M4
 | .Mod=>Q9
 |_=>λ_ _ _ _=>False
noncomputable def xo:CmpOp->V->V->H->(ab)->Prop
 | .Eq=>λa b h Q=>xB a b h (λr=>Q (.bool r) h)\/MV a b h λr=>Q (.bool r) h
 | .NotEq=>λa b h Q=>xB a b h λr=>Q (.bool (!r)) h
 | .Lt=>nN λx y=>.bool (decide (x<y))
 | .LtE=>nN λx y=>.bool (decide (x<=y))
 | .Gt=>nN λx y=>.bool (decide (y<x))
 | .GtE=>nN λx y=>.bool (decide (y<=x))
 | .Is=>x7 id
 | .IsNot=>x7 not
 | .In=>λv c h Q=>sU v c h λb=>Q (.bool b) h
 | .NotIn=>λv c h Q=>sU v c h λb=>Q (.bool (!b)) h
noncomputable def isLocal(nm:Nm)(x:Str):Bool:=nm.lookup x==some .local
noncomputable def jz(nm:Nm)(x:Str):Bool:=nm.lookup x==some .globalImplicit
noncomputable def MR(nm:Nm)(sc:Scope):Bool:=sc.kind==.function&&(sc.names.all (λx=>x.2 !=.cell&&(x.2 !=.local||sc.names.lookup x.1==some .local)&&(x.2 !=.free||nm.lookup x.1==some .cell))&&decide (sc.names.map (·.1)).Nodup)
structure qH(B:Bk)(k:Nat)(S:Sg):Prop where
 X:lL B
 fn:∀x F,S.fns.lookup x=some F->∃f,(B.mg x=some f\/(B.mg x=none/\bootBuiltins x=some f/\x≠"__name__"))/\jf B f/\dp B true k f F/\(x==("__debug__":Str))=false
 it:∀x F,S.bS.lookup x=some F->∃f,B.mg x=none/\bootBuiltins x=some f/\x≠"__name__"/\jf B f/\uj B true k f F/\(x==("__debug__":Str))=false
 own:∀n C F,S.mD.lookup n=some (.own C F)->∃f,plainGet B.K (B.cls C) n=true/\findIn B.K (.ref (B.cls C)) n=some (some (.ref f))/\isFn B.K (.ref f)=true/\keepIn B.K (.ref f)=true/\dp B true k (.ref f) F
 blt:∀n T F,S.mD.lookup n=some (.blt T F)->∃id,PlainAttrs T/\Slot T n id/\typeOf (.builtin id)=pure (.type "method_descriptor")/\dp B true k (.builtin id) F
 key:B.mg "KeyError"=none
 idx:B.mg "IndexError"=none
 gv:∀x y,S.AB.lookup x=some y->∃tk,B.mg x=some (.str y tk)
section
variable{B:Bk}{t:Bool}{k:Nat}{nm:Nm}{e o i:Expr}{es:List Expr}{n x:Str}{a b:Bool}{pos apos p pa pb pt px py p':Pos}{env:Env}{sc:Scope}
theorem ae6{op:Operator}:fb B t k (binaryOp op) (Mt op):=by
 cases op with
 |Add=>exact ae5
 |Sub=>exact afm
 |Mult=>exact afi
 |FloorDiv=>exact ae8
 |Mod=>exact afh
 |_=>exact λ_ _ _ _ _ _ _ _ _ _ _ _ _ q=>q.elim
theorem RZ(C:gB B){op:CmpOp}:fb B t k (compareOp op) (xo op):=by
 cases op with
 |Eq=>exact λA h s Q E a b x y R T ra rb q=>q.elim (λq=>ae9 A h s Q E a b x y R T ra rb q) λq=>ae7 C A h s Q E a b x y R T ra rb q
 |NotEq=>exact afj
 |Lt=>exact aff
 |LtE=>exact afe
 |Gt=>exact afa
 |GtE=>exact ae'
 |Is=>exact afc
 |IsNot=>exact afd
 |In=>exact afb
 |NotIn=>exact afk
theorem bu(h:(a&&b)=true):a=true/\b=true:=j6.1 h
theorem jU(h:(!b)=true):b=false:=by cases b;rfl;cases h
theorem bn{a b:Nat}(h:(a !=b)=true):a≠b:=lg.1 h
theorem bs{a b:Str}(h:(a !=b)=true):a≠b:=lg.1 h
theorem oJ(h:isLocal nm x=true):nm.lookup x=some .local:=i6.1 h
theorem oI(h:jz nm x=true):nm.lookup x=some .globalImplicit:=i6.1 h
theorem Bn{x:Str}{u v:NameKind}(h:(nm.lookup x==some u||nm.lookup x==some v)=true):nm.lookup x=some u\/nm.lookup x=some v:=((lM _ _).mp h).imp i6.1 i6.1
noncomputable def lf(es:List Expr):Bool:=es.all λe=>cls e !=0
theorem qa(h:lf es=true):ng es:=λenv=>by
 induction es with
 |nil=>rfl
 |cons e es ih=>exact((fx (bn (bu h).1)).star es env).trans (au ((false,eval e env)::·) (ih (bu h).2))
theorem plainT(h:lf es=true):Le es:=λenv=>by
 induction es with
 |nil=>rfl
 |cons e es ih=>exact((fx (bn (bu h).1)).each es env).trans (au ((false,assign e env)::·) (ih (bu h).2))
noncomputable def ok(j:Nat)(e:Expr):Bool:=cls e !=0&&cls e !=j
theorem lA{j:Nat}(h:ok j e=true):Fx e:=fx (bn (bu h).1)
theorem qY{j:Nat}(h:ok j e=true):cls e≠j:=bn (bu h).2
theorem Wa(h:ok 2 e=true)(env:Env):PySem.eval (.Attribute e n pos) env=(do
 let o<-PySem.eval e env
 standAt pos.atName
 let r<-holding [o] (getAttr o n true)
 letTemporaryGo e o r
 pure r):=au (·>>= λo=>standAt pos.atName>>= λ_=>holding [o] (getAttr o n true)>>= λr=>letTemporaryGo e o r>>= λ_=>pure r) ((lA h).base (qY h) n env (PySem.eval e env))
theorem Mx(S:iC env nm):env.blockKind= .function:=(au (λk:ScopeKind=>if k.isAnnotationScope=true then ScopeKind.function else k) S.kind:)
theorem RE(S:iC env nm):interactive env=false:=by unfold interactive;rw [S.kind];rfl
theorem Xm(h:MR nm sc=true):pf nm sc:=
 have z:=bu h
 have y:=bu z.2
 have w:=λx hx=>bu (d5.1 y.1 x hx)
 ⟨eq_of_beq z.1,λx hx=>lg.1 (bu (w x hx).1).1,λx hx e=>((lM _ _).mp (bu (w x hx).1).2).elim (λz=>absurd e (lg.1 z)) eq_of_beq,
  λx hx e=>((lM _ _).mp (w x hx).2).elim (λz=>absurd e (lg.1 z)) eq_of_beq,cU y.2⟩
theorem G5(h:ok 2 o=true)(hs:lf es=true)(hl:decide (es.length<30)=true)(hp:(apos.endLine==pos.line)=true):zN o n apos es pos λenv=>do return (<-importBound o env).getD true:=λenv=>by
 have hf:methodCallForm (es.length+0) (backTo pos (starEach es env)) []=true:=j6.2 ⟨j6.2 ⟨(uU (qa hs)).symm▸d5.2 λp hp=>(bg.1 hp).elim λ_ z=>z.2▸rfl,rfl⟩,hl⟩
 have hq:methodCallPos true o env apos pos=pure pos:=bz (by rw [hp];rfl)
 refine(au (·>>= λov=>standAt apos.atName>>= λ_=>methodCall o n apos pos env ov (es.length+0) (backTo pos (starEach es env)) []) ((lA h).base (qY h) n env (PySem.eval o env))).trans ?_
 unfold methodCall
 rw [hf,hq];rfl
theorem ah9{a b:Str}{c c':Nat}(h2:isLocal nm a=true)(h3:isLocal nm b=true)(h4:(pb.line==pa.line)=true)(h5:a≠b)(h6:x≠"__debug__"){y:Str}(S:iC env nm):
 swappedStores [.Tuple [.Name a pa,.Name b pb] c pt] (.Tuple [.Name x px,.Name y py] c' p') env=pure (some [a,b]):=by
 refine(bD (by rw [Mx S];exact jd)).trans ((bD jd).trans ?_)
 extract_lets line names
 have en:names=[a,b]:=by
  refine(Vp (b:=a) ?_).trans (au (a::·) ((Vp (b:=b) ?_).trans rfl))
  ·exact bz (by rw [S.loc _ (oJ h2),show(pa.line==line)=true from beq_self_eq_true _];rfl)
  ·exact bz (by rw [S.loc _ (oJ h3),show(pb.line==line)=true from h4];rfl)
 clear_value names
 subst en
 have ed:[a,b].eraseDups=[a,b]:=by rw [List.eraseDups_cons,List.filter_cons_of_pos (p:=λc=>!c==a) (bne_iff_ne.mpr h5.symm:(!b==a)=true)];rfl
 exact(bD (by rw [ed];exact jd)).trans ((bD jd).trans (bD λz=>lg.1 (lg.2 h6) (eq_of_beq (bu z).1)))
theorem kB:isSubtype (.type "KeyError") (.type "BaseException")=pure true:=sX (by decide+kernel)
theorem iB:isSubtype (.type "IndexError") (.type "BaseException")=pure true:=sX (by decide+kernel)
theorem kT:isSubtype (.type ((Manifest.find? "KeyError").elim "type" λx=>x.metatype)) (.type "tuple")=pure false:=sX (by decide+kernel)
theorem iT:isSubtype (.type ((Manifest.find? "IndexError").elim "type" λx=>x.metatype)) (.type "tuple")=pure false:=sX (by decide+kernel)
theorem kk:isSubtype (.type "KeyError") (.type "KeyError")=pure true:=sX (by decide+kernel)
theorem ii:isSubtype (.type "IndexError") (.type "IndexError")=pure true:=sX (by decide+kernel)
theorem ik:isSubtype (.type "IndexError") (.type "KeyError")=pure false:=sX (by decide+kernel)
theorem ki:isSubtype (.type "KeyError") (.type "IndexError")=pure false:=sX (by decide+kernel)
theorem bK:bootBuiltins "KeyError"=some (.type "KeyError"):=by decide+kernel
theorem bI:bootBuiltins "IndexError"=some (.type "IndexError"):=by decide+kernel
section
variable{S:Sg}(G:qH B k S)
include G
theorem tkK(h:jz nm "KeyError"=true):∀d∈["KeyError"],pK B nm (.Name "KeyError" p) d:=λd m=>by cases a6.1 m;exact Tt G.X.C (oI h) G.key bK (by decide) (by decide) kB kT kk
theorem tkI(h:jz nm "IndexError"=true):∀d∈["IndexError"],pK B nm (.Name "IndexError" p) d:=λd m=>by cases a6.1 m;exact Tt G.X.C (oI h) G.idx bI (by decide) (by decide) iB iT ii
theorem air{n:Nat}(h:jz nm "IndexError"=true)(h':jz nm "KeyError"=true):∀d∈["IndexError","KeyError"],pK B nm (.Tuple [.Name "IndexError" px,.Name "KeyError" py] n p) d:=λd m=>
 (dP.1 m).elim (λe=>by cases e;exact Tu G.X.C (oI h) (oI h') G.idx G.key bI bK (by decide) (by decide) (by decide) (by decide) iB iT kB kT ii ik rfl)
  λm=>by cases a6.1 m;exact Tu G.X.C (oI h) (oI h') G.idx G.key bI bK (by decide) (by decide) (by decide) (by decide) iB iT kB kT ki kk rfl
end
end
section
variable{B:Bk}{t:Bool}{k:Nat}{nm:Nm}
noncomputable abbrev PE(B:Bk)(t:Bool)(k:Nat)(nm:Nm)(x:Expr):=Option {m:EW//aV B t k nm x m}
noncomputable abbrev K3(B:Bk)(t:Bool)(k:Nat)(nm:Nm)(x:List Expr):=Option {m:fZ//gI B t k nm x m}
noncomputable abbrev PB(B:Bk)(t:Bool)(k:Nat)(nm:Nm)(x:Expr):=Option {m:BW//gZ B t k nm x m}
noncomputable abbrev K1(B:Bk)(t:Bool)(k:Nat)(nm:Nm)(op:BoolOp)(x:List Expr):=Option {m:BW//lV B t k nm op x m}
noncomputable abbrev PI(B:Bk)(t:Bool)(k:Nat)(nm:Nm)(x:Expr):=Option {m:IW//jP B t k nm x m}
noncomputable abbrev K9(B:Bk)(g t:Bool)(k:Nat)(nm:Nm)(x:Expr):=Option {m:TW//fy B g t k nm x m}
noncomputable abbrev La(B:Bk)(g t:Bool)(k:Nat)(nm:Nm)(x:List Expr):=Option {m:r9//r6 B g t k nm x m}
noncomputable abbrev k6(B:Bk)(t:Bool)(k:Nat)(nm:Nm)(x:Stmt):=Option {m:SW//cT B t k nm x m}
noncomputable abbrev K8(B:Bk)(t:Bool)(k:Nat)(nm:Nm)(x:List Stmt):=Option {m:SW//fQ B t k nm x m}
set_option genInjectivity false in
structure RD(B:Bk)(k:Nat)where
 e:∀t nm x,PE B t k nm x
 es:∀t nm x,K3 B t k nm x
 b:∀t nm x,PB B t k nm x
 ba:∀t nm op x,K1 B t k nm op x
 i:∀t nm x,PI B t k nm x
 t:∀g t nm x,K9 B g t k nm x
 ts:∀g t nm x,La B g t k nm x
 s:∀t nm x,k6 B t k nm x
 ss:∀t nm x,K8 B t k nm x
noncomputable def b9{α:Type}(b:Bool)(f:b=true->Option α):Option α:=match b,f with
 |true,f=>f rfl
 |false,_=>none
noncomputable def oR{f:Bool->Type}(t:Bool)(x:Option (f true)):Option (f t):=match t with
 |true=>x
 |false=>none
section
variable{S:Sg}(G:qH B k S)(r:RD B k)
noncomputable def rrC{c:Const}{n:Nat}{pos:Pos}:PE B t k nm (.Constant c n pos):=match c with
 | .int _=>some ⟨_,.cInt⟩
 | .str _=>some ⟨_,.cStr⟩
 | .none=>some ⟨_,.WI⟩
 | .bool _=>some ⟨_,.cBool⟩
 |_=>none
theorem aeC{x:Str}(h:(x !="__debug__")=true):(x==("__debug__":Str))=false:=jU h
noncomputable def rrN{x:Str}{pos:Pos}(hd:(x==("__debug__":Str))=false):∀o,S.AB.lookup x=o->PE B t k nm (.Name x pos)
 |some _,e=>b9 (jz nm x) λh=>some ⟨_,.global G.X.C (oI h) (G.gv _ _ e) hd⟩
 |none,_=>(b9 (isLocal nm x) λh=>some ⟨_,.name (oJ h) hd⟩).or (b9 (nm.lookup x==some .cell||nm.lookup x==some .free) λh=>b9 (x !="__classdict__") λhn=>some ⟨_,.aes (Bn h) hd (bs hn)⟩)
noncomputable def rrU{e:Expr}{pos:Pos}(op:UnaryOp):PE B t k nm (.UnaryOp op e pos):=match op with
 | .USub=>(r.e t nm e).bind λa=>some ⟨_,.neg a.2⟩
 |_=>none
noncomputable def agB{pos:Pos}(op:BoolOp)(es:List Expr):PE B t k nm (.BoolOp op es pos):=match es with
 |[]=>none
 |[e]=>(r.e t nm e).bind λa=>some ⟨_,.WA a.2⟩
 |e::e'::l=>(r.e t nm e).bind λa=>(r.e t nm (.BoolOp op (e'::l) pos)).bind λb=>match op,b with
  | .And,b=>some ⟨_,.and G.X.C a.2 b.2⟩
  | .Or,b=>some ⟨_,.or G.X.C a.2 b.2⟩
noncomputable def agE{l:Expr}{pos:Pos}(ops:List CmpOp)(rs:List Expr):PE B t k nm (.Compare l ops rs pos):=match ops,rs with
 |[op],[x]=>(r.e t nm l).bind λa=>(r.e t nm x).bind λb=>b9 (!behindInMarks op x) λh=>some ⟨_,.compare a.2 b.2 (RZ G.X.C) (jU h)⟩
 |_,_=>none
noncomputable def rrD{pos:Pos}(ks:List (Option Expr))(vs:List Expr):PE B t k nm (.Dict ks vs pos):=match ks,vs with
 |[],[]=>some ⟨_,.Xs⟩
 |[some ek],[ev]=>(r.e t nm ek).bind λa=>(r.e t nm ev).bind λb=>some ⟨_,.Xt a.2 b.2⟩
 |_,_=>none
noncomputable def ag1{o:Expr}{p pos:Pos}(lo hi st:Option Expr):PE B t k nm (.Subscript o (.Slice lo hi st p) pos):=match lo,hi,st with
 |some lo,none,none=>(r.e t nm o).bind λa=>(r.e t nm lo).bind λb=>some ⟨_,.from a.2 b.2 λ_ _=>rfl⟩
 |none,some hi,none=>(r.e t nm o).bind λa=>(r.e t nm hi).bind λb=>some ⟨_,.to a.2 b.2 λ_ _=>rfl⟩
 |none,none,none=>(r.e t nm o).bind λa=>some ⟨_,.all a.2 λ_ _=>rfl⟩
 |_,_,_=>none
noncomputable def agQ{o:Expr}{pos:Pos}(i:Expr):PE B t k nm (.Subscript o i pos):=b9 (ok 6 i) λh=>(r.e t nm o).bind λa=>(r.e t nm i).bind λb=>some ⟨_,.item a.2 b.2 (lA h).sub⟩
noncomputable def ag3{o:Expr}{pos:Pos}:∀i,PE B t k nm (.Subscript o i pos):=el (agQ r) (slc:=λlo hi st _=>ag1 r lo hi st)
noncomputable def agO(ifs:List Expr):Option {m:BW//nq B t k nm ifs m}:=match ifs with
 |[]=>some ⟨_,.nil⟩
 |[c]=>(r.b t nm c).bind λa=>some ⟨_,.one a.2⟩
 |_=>none
noncomputable def SF(tg:Expr):Option {b:Bool//Tg b tg}:=el (F:=λtg=>Option {b:Bool//Tg b tg}) (λ_=>none) (name:=λa b=>some ⟨false,a,b,rfl⟩) (tup:=λa b c=>some ⟨true,a,b,c,rfl⟩) (x:=tg)
set_option genInjectivity false in
structure U5(B:Bk)(k:Nat)(nm:Nm)(target iter:Expr)(ifs:List Expr)(sc:Scope)where
 N:pf nm sc
 mi:IW
 i:jP B true k nm iter mi
 b:Bool
 tg:Tg b target
 mt:TW
 t:fy B false true k (fW sc.names) target mt
 mc:BW
 ifs:nq B true k (fW sc.names) ifs mc
 s:∀env x,foldedSetIterable iter env x=pure x
noncomputable def BB(target iter:Expr)(ifs:List Expr)(sc:Scope):Option (U5 B k nm target iter ifs sc):=
 b9 (MR nm sc) λh1=>b9 (ok 6 iter) λh2=>(r.i true nm iter).bind λa=>(SF target).bind λd=>(r.t false true (fW sc.names) target).bind λb=>(agO r ifs).bind λc=>some ⟨Xm h1,_,a.2,_,d.2,_,b.2,_,c.2,(lA h2).set⟩
noncomputable def Bl{F:List Comprehension->Type}(gens:List Comprehension)(f:∀t i is,Option (F [⟨t,i,is,0⟩])):Option (F gens):=match gens with
 |[⟨t,i,is,0⟩]=>f t i is
 |_=>none
noncomputable def rrL{elt:Expr}{sc:Scope}{pos:Pos}(gens:List Comprehension):PE B true k nm (.ListComp elt gens sc pos):=Bl (F:=λg=>{m:EW//aV B true k nm (.ListComp elt g sc pos) m}) gens λt i is=>
 (BB r t i is sc).bind λc=>(r.e true (fW sc.names) elt).bind λa=>some ⟨_,.comp .list c.N c.i c.tg c.t c.ifs (.list a.2) L0 c.s⟩
noncomputable def agG{ek ev:Expr}{sc:Scope}{pos:Pos}(gens:List Comprehension):PE B true k nm (.DictComp ek ev gens sc pos):=Bl (F:=λg=>{m:EW//aV B true k nm (.DictComp ek ev g sc pos) m}) gens λt i is=>
 (BB r t i is sc).bind λc=>(r.e true (fW sc.names) ek).bind λa=>(r.e true (fW sc.names) ev).bind λb=>some ⟨_,.comp .dict c.N c.i c.tg c.t c.ifs (.dict a.2 b.2) LZ c.s⟩
section
variable{f n:Str}{p pos apos sp:Pos}{es:List Expr}{ms:fZ}{F:b6}{mo:EW}{o:Expr}
include G
theorem ahI(h1:gI B true k nm es ms)(h2:lf es=true)(h3:jz nm f=true)(e:S.fns.lookup f=some F):aV B true k nm (.Call (.Name f p) es [] pos) λg h Q=>ms g h λvs az=>F vs az Q:=
 (G.fn _ _ e).elim λv z=>z.1.elim (λhv=>.WL G.X.C (oI h3) hv z.2.1 h1 z.2.2.1 (qa h2) z.2.2.2) λhv=>.WK G.X.C (oI h3) hv.1 hv.2.1 z.2.1 h1 z.2.2.1 (qa h2) hv.2.2 z.2.2.2
theorem ahJ{F:wj}(h1:gI B true k nm es ms)(h2:lf es=true)(h3:jz nm f=true)(e:S.bS.lookup f=some F):jP B true k nm (.Call (.Name f p) es [] pos) λg h Q=>ms g h λvs az=>F vs az Q:=
 (G.it _ _ e).elim λv z=>.WJ G.X.C (oI h3) z.1 z.2.1 z.2.2.2.1 h1 z.2.2.2.2.1 (qa h2) z.2.2.1 z.2.2.2.2.2
variable(h2:gI B true k nm es ms)(h3:ok 2 o=true)(h4:lf es=true)(h5:decide (es.length<30)=true)(h6:(apos.endLine==pos.line)=true)
include h2 h3 h4 h5 h6
theorem ahK{C:CN}(h1:aV B true k nm o mo)(e:S.mD.lookup n=some (.own C F)):aV B true k nm (.Call (.Attribute o n apos) es [] pos) λg h Q=>mo g h λv az=>zW C n az v/\ms g az λvs aU=>F (v::vs) aU Q:=
 (G.own _ _ _ e).elim λf z=>.aep G.X h1 h2 z.1 z.2.1 z.2.2.1 z.2.2.2.1 z.2.2.2.2 (G5 h3 h4 h5 h6) (qa h4)
theorem ahH{T:String}(h1:aV B true k nm o mo)(e:S.mD.lookup n=some (.blt T F)):aV B true k nm (.Call (.Attribute o n apos) es [] pos) λg h Q=>mo g h λv az=>oa T v az/\ms g az λvs aU=>F (v::vs) aU Q:=
 (G.blt _ _ _ e).elim λf z=>.GZ G.X h1 h2 z.1 z.2.1 z.2.2.1 z.2.2.2 (G5 h3 h4 h5 h6) (qa h4)
theorem ahL{T:String}{mo:EX}(h1:kq B k nm o mo)(e:S.mD.lookup n=some (.blt T F)):lW B k nm (.Expr (.Call (.Attribute o n apos) es [] pos) sp) λg h Q X=>mo g h (λv az=>oa T v az/\ms g az λvs aU=>F (v::vs) aU λ_ h'=>Q .next g h') X:=
 (G.blt _ _ _ e).elim λf z=>.expr (.GZ G.X h1 h2 z.1 z.2.1 z.2.2.1 z.2.2.2 (G5 h3 h4 h5 h6) (qa h4)) (λenv Se=>RE Se) λ_ _=>rfl
end
noncomputable def agK{f:Str}{p pos:Pos}{es:List Expr}:∀o,S.fns.lookup f=o->PE B true k nm (.Call (.Name f p) es [] pos)
 |some _,e=>b9 (lf es) λh1=>b9 (jz nm f) λh2=>(r.es true nm es).bind λa=>some ⟨_,ahI G a.2 h1 h2 e⟩
 |none,_=>none
noncomputable def agU{o:Expr}{n:Str}{apos pos:Pos}{es:List Expr}:∀q,S.mD.lookup n=q->PE B true k nm (.Call (.Attribute o n apos) es [] pos)
 |some m,e=>b9 (ok 2 o) λh3=>b9 (lf es) λh4=>b9 (decide (es.length<30)) λh5=>b9 (apos.endLine==pos.line) λh6=>(r.e true nm o).bind λa=>(r.es true nm es).bind λb=>match m,e with
  | .own _ _,e=>some ⟨_,ahK G b.2 h3 h4 h5 h6 a.2 e⟩
  | .blt _ _,e=>some ⟨_,ahH G b.2 h3 h4 h5 h6 a.2 e⟩
 |none,_=>none
noncomputable def Hb{F:List Keyword->Type}(f:Option (F []))(hZ:List Keyword):Option (F hZ):=match hZ with
 |[]=>f
 |_=>none
noncomputable def agD{es:List Expr}{pos:Pos}(hZ:List Keyword)(f:Expr):PE B true k nm (.Call f es hZ pos):=Hb (F:=λhZ=>{m:EW//aV B true k nm (.Call f es hZ pos) m}) (el (F:=λf=>PE B true k nm (.Call f es [] pos)) (λ_=>none) (name:=λf p=>agK G r _ rfl) (att:=λo n apos=>agU G r _ rfl) (x:=f)) hZ
noncomputable def rrF{e:Expr}{pos:Pos}(c:Int)(sp:Option Expr):PE B t k nm (.FormattedValue e c sp pos):=match c,sp with
 |115,none=>(r.e t nm e).bind λa=>some ⟨_,.shown a.2⟩
 |_,_=>none
noncomputable def rrJ(es:List Expr):Option {m:JW//r5 B t k nm es m}:=es.rec (some ⟨_,.nil⟩) λe es s=>(r.e t nm e).bind λa=>s.bind λb=>some ⟨_,.cons a.2 b.2⟩
noncomputable def agS{pos:Pos}(es:List Expr):PE B t k nm (.JoinedStr es pos):=match es with
 |e::e'::l=>(rrJ r (e::e'::l)).bind λa=>some ⟨_,.joined a.2⟩
 |_=>none
noncomputable def rrE(t:Bool)(nm:Nm):∀x,PE B t k nm x:=el (λ_=>none) (λ_ _ _=>rrC) (λx _=>b9 (x !="__debug__") λh=>rrN G (aeC h) _ rfl) (λl _ x _=>(r.e t nm l).bind λa=>(r.e t nm x).bind λb=>some ⟨_,.binOp a.2 b.2 ae6⟩)
 (λop _ _=>rrU r op) (λop es _=>agB G r op es) (λ_ ops rs _=>agE G r ops rs) (λc a b _=>(r.b t nm c).bind λc=>(r.e t nm a).bind λa=>(r.e t nm b).bind λb=>some ⟨_,.ZK c.2 a.2 b.2⟩)
 (λes _=>b9 (lf es) λh=>(r.es t nm es).bind λa=>some ⟨_,.list a.2 (qa h)⟩) (λes _ _=>b9 (lf es) λh=>(r.es t nm es).bind λa=>some ⟨_,.tuple a.2 (qa h)⟩) (λks vs _=>rrD r ks vs)
 (λe n _=>b9 (decide (n∈lY)) λh1=>b9 (ok 2 e) λh2=>(r.e t nm e).bind λa=>some ⟨_,.attr G.X a.2 (cU h1) (Wa h2)⟩) (λ_ i _=>ag3 r i)
 (λelt gens sc pos=>oR (f:=λt=>{m:EW//aV B t k nm (.ListComp elt gens sc pos) m}) t (rrL r gens)) (λek ev gens sc pos=>oR (f:=λt=>{m:EW//aV B t k nm (.DictComp ek ev gens sc pos) m}) t (agG r gens))
 (λf es hZ pos=>oR (f:=λt=>{m:EW//aV B t k nm (.Call f es hZ pos) m}) t (agD G r hZ f)) (λ_ c sp _=>rrF r c sp) λes _=>agS r es
noncomputable def agI(t:Bool)(nm:Nm)(x:List Expr):K3 B t k nm x:=match x with
 |[]=>some ⟨_,.nil⟩
 |e::es=>(r.e t nm e).bind λa=>(r.es t nm es).bind λb=>some ⟨_,.cons a.2 b.2⟩
noncomputable def agz(x:Expr):PB B t k nm x:=b9 (ok 5 x) λh=>(r.e t nm x).bind λa=>some ⟨_,.plain G.X.C a.2 ((lA h).tru (qY h))⟩
noncomputable def rrB(t:Bool)(nm:Nm):∀x,PB B t k nm x:=el (agz G r) (un:=λop e _=>match op with
 | .Not=>(r.b t nm e).bind λa=>some ⟨_,.not a.2⟩
 |_=>none) (bo:=λop es _=>(r.ba t nm op es).bind λa=>some ⟨_,.boolOp a.2⟩)
 (cmp:=λl ops rs _=>match ops,rs with
  |[op],[x]=>(r.e t nm l).bind λa=>(r.e t nm x).bind λb=>b9 (!behindInMarks op x) λh=>some ⟨_,.compare a.2 b.2 (RZ G.X.C) (jU h)⟩
  |_,_=>none)
noncomputable def agA(t:Bool)(nm:Nm)(op:BoolOp)(x:List Expr):K1 B t k nm op x:=match op,x with
 | .And,[]=>some ⟨_,.aev⟩
 | .Or,[]=>some ⟨_,.aew⟩
 | .And,e::es=>(r.b t nm e).bind λa=>(r.ba t nm .And es).bind λb=>some ⟨_,.and a.2 b.2⟩
 | .Or,e::es=>(r.b t nm e).bind λa=>(r.ba t nm .Or es).bind λb=>some ⟨_,.or a.2 b.2⟩
noncomputable def agP{f:Str}{p pos:Pos}{es:List Expr}:∀o,S.bS.lookup f=o->PI B true k nm (.Call (.Name f p) es [] pos)
 |some _,e=>b9 (lf es) λh1=>b9 (jz nm f) λh2=>(r.es true nm es).bind λa=>some ⟨_,ahJ G a.2 h1 h2 e⟩
 |none,_=>none
noncomputable def rrI(t:Bool)(nm:Nm)(x:Expr):PI B t k nm x:=(el (F:=λx=>PI B t k nm x) (λ_=>none) (call:=λf es hZ pos=>oR (f:=λt=>{m:IW//jP B t k nm (.Call f es hZ pos) m}) t (Hb (F:=λhZ=>{m:IW//jP B true k nm (.Call f es hZ pos) m})
 (el (F:=λf=>PI B true k nm (.Call f es [] pos)) (λ_=>none) (name:=λf p=>agP G r _ rfl) (x:=f)) hZ)) (x:=x)).or ((r.e t nm x).bind λa=>some ⟨_,.val a.2⟩)
noncomputable def rrT(g t:Bool)(nm:Nm):∀x,K9 B g t k nm x:=el (λ_=>none) (name:=λx _=>(b9 (isLocal nm x) λh=>some ⟨_,.aet (oJ h)⟩).or (match g with
 |true=>b9 (nm.lookup x==some .local||nm.lookup x==some .cell) λh=>some ⟨_,.name (Bn h)⟩
 |false=>none))
 (att:=λe n _=>b9 (decide (n∈lY)) λh=>(r.e t nm e).bind λa=>some ⟨_,.attr G.X a.2 (cU h)⟩) (sub:=λe i _=>(r.e t nm e).bind λa=>(r.e t nm i).bind λb=>some ⟨_,.item a.2 b.2⟩)
 (tup:=λes c pos=>oR (f:=λt=>{m:TW//fy B g t k nm (.Tuple es c pos) m}) t (b9 (lf es) λh=>(r.ts g true nm es).bind λa=>some ⟨_,.tuple a.2 (plainT h)⟩))
noncomputable def ag7(g t:Bool)(nm:Nm)(x:List Expr):La B g t k nm x:=match x with
 |[]=>some ⟨_,.nil⟩
 |e::es=>(r.t g t nm e).bind λa=>(r.ts g t nm es).bind λb=>some ⟨_,.cons a.2 b.2⟩
end
end
section
variable{B:Bk}{t:Bool}{k:Nat}{nm:Nm}{S:Sg}(G:qH B k S)(r:RD B k)
noncomputable def E4(sc:Scope)(x:Str):Bool:=!(sc.names.any λq=>q.1==x&&(q.2==.local||q.2==.cell))
theorem MT{x:Str}{p pos:Pos}{sc:Scope}{env:Env}(Se:iC env nm)(h0:isLocal nm x=true)(h1:(p.line==pos.line)=true)(h2:E4 sc x=true):(pure (env.blockKind==.function&&env.kindOf x==some .local&&p.line==pos.line&&!(sc.names.any λq=>q.1==x&&(q.2==.local||q.2==.cell))):Sem Bool)=pure true:=
 au pure (j6.2 ⟨j6.2 ⟨j6.2 ⟨i6.2 (Mx Se),i6.2 (Se.loc _ (oJ h0))⟩,h1⟩,h2⟩)
theorem MD{x:Str}{p pos:Pos}{sc:Scope}{env:Env}(Se:iC env nm)(h:(nm.lookup x==some .cell)=true):(pure (env.blockKind==.function&&env.kindOf x==some .local&&p.line==pos.line&&!(sc.names.any λq=>q.1==x&&(q.2==.local||q.2==.cell))):Sem Bool)=pure false:=by
 rw [Se.ce _ (beq_iff_eq.mp h),show(some NameKind.cell==some NameKind.local)=false from rfl,Bool.and_false];rfl
noncomputable def agX{x:Str}{p pos:Pos}(e:Expr):k6 B t k nm (.Assign [.Name x p] e pos):=
 b9 (nm.lookup x==some .local||nm.lookup x==some .cell) λho=>b9 (ok 4 e) λhc=>(r.e t nm e).bind λa=>some ⟨_,.assign a.2 (Bn ho) λenv _=>(lA hc).comp (qY hc) ..⟩
noncomputable def agZ{x:Str}{p pos cp:Pos}{elt:Expr}{sc:Scope}(gens:List Comprehension):k6 B true k nm (.Assign [.Name x p] (.ListComp elt gens sc cp) pos):=(b9 (nm.lookup x==some .cell) λh=>(r.e true nm (.ListComp elt gens sc cp)).bind λa=>some ⟨_,.assign a.2 (.inr (i6.1 h)) λenv Se=>MD (p:=p) (pos:=cp) (sc:=sc) Se h⟩).or
 (b9 (isLocal nm x) λh=>b9 (p.line==cp.line) λh1=>b9 (E4 sc x) λh2=>Bl (F:=λg=>{m:SW//cT B true k nm (.Assign [.Name x p] (.ListComp elt g sc cp) pos) m}) gens λt i is=>
  (BB r t i is sc).bind λc=>(r.e true (fW sc.names) elt).bind λa=>some ⟨_,.Mj .list c.N c.i c.tg c.t c.ifs (.list a.2) L0 c.s (oJ h) λenv Se=>MT Se h h1 h2⟩)
noncomputable def agY{x:Str}{p pos cp:Pos}{ek ev:Expr}{sc:Scope}(gens:List Comprehension):k6 B true k nm (.Assign [.Name x p] (.DictComp ek ev gens sc cp) pos):=(b9 (nm.lookup x==some .cell) λh=>(r.e true nm (.DictComp ek ev gens sc cp)).bind λa=>some ⟨_,.assign a.2 (.inr (i6.1 h)) λenv Se=>MD (p:=p) (pos:=cp) (sc:=sc) Se h⟩).or
 (b9 (isLocal nm x) λh=>b9 (p.line==cp.line) λh1=>b9 (E4 sc x) λh2=>Bl (F:=λg=>{m:SW//cT B true k nm (.Assign [.Name x p] (.DictComp ek ev g sc cp) pos) m}) gens λt i is=>
  (BB r t i is sc).bind λc=>(r.e true (fW sc.names) ek).bind λa=>(r.e true (fW sc.names) ev).bind λb=>some ⟨_,.Mj .dict c.N c.i c.tg c.t c.ifs (.dict a.2 b.2) LZ c.s (oJ h) λenv Se=>MT Se h h1 h2⟩)
noncomputable def agW{x:Str}{p pos:Pos}:∀e,k6 B t k nm (.Assign [.Name x p] e pos):=el (agX r) (lc:=λelt gens sc cp=>oR (f:=λt=>{m:SW//cT B t k nm (.Assign [.Name x p] (.ListComp elt gens sc cp) pos) m}) t (agZ r gens))
 (dc:=λek ev gens sc cp=>oR (f:=λt=>{m:SW//cT B t k nm (.Assign [.Name x p] (.DictComp ek ev gens sc cp) pos) m}) t (agY r gens))
noncomputable def HM{pos:Pos}{tg:Expr}(e:Expr)(hw:∀env,swappedStores [tg] e env=pure none)(h1:∀env,(assignEach [tg] env).map (·.2)=[PySem.assign tg env]):k6 B t k nm (.Assign [tg] e pos):=
 b9 (ok 4 e) λhc=>(r.e t nm e).bind λa=>(r.t true t nm tg).bind λb=>some ⟨_,.V' a.2 b.2 (λenv _=>(lA hc).comp (qY hc) ..) hw h1⟩
noncomputable def ag9{es:List Expr}{c:Nat}{p pos:Pos}(e:Expr):k6 B t k nm (.Assign [.Tuple es c p] e pos):=b9 (ok 3 e) λh=>HM r e ((lA h).aeI (qY h) es c p) λ_=>rfl
theorem afu{a b c d:Expr}(e:a=c)(f:b=d):[a,b]=[c,d]:=e▸f▸rfl
noncomputable def Ro:∀e:Expr,Option {x:Str×Pos//e= .Name x.1 x.2}:=el (λ_=>none) (name:=λx p=>some ⟨(x,p),rfl⟩)
noncomputable def Ha(es:List Expr):Option {x:(Str×Pos)×Str×Pos//es=[.Name x.1.1 x.1.2,.Name x.2.1 x.2.2]}:=match es with
 |[a,b]=>(Ro a).bind λx=>(Ro b).bind λy=>some ⟨(x.1,y.1),afu x.2 y.2⟩
 |_=>none
theorem ah8{es cG:List Expr}{c c':Nat}{p p' pos:Pos}{m:EW}(u:{x:(Str×Pos)×Str×Pos//es=[.Name x.1.1 x.1.2,.Name x.2.1 x.2.2]})(v:{x:(Str×Pos)×Str×Pos//cG=[.Name x.1.1 x.1.2,.Name x.2.1 x.2.2]})(h1:isLocal nm u.1.1.1=true)(h2:isLocal nm u.1.2.1=true)
 (h3:(u.1.2.2.line==u.1.1.2.line)=true)(h4:(u.1.1.1 !=u.1.2.1)=true)(h5:(v.1.1.1 !="__debug__")=true)(q:aV B true k nm (.Tuple cG c' p') m):
 cT B true k nm (.Assign [.Tuple es c p] (.Tuple cG c' p') pos) λg h Q=>m g h λw h'=>rq w h' λvs=>∃x y,vs=[x,y]/\Q .next ((g.set (gq nm u.1.2.1) (some y)).set (gq nm u.1.1.1) (some x)) h':=by
 rcases u with⟨u,rfl⟩;rcases v with⟨v,rfl⟩
 exact .ah7 q (oJ h1) (oJ h2) (λ_=>rfl) λenv Se=>ah9 h1 h2 h3 (bs h4) (bs h5) Se
noncomputable def ag8{c:Nat}{p pos:Pos}(es:List Expr):∀e,k6 B t k nm (.Assign [.Tuple es c p] e pos):=el (ag9 r) (tup:=λcG c' p'=>oR (f:=λt=>{m:SW//cT B t k nm (.Assign [.Tuple es c p] (.Tuple cG c' p') pos) m}) t
 ((Ha es).bind λu=>(Ha cG).bind λv=>b9 (isLocal nm u.1.1.1) λh1=>b9 (isLocal nm u.1.2.1) λh2=>b9 (u.1.2.2.line==u.1.1.2.line) λh3=>b9 (u.1.1.1 !=u.1.2.1) λh4=>b9 (v.1.1.1 !="__debug__") λh5=>(r.e true nm (.Tuple cG c' p')).bind λq=>some ⟨_,ah8 u v h1 h2 h3 h4 h5 q.2⟩))
noncomputable def agw{pos:Pos}(e:Expr):∀tg,k6 B t k nm (.Assign [tg] e pos):=el (λ_=>none) (name:=λ_ _=>agW r e) (tup:=λes _ _=>ag8 r es e) (att:=λ_ _ _=>HM r e (λ_=>rfl) λ_=>rfl) (sub:=λ_ _ _=>HM r e (λ_=>rfl) λ_=>rfl)
noncomputable def agx{pos:Pos}{op:Operator}(e:Expr):∀tg,k6 B t k nm (.AugAssign tg op e pos):=el (λ_=>none) (name:=λx _=>b9 (isLocal nm x) λh=>(r.e t nm e).bind λa=>some ⟨_,.We a.2 (oJ h)⟩)
 (att:=λo n _=>b9 (decide (n∈lY)) λh=>(r.e t nm o).bind λa=>(r.e t nm e).bind λb=>some ⟨_,.Wd G.X a.2 b.2 (cU h)⟩)
noncomputable abbrev DF(B:Bk)(k:Nat)(nm:Nm)(x:Expr):=Option {m:EX//kq B k nm x m}
noncomputable def SJ(e:Expr):DF B k nm e:=(r.e true nm e).bind λa=>some ⟨_,.of a.2⟩
noncomputable def aha:∀e,DF B k nm e:=el (SJ r) (sub:=λo i p=>b9 (ok 6 i) λh=>(r.e true nm o).bind λa=>(r.e true nm i).bind λb=>some ⟨_,.sub a.2 (.of b.2) (lA h).sub⟩)
noncomputable def SH:∀e,DF B k nm e:=el (SJ r) (sub:=λo i p=>b9 (ok 6 i) λh=>(r.e true nm o).bind λa=>(aha r i).bind λb=>some ⟨_,.sub a.2 b.2 (lA h).sub⟩)
noncomputable def ahc{o:Expr}{n:Str}{apos pos sp:Pos}{es:List Expr}:∀q,S.mD.lookup n=q->Option {m:qG//lW B k nm (.Expr (.Call (.Attribute o n apos) es [] pos) sp) m}
 |some (.blt _ _),e=>b9 (ok 2 o) λh3=>b9 (lf es) λh4=>b9 (decide (es.length<30)) λh5=>b9 (apos.endLine==pos.line) λh6=>(SH r o).bind λa=>(r.es true nm es).bind λb=>some ⟨_,ahL G b.2 h3 h4 h5 h6 a.2 e⟩
 |_,_=>none
noncomputable def ahb(st:Stmt):Option {m:qG//lW B k nm st m}:=match st with
 | .Assign [tg] e p=>el (F:=λtg=>Option {m:qG//lW B k nm (.Assign [tg] e p) m}) (λ_=>none) (att:=λo n q=>b9 (ok 4 e) λh=>(SH r e).bind λa=>(r.t true true nm (.Attribute o n q)).bind λb=>some ⟨_,.assign a.2 b.2 (λenv _=>(lA h).comp (qY h) ..) (λ_=>rfl) λ_=>rfl⟩) (x:=tg)
 | .Expr e sp=>el (F:=λe=>Option {m:qG//lW B k nm (.Expr e sp) m}) (λ_=>none) (call:=λf es hZ pos=>Hb (F:=λhZ=>{m:qG//lW B k nm (.Expr (.Call f es hZ pos) sp) m})
  (el (F:=λf=>Option {m:qG//lW B k nm (.Expr (.Call f es [] pos) sp) m}) (λ_=>none) (att:=λo n apos=>ahc G r _ rfl) (x:=f)) hZ) (x:=e)
 |_=>none
noncomputable abbrev Vy(B:Bk)(nm:Nm)(te:Expr):=Option {cs:List String//∀c∈cs,pK B nm te c}
include G in
theorem tk2{es:List Expr}{c:Nat}{p:Pos}(u:{x:(Str×Pos)×Str×Pos//es=[.Name x.1.1 x.1.2,.Name x.2.1 x.2.2]})(h:jz nm "IndexError"=true)(h':jz nm "KeyError"=true)(e:(u.1.1.1=="IndexError")=true)(e':(u.1.2.1=="KeyError")=true):∀d∈["IndexError","KeyError"],pK B nm (.Tuple es c p) d:=by
 rcases u with⟨u,rfl⟩
 dsimp only at e e'
 rw [eq_of_beq e,eq_of_beq e']
 exact air G h h'
include G in
noncomputable def ag5:∀te,Vy B nm te:=el (λ_=>none) (name:=λx _=>(b9 (jz nm "KeyError") λh=>b9 (x=="KeyError") λe=>some ⟨_,eq_of_beq e▸tkK G h⟩).or (b9 (jz nm "IndexError") λh=>b9 (x=="IndexError") λe=>some ⟨_,eq_of_beq e▸tkI G h⟩))
 (tup:=λes _ _=>(Ha es).bind λu=>b9 (jz nm "IndexError") λh=>b9 (jz nm "KeyError") λh'=>b9 (u.1.1.1=="IndexError") λe=>b9 (u.1.2.1=="KeyError") λe'=>some ⟨_,tk2 G u h h' e e'⟩)
noncomputable def ag6{pos:Pos}(b:List Stmt)(hs:List ExceptHandler)(e f:List Stmt):k6 B true k nm (.Try b hs e f pos):=match b,hs,e,f with
 |[st],[.ExceptHandler (some te) none (sF::tQ) _],[],[]=>(ahb G r st).bind λa=>(r.ss false nm (sF::tQ)).bind λb=>(ag5 G te).bind λc=>some ⟨_,.aiF a.2 b.2 c.2⟩
 |_,_,_,_=>some ⟨_,cT.no⟩
noncomputable def agM{tg it:Expr}{a b:List Stmt}{pos:Pos}:k6 B true k nm (.For tg it a b pos):=
 b9 (ok 6 it) λh=>(r.i true nm it).bind λi=>(SF tg).bind λd=>(r.t true true nm tg).bind λt=>(r.ss true nm a).bind λa=>(r.ss true nm b).bind λb=>some ⟨_,.YE i.2 d.2 t.2 a.2 b.2 (lA h).set⟩
noncomputable def rrS(t:Bool)(nm:Nm)(x:Stmt):k6 B t k nm x:=match x with
 | .Assign [tg] e _=>agw r e tg
 | .AugAssign tg _ e _=>agx G r e tg
 | .Return none _=>some ⟨_,.agn⟩
 | .Return (some e) _=>(r.e t nm e).bind λa=>some ⟨_,.ret a.2⟩
 | .Expr e _=>b9 (ok 4 e) λh=>(r.e t nm e).bind λa=>some ⟨_,.expr a.2 (λenv Se=>RE Se) λenv _=>(lA h).comp (qY h) ..⟩
 | .Pass _=>some ⟨_,.pass⟩
 | .Break _=>some ⟨_,.brk⟩
 | .Continue _=>some ⟨_,.cont⟩
 | .If c a b _=>(r.b t nm c).bind λc=>(r.ss t nm a).bind λa=>(r.ss t nm b).bind λb=>some ⟨_,.ZL c.2 a.2 b.2⟩
 | .While c a b _=>(r.b t nm c).bind λc=>(r.ss t nm a).bind λa=>(r.ss t nm b).bind λb=>some ⟨_,.ai6 c.2 a.2 b.2⟩
 | .For tg it a b pos=>oR (f:=λt=>{m:SW//cT B t k nm (.For tg it a b pos) m}) t (agM r)
 | .Try b hs e f pos=>oR (f:=λt=>{m:SW//cT B t k nm (.Try b hs e f pos) m}) t (ag6 G r b hs e f)
 |_=>some ⟨_,cT.no⟩
noncomputable def ag2(t:Bool)(nm:Nm)(x:List Stmt):K8 B t k nm x:=match x with
 |[]=>some ⟨_,.nil⟩
 |[s]=>(r.s t nm s).bind λa=>some ⟨_,.one a.2⟩
 |s::s'::l=>(r.s t nm s).bind λa=>(r.ss t nm (s'::l)).bind λb=>some ⟨_,.cons a.2 b.2⟩
noncomputable def rd{S:Sg}(G:qH B k S)(n:Nat):RD B k:=n.rec ⟨λ_ _ _=>none,λ_ _ _=>none,λ_ _ _=>none,λ_ _ _ _=>none,λ_ _ _=>none,λ_ _ _ _=>none,λ_ _ _ _=>none,λ_ _ _=>none,λ_ _ _=>none⟩
 λ_ r=>⟨rrE G r,agI r,rrB G r,agA r,rrI G r,rrT G r,ag7 r,rrS G r,ag2 r⟩
theorem read{S:Sg}(G:qH B k S){n:Nat}{x:List Stmt}{m:SW}(h:((rd G n).ss true nm x).map (·.1)=some m):fQ B true k nm x m:=(zV.1 h).elim λp z=>z.2▸p.2
end
noncomputable abbrev Sy:={s:Str//PyData.strOk s=true}
noncomputable abbrev ah:=Sy->List Sy
noncomputable abbrev ai:=List Sy
noncomputable abbrev sv(x:Sy):V:=.str x.1
noncomputable abbrev bV:Sy:=⟨"<empty>",by decide+kernel⟩
noncomputable abbrev cH:Sy:=⟨"$end",by decide+kernel⟩
noncomputable abbrev oC:Sy:=⟨"error",by decide+kernel⟩
noncomputable abbrev Xw:Sy:=⟨".",by decide+kernel⟩
noncomputable abbrev iO:Sy:=⟨"S'",by decide+kernel⟩
noncomputable abbrev rows(ks:ai)(f:Sy->V):af:=ks.map λx=>(sv x,f x)
noncomputable def c4(ks:ai)(x:Sy):ai:=if x∈ks then ks else ks++[x]
section
variable{es:af}{v w:V}
theorem Gf(n:v∉es.map (·.1)):cg es v=none:=AW λj z=>z.elim λw e=>n (bg.2 ⟨_,cP e,rfl⟩)
theorem Bu(n:v∉es.map (·.1)):dS es v w=es++[(v,w)]:=So λj z=>z.elim λw e=>n (bg.2 ⟨_,cP e,rfl⟩)
end
noncomputable abbrev p8{α:Type}(kf g:α->V)(xs:List α):af:=xs.map λx=>(kf x,g x)
section
variable{α:Type}{kf g g':α->V}{xs:List α}{x:α}(inj:∀{a b},kf a=kf b->a=b)
include inj
theorem qV(m:x∈xs):cg (p8 kf g xs) (kf x)=some (g x):=by
 induction xs with
 |nil=>cases m
 |cons y ks ih=>exact(aN (y=x)).elim (λe=>e▸vu rfl) λn=>(p7 λz=>n (inj z)).trans (ih ((dP.1 m).resolve_left (uF n)))
theorem Ra:kf x∈(p8 kf g xs).map (·.1)↔x∈xs:=⟨λh=>(bg.1 h).elim λp z=>(bg.1 z.1).elim λy w=>inj ((au Prod.fst w.2).trans z.2)▸w.1,λh=>bg.2 ⟨_,bg.2 ⟨x,h,rfl⟩,rfl⟩⟩
theorem Rb(m:x∉xs):cg (p8 kf g xs) (kf x)=none:=Gf λz=>m ((Ra inj).mp z)
theorem G7(m:x∉xs)(w:∀y∈xs,g' y=g y):dS (p8 kf g xs) (kf x) (g' x)=p8 kf g' (xs++[x]):=(Bu λz=>m ((Ra inj).mp z)).trans ((au (·++_) (qy λy hy=>au (Prod.mk (kf y)) (w y hy).symm)).trans (gF (f:=λx=>(kf x,g' x)) (l₁:=xs) (l₂:=[x])).symm)
end
section
variable{x y:Sy}{l ks:ai}{f:Sy->V}{h:H}{a b:L}{o o':O}{Q:Bool->Prop}{vs:aj}{i j n:Nat}{v:V}
theorem oY(h:sv x=sv y):x=y:=wU (V.str.inj h)
theorem fm{n:Nat}(x:Sy):cz n (sv x):=.str x.2
theorem tq:sv x∈l.map sv↔x∈l:=⟨λh=>(bg.1 h).elim λ_ z=>oY z.2▸z.1,λh=>bg.2 ⟨x,h,rfl⟩⟩
theorem Q8(q:Q (decide (x∈l))):yh (sv x) (l.map sv) h Q:=Q3 (fm x) (λ_ hu=>(bg.1 hu).elim λy z=>z.2▸fm y) (λm=>cE (tq.mp m)▸q) λm=>cQ (λz=>m (tq.mpr z))▸q
theorem Np:(x.1==y.1)=decide (x=y):=Cq.2 (i6.trans (Subtype.ext_iff.symm.trans EK.symm))
theorem nX:(rows ks f).length=ks.length:=bx _
theorem tJ(m:x∈ks):cg (rows ks f) (sv x)=some (f x):=qV oY m
theorem yH(m:x∉ks):cg (rows ks f) (sv x)=none:=Rb oY m
theorem kr(h:x∈ks):c4 ks x=ks:=bz h
theorem iD(h:x∉ks):c4 ks x=ks++[x]:=bD h
theorem VN(n:y≠x):c4 (y::ks) x=y::c4 ks x:=(aN (x∈ks)).elim (λm=>(kr (iy _ m)).trans (au _ (kr m).symm)) λm=>(iD λz=>(dP.1 z).elim (λz=>n z.symm) m).trans (au _ (iD m).symm)
theorem fU:y∈c4 ks x↔y∈ks\/y=x:=by
 refine(aN (x∈ks)).elim (λm=>?_) λm=>?_
 ·rw [kr m];exact⟨.inl,λz=>z.elim id λe=>e▸m⟩
 ·rw [iD m];exact bO.trans (fH a6)
theorem nV{α:Type}{l:List α}{x:α}(n:l.Nodup)(m:x∉l):(l++[x]).Nodup:=pp.2 ⟨n,qz _ _,λ_ ha _ hb e=>m (a6.1 hb▸e▸ha)⟩
theorem sw(n:ks.Nodup):(c4 ks x).Nodup:=(aN (x∈ks)).elim (λm=>(kr m).symm▸n) λm=>(iD m).symm▸nV n m
theorem uN:(c4 ks x).length<=ks.length+1:=(aN (x∈ks)).elim (λm=>(kr m).symm▸jj _) λm=>(iD m).symm▸aL cw
theorem SD:dS (rows ks f) (sv x) (f x)=rows (c4 ks x) f:=by
 induction ks with
 |nil=>rfl
 |cons y ks ih=>exact(aN (y=x)).elim (λe=>e▸(vN rfl).trans (au (rows · f) (kr gk).symm)) λn=>(q6 λz=>n (oY z)).trans ((au ((sv y,f y)::·) ih).trans (au (rows · f) (VN n).symm))
theorem qi:(h.upd a o).upd a o'=h.upd a o':=vc λx=>(aN (x=a)).elim (λe=>(bz e).trans (bz e).symm) λn=>(bD n).trans ((bD n).trans (bD n).symm)
theorem aW(e:h a=some o)(n:a≠b):(h.upd b o') a=some o:=(H.bp n).trans e
theorem old_ne(e:h a=some o)(n:h b=none):a≠b:=λz=>cK (z▸e) n
theorem dT(e:h a=some o)(n:h b=none):(h.upd b o') a=some o:=aW e (old_ne e n)
theorem B5(e:h a=some o):h.upd a o=h:=vc λx=>(aN (x=a)).elim (λz=>(bz z).trans (z▸e.symm)) λn=>bD n
theorem lD(e:h a=some (.lst vs)):(Src.lst a).next h i=some vs[i]?:=au (λo=>(o.bind O.row).map λvs:aj=>vs[i]?) e
theorem qg(l:i<=vs.length):(Src.row vs).next h i=some vs[i]?:=bz l
theorem Ti(e:h a=some (.lst vs))(l:i<=vs.length):(Src.ER a).next h i=some (vs[i]?.map λv=>.tup [.int i,v]):=by
 show(((h a).bind O.row).bind λvs=>p0 vs h i).map (Option.map λv=>V.tup [.int i,v])=_
 rw [e];exact au (Option.map (Option.map λv=>V.tup [.int i,v])) (bz l)
theorem Tj(l:i<=vs.length):(Src.ES vs).next h i=some (vs[i]?.map λv=>.tup [.int i,v]):=au (Option.map (Option.map λv=>V.tup [.int i,v])) (bz l:p0 vs h i=_)
theorem HY{es:af}(e:h a=some (.aF es n)):(Src.keys a n es.length).next h i=some (es[i]?.map (·.1)):=(au (λo=>(o.bind O.keys).bind λp=>if p.2=n/\p.1.length=es.length then some (p.1[i]?.map (·.1)) else none) e).trans (bz ⟨rfl,rfl⟩)
end
noncomputable def aM(i:Int):EW:=λ_ h Q=>Q (.int i) h
noncomputable def bR(x:Str):EW:=λ_ h Q=>Q (.str x) h
noncomputable def i8:EW:=λ_ h Q=>Q .none h
noncomputable def hX(b:Bool):EW:=λ_ h Q=>Q (.bool b) h
noncomputable def cR(op:Operator)(a b:EW):EW:=λg h Q=>a g h λx az=>b g az λy aU=>Mt op x y aU Q
noncomputable def lm(m:EW):EW:=λg h Q=>m g h λv az=>Rh v az Q
noncomputable def u5(op:CmpOp)(a b:EW):EW:=λg h Q=>a g h λx az=>b g az λy aU=>xo op x y aU Q
noncomputable def xw(c:BW)(a b:EW):EW:=λg h Q=>c g h λx h'=>if x then a g h' Q else b g h' Q
noncomputable def aD:fZ:=λ_ h Q=>Q [] h
noncomputable def aA(m:EW)(ms:fZ):fZ:=λg h Q=>m g h λv az=>ms g az λvs aU=>Q (v::vs) aU
noncomputable def cx(ms:fZ):EW:=λg h Q=>ms g h λvs az=>vs.length<=1000000/\dJ (.lst vs) az Q
noncomputable def eO(ms:fZ):EW:=λg h Q=>ms g h λvs az=>vs.length<=1000000/\Q (.tup vs) az
noncomputable def fz:EW:=λ_ h Q=>dJ (.aF [] 0) h Q
noncomputable def Nb(k v:EW):EW:=λg h Q=>dJ (.aF [] 0) h λd az=>k g az λkv aU=>v g aU λvv c6=>Bv d kv vv c6 λja=>Q d ja
noncomputable def aE(m:EW)(n:Str):EW:=λg h Q=>m g h λv az=>uP n v az Q
noncomputable def a3(a b:EW):EW:=λg h Q=>a g h λx az=>b g az λy aU=>x8 x y aU Q
noncomputable def nH(a b:EW):EW:=λg h Q=>a g h λx az=>b g az λy aU=>NZ x y aU Q
noncomputable def Nd(a b:EW):EW:=λg h Q=>a g h λx az=>b g az λy aU=>kO x y aU Q
noncomputable def Na(a:EW):EW:=λg h Q=>a g h λx az=>Me x az Q
noncomputable def bv(F:b6)(ms:fZ):EW:=λg h Q=>ms g h λvs az=>F vs az Q
noncomputable def dw(m:EW)(n:Str)(C:CN)(F:b6)(ms:fZ):EW:=λg h Q=>m g h λv az=>zW C n az v/\ms g az λvs aU=>F (v::vs) aU Q
noncomputable def bY(m:EW)(T:String)(F:b6)(ms:fZ):EW:=λg h Q=>m g h λv az=>oa T v az/\ms g az λvs aU=>F (v::vs) aU Q
noncomputable def u6(m:EW):EW:=λg h Q=>m g h λv az=>S3 v az λx=>Q (.str x) az
noncomputable def FF:JW:=λacc _ h Q=>Q (.str acc) h
noncomputable def sY(m:EW)(ms:JW):JW:=λacc g h Q=>m g h λv az=>C5 acc (λx=>ms x g az Q) v
noncomputable def EO(ms:JW):EW:=λg h Q=>ms Str.empty g h Q
noncomputable def E2(js:List (Option Nat))(g:Fm):Fm:=js.map λo=>o.elim none λk=>(g[k]?).join
noncomputable def D0(m:EW):qq:=λl g h Q=>m g h λv h'=>de [.ref l,v] h' λ_ bP=>Q bP
noncomputable def LY(mk mv:EW):qq:=λl g h Q=>mk g h λkv h'=>mv g h' λvv bP=>Bv (.ref l) kv vv bP Q
noncomputable def MQ(mi:IW)(b:Bool)(o:O)(js:List (Option Nat))(tw:TW)(mc:BW)(ma:qq)(g:Fm)(h:H)(Q:L->H->Prop):Prop:=mi g h λsrc az=>src.ok b/\dJ o az λv aU=>Bw v λl=>xq src.next tw mc ma l (E2 js g) aU (Q l)
noncomputable def i7(mi:IW)(b:Bool)(js:List (Option Nat))(tw:TW)(mc:BW)(me:EW):EW:=λg h Q=>MQ mi b (.lst []) js tw mc (D0 me) g h λl h'=>Q (.ref l) h'
noncomputable def EN(mi:IW)(b:Bool)(js:List (Option Nat))(tw:TW)(mc:BW)(mk mv:EW):EW:=λg h Q=>MQ mi b (.aF [] 0) js tw mc (LY mk mv) g h λl h'=>Q (.ref l) h'
noncomputable def dI:BW:=λ_ h Q=>Q true h
noncomputable def uQ:BW:=λ_ h Q=>Q false h
noncomputable def gm(m:BW):BW:=λg h Q=>m g h λb h'=>Q (!b) h'
noncomputable def aT(op:CmpOp)(a b:EW):BW:=λg h Q=>a g h λx az=>b g az λy aU=>xo op x y aU λv c6=>∃c,v= .bool c/\Q c c6
noncomputable def bE(m:EW):BW:=λg h Q=>m g h λv h'=>vW v h' λb=>Q b h'
noncomputable def bB(m:EW):IW:=λg h Q=>m g h λv h'=>Hq v h' Q
noncomputable def p6(F:wj)(ms:fZ):IW:=λg h Q=>ms g h λvs az=>F vs az Q
noncomputable def a5(i:Nat):TW:=λv g h Q=>Q (g.set i (some v)) h
noncomputable def b5(m:EW)(n:Str):TW:=λv g h Q=>m g h λov az=>yL n ov v az λaU=>Q g aU
noncomputable def cu(a b:EW):TW:=λv g h Q=>a g h λov az=>b g az λiv aU=>SV ov iv v aU λc6=>Q g c6
noncomputable def iN(k:Nat)(ts:r9):TW:=λv g h Q=>rq v h λvs=>vs.length=k/\ts vs g h Q
noncomputable def aZ(i:Nat)(m:EW):SW:=λg h Q=>m g h λv h'=>Q .next (g.set i (some v)) h'
noncomputable def aS(t:TW)(m:EW):SW:=λg h Q=>m g h λv h'=>t v g h' λg' bP=>Q .next g' bP
noncomputable def HP(i j:Nat)(m:EW):SW:=λg h Q=>m g h λv h'=>rq v h' λvs=>∃x y,vs=[x,y]/\Q .next ((g.set j (some y)).set i (some x)) h'
noncomputable def tL(op:Operator)(i:Nat)(m:EW):SW:=λg h Q=>an i g h λa az=>m g az λb aU=>xa op a b aU λv c6=>Q .next (g.set i (some v)) c6
noncomputable def q9(op:Operator)(o:EW)(n:Str)(m:EW):SW:=λg h Q=>o g h λov az=>uP n ov az λa aU=>m g aU λb c6=>xa op a b c6 λv ja=>yL n ov v ja λsT=>Q .next g sT
noncomputable def eA(m:EW):SW:=λg h Q=>m g h λv h'=>Q (.ret v) g h'
noncomputable def cM(m:EW):SW:=λg h Q=>m g h λ_ h'=>Q .next g h'
noncomputable def aO:SW:=λg h Q=>Q .next g h
noncomputable def q8:SW:=λg h Q=>Q .brk g h
noncomputable def BD:SW:=λg h Q=>Q .cont g h
noncomputable def jV:SW:=λ_ _ _=>False
noncomputable def a9(c:BW)(a b:SW):SW:=λg h Q=>c g h λx h'=>if x then a g h' Q else b g h' Q
noncomputable def bX(i:IW)(k:Bool)(t:TW)(a b:SW):SW:=λg h Q=>i g h λsrc h'=>src.ok k/\Aw src.next t a b g h' Q
noncomputable def xE(m:EW):EX:=λg h Q _=>m g h Q
noncomputable def n7(a:EW)(b:EX):EX:=λg h Q F=>a g h λx az=>b g az (λy aU=>x8 x y aU Q\/G6 x y aU λc=>F c aU) F
noncomputable def yJ(t:TW)(x:EX)(cs:List String)(mh:SW):SW:=λg h Q=>x g h (λv h'=>t v g h' λg' bP=>Q .next g' bP) λc h'=>c∈cs/\mh g h' Q
noncomputable def BF(x:EX)(T:String)(F:b6)(ms:fZ)(cs:List String)(mh:SW):SW:=λg h Q=>x g h (λv az=>oa T v az/\ms g az λvs aU=>F (v::vs) aU λ_ h'=>Q .next g h') λc h'=>c∈cs/\mh g h' Q
noncomputable abbrev Ks:=List (Nat×V)
noncomputable def bj(ks:Ks)(i:Nat):Option V:=ks.rec none λp _ r=>cond (Nat.beq p.1 i) (some p.2) r
noncomputable def Rn(ks:Ks)(g:Fm):Prop:=∀i v,bj ks i=some v->g[i]?=some (some v)
structure Kn(n:Nat)(ks:Ks)(g:Fm):Prop where
 len:n<=g.length
 at_:Rn ks g
noncomputable abbrev Sub(ks bJ:Ks):Prop:=bJ.map (λp=>bj ks p.1)=bJ.map λp=>some p.2
section
variable{n i:Nat}{ks bJ:Ks}{g:Fm}{v:V}{p:Nat×V}
theorem Gc{q:Prop}(e:bj (p::ks) i=some v)(h1:p.1=i->p.2=v->q)(h2:p.1≠i->bj ks i=some v->q):q:=by
 have e:cond (Nat.beq p.1 i) (some p.2) (bj ks i)=some v:=e
 cases z:Nat.beq p.1 i with
 |true=>rw [z] at e;exact h1 (Dz z) (bc e)
 |false=>rw [z] at e;exact h2 (wD z) e
theorem Gd(e:bj ks i=some v):(i,v)∈ks:=by
 induction ks with
 |nil=>cases e
 |cons p ks ih=>exact Gc e (λa b=>a▸b▸gk) λ_ e=>iy _ (ih e)
theorem Kn.set(K:Kn n ks g)(hi:Nat.blt i n=true):Kn n ((i,v)::ks) (g.set i (some v)):=⟨aw K.len (aL List.length_set.symm),λj w m=>Gc m (λa b=>a▸b▸List.getElem?_set_self (dD (eH hi) K.len)) λa b=>(List.getElem?_set_ne a).trans (K.at_ j w b)⟩
theorem Kn.sub(K:Kn n ks g)(w:Sub ks bJ):Kn n bJ g:=⟨K.len,λi v m=>K.at_ i v (Dq.1 w _ (Gd m))⟩
theorem Kn.dA(l:Nat.ble n g.length=true)(w:ks.map (λp=>g[p.1]?)=ks.map λp=>some (some p.2)):Kn n ks g:=⟨eH l,λ_ _ m=>Dq.1 w _ (Gd m)⟩
end
noncomputable def Ek(ks:Ks)(m:EW)(h:H)(v:V):Prop:=∀g,Rn ks g->∀Q:ab,Q v h->m g h Q
noncomputable def gC(ks:Ks)(m:fZ)(h:H)(vs:aj):Prop:=∀g,Rn ks g->∀Q:aj->H->Prop,Q vs h->m g h Q
noncomputable def Eb(ks:Ks)(m:BW)(h:H)(b:Bool):Prop:=∀g,Rn ks g->∀Q:Bool->H->Prop,Q b h->m g h Q
noncomputable def Ex(ks:Ks)(m:EW)(h:H)(Φ:ab):Prop:=∀g,Rn ks g->∀Q:ab,(∀v h',Φ v h'->Q v h')->m g h Q
noncomputable def Bx(ks:Ks)(m:BW)(h:H)(Φ:Bool->H->Prop):Prop:=∀g,Rn ks g->∀Q:Bool->H->Prop,(∀b h',Φ b h'->Q b h')->m g h Q
noncomputable def Tc(v:V):Bool:=!oK v
section
variable{n i j k:Nat}{ks bJ:Ks}{m m' o:EW}{ms:fZ}{h h':H}{v w:V}{vs us:aj}{c d:BW}{l:L}{b:Bool}{as:ac}{C:CN}{nm:Str}{F:b6}{Φ:ab}{x y z:Int}{s:Str}
theorem xk(e:bj ks i=some v):Ek ks (an i) h v:=λ_ K _ q=>⟨v,K _ _ e,q⟩
theorem bF:Ek ks (aM x) h (.int x):=λ_ _ _ q=>q
theorem df:Ek ks (bR s) h (.str s):=λ_ _ _ q=>q
theorem qo:Ek ks i8 h .none:=λ_ _ _ q=>q
theorem jZ:Ek ks (hX b) h (.bool b):=λ_ _ _ q=>q
theorem ub(p:Ek ks m h (.ref l))(e:h l=some (.inst C as))(ea:as nm=some v):Ek ks (aE m nm) h v:=λg K _ q=>p g K _ (.own e ea q)
theorem e7:gC ks aD h []:=λ_ _ _ q=>q
theorem kS(p:Ek ks m h v)(q:gC ks ms h vs):gC ks (aA m ms) h (v::vs):=λg K _ r=>p g K _ (q g K _ r)
theorem iS(p:Ek ks m h v):gC ks (aA m aD) h [v]:=kS p e7
theorem eE(p:Ek ks m h v)(q:Ek ks m' h w):gC ks (aA m (aA m' aD)) h [v,w]:=kS p (iS q)
theorem j4(p:gC ks ms h vs)(hl:Nat.ble vs.length 1000000=true:=by exact rfl):Ek ks (eO ms) h (.tup vs):=λg K _ q=>p g K _ ⟨eH hl,q⟩
theorem rD(p:Ek ks m h (.int x))(q:Ek ks m' h (.int y))(e:x+y=z):Ek ks (cR .Add m m') h (.int z):=λg K _ r=>p g K _ (q g K _ (.int (e▸r)))
theorem y9(p:Ek ks m h (.int x))(q:Ek ks m' h (.int y))(e:x - y=z):Ek ks (cR .Sub m m') h (.int z):=λg K _ r=>p g K _ (q g K _ (.mk (e▸r)))
theorem UN(p:Ek ks m h (.int x))(e: -x=y):Ek ks (lm m) h (.int y):=λg K _ q=>p g K _ (.mk (e▸q))
theorem fS{op:CmpOp}(p:Ek ks m h v)(q:Ek ks m' h w)(r:∀Q:ab,Q (.bool b) h->xo op v w h Q):Eb ks (aT op m m') h b:=λg K _ z=>p g K _ (q g K _ (r _ ⟨b,rfl,z⟩))
theorem nE(p:Ek ks m h (.int x))(q:Ek ks m' h (.int y))(e:decide (y<x)=b):Eb ks (aT .Gt m m') h b:=fS p q λ_ r=>.mk (e▸r)
theorem qK(p:Ek ks m h (.int x))(q:Ek ks m' h (.int y))(e:decide (x<y)=b):Eb ks (aT .Lt m m') h b:=fS p q λ_ r=>.mk (e▸r)
theorem xc(p:Ek ks m h (.int x))(q:Ek ks m' h (.int y))(e:decide (y<=x)=b):Eb ks (aT .GtE m m') h b:=fS p q λ_ r=>.mk (e▸r)
theorem kD(p:Ek ks m h (.int x))(q:Ek ks m' h (.int y))(e:(x==y)=b):Eb ks (aT .Eq m m') h b:=fS p q λ_ r=>.inl (.int (e▸r))
theorem Wl(p:Ek ks m h (.int x))(q:Ek ks m' h (.int y))(e:(!(x==y))=b):Eb ks (aT .NotEq m m') h b:=fS p q λ_ r=>.int (e▸r)
theorem Ac(p:Ek ks m h (.int x))(e:(x !=0)=b):Eb ks (bE m) h b:=λg K _ q=>p g K _ (.int (e▸q))
theorem rI(p:Ek ks m h (.ref l))(e:h l=some (.lst vs))(hl:vs.length<=1000000)(ez:(vs.length:Int)=z):Ek ks (bv dQ (aA m aD)) h (.int z):=λg K _ q=>p g K _ (.got (.lst (.inl e) hl (ez▸q)))
theorem IL(p:Ek ks m h (.tup vs))(hl:vs.length<=1000000)(ez:(vs.length:Int)=z):Ek ks (bv dQ (aA m aD)) h (.int z):=λg K _ q=>p g K _ (.got (.tup hl (ez▸q)))
theorem tM(hj:j<=1000000):Small j:=⟨m5 (by decide) (gx _),jK.2 hj⟩
theorem yG(hv:vs[j]?=some v):oU vs j=some v:=(au (Option.bind · (vs[·]?)) (Fy (cm.1 hv).1)).trans hv
theorem o9(p:Ek ks m h (.ref l))(q:Ek ks m' h (.int j))(e:h l=some (.lst vs))(ev:vs[j]?=some v)(hj:j<=1000000):Ek ks (a3 m m') h v:=λg K _ r=>p g K _ (q g K _ (.lst (tM hj) (.inl e) (yG ev) r))
theorem IJ(p:Ek ks m h (.tup vs))(q:Ek ks m' h (.int j))(ev:vs[j]?=some v)(hj:j<=1000000):Ek ks (a3 m m') h v:=λg K _ r=>p g K _ (q g K _ (.tup (tM hj) (yG ev) r))
theorem uf{es:af}(p:Ek ks m h (.ref l))(q:Ek ks m' h w)(e:h l=some (.aF es i))(hk:cz 8 w)(ev:cg es w=some v):Ek ks (a3 m m') h v:=λg K _ r=>p g K _ (q g K _ (.aF hk e ev r))
section
variable{xs:ai}{f:Sy->V}{x y:Sy}
theorem lJ(p:Ek ks m h (.ref l))(q:Ek ks m' h (sv x))(e:h l=some (.aF (rows xs f) i))(hx:x∈xs):Ek ks (a3 m m') h (f x):=uf p q e (fm x) (tJ hx)
theorem ow(p:Ek ks m h (sv x))(q:Ek ks m' h (sv y))(e:decide (x=y)=b):Eb ks (aT .Eq m m') h b:=fS p q λ_ r=>.inl (.str ((Np.trans e).symm▸r))
theorem Ep(p:Ek ks m h (sv x))(q:Ek ks m' h (sv y))(e:(!decide (x=y))=b):Eb ks (aT .NotEq m m') h b:=fS p q λ_ r=>.str (((au _ Np).trans e:(!(x.1==y.1))=b).symm▸r)
theorem OG{Q:Bool->Prop}(e:h l=some (.aF (rows xs f) i))(q:Q (decide (x∈xs))):sU (sv x) (.ref l) h Q:=.aF e (fm x) (λz=>cQ (λm=>cK (tJ m) z)▸q) λw z=>cE (ip λm=>cK z (yH m))▸q
theorem uS(p:Ek ks m h (sv x))(q:Ek ks m' h (.ref l))(e:h l=some (.aF (rows xs f) i))(eb:decide (x∈xs)=b):Eb ks (aT .In m m') h b:=fS p q λQ r=>OG (Q:=λb=>Q (.bool b) h) e (eb.symm▸r)
theorem Er(p:Ek ks m h (sv x))(q:Ek ks m' h (.ref l))(e:h l=some (.aF (rows xs f) i))(eb:(!decide (x∈xs))=b):Eb ks (aT .NotIn m m') h b:=fS p q λQ r=>OG (Q:=λb=>Q (.bool (!b)) h) e (eb.symm▸r)
theorem Mn(p:Ek ks m h (sv x))(q:Ek ks m' h (.ref l))(e:h l=some (.lst (xs.map sv)))(eb:decide (x∈xs)=b):Eb ks (aT .In m m') h b:=fS p q λQ r=>.lst (.inl e) (Q8 (Q:=λb=>Q (.bool b) h) (eb.symm▸r))
theorem oy(p:Ek ks m h (sv x))(q:Ek ks m' h (.ref l))(e:h l=some (.lst (xs.map sv)))(eb:(!decide (x∈xs))=b):Eb ks (aT .NotIn m m') h b:=fS p q λQ r=>.lst (.inl e) (Q8 (Q:=λb=>Q (.bool (!b)) h) (eb.symm▸r))
end
theorem qm{es:af}(p:Ek ks m h (.ref l))(q:Ek ks m' h w)(e:h l=some (.aF es i))(hk:cz 8 w)(ev:(cg es w).getD .none=v):Ek ks (bY m "dict" eY (aA m' aD)) h v:=λg K _ r=>p g K _ ⟨.aF e,q g K _ (.got (.two e hk (ev▸r)))⟩
theorem UD{es:af}{dv:V}(p:Ek ks m h (.ref l))(q:gC ks ms h [w,dv])(e:h l=some (.aF es i))(hk:cz 8 w)(ev:(cg es w).getD dv=v):Ek ks (bY m "dict" eY ms) h v:=λg K _ r=>p g K _ ⟨.aF e,q g K _ (.got (.three e hk (ev▸r)))⟩
theorem gb(p:Eb ks c h b){b':Bool}(e:(!b)=b'):Eb ks (gm c) h b':=λg K _ q=>p g K _ (e▸q)
theorem lZ(p:Eb ks c h false):Eb ks (du c d) h false:=λg K _ q=>p g K _ q
theorem hV(p:Eb ks c h true)(q:Eb ks d h b):Eb ks (du c d) h b:=λg K _ r=>p g K _ (q g K _ r)
theorem Et(p:Eb ks c h true):Eb ks (lB c d) h true:=λg K _ q=>p g K _ q
theorem xe(p:Eb ks c h false)(q:Eb ks d h b):Eb ks (lB c d) h b:=λg K _ r=>p g K _ (q g K _ r)
theorem kE:Eb ks dI h true:=λ_ _ _ q=>q
theorem Ml:Eb ks uQ h false:=λ_ _ _ q=>q
theorem kC(p:Ek ks m h (.bool b)):Eb ks (bE m) h b:=λg K _ q=>p g K _ (.bool q)
theorem sB(p:Ek ks m h .none):Eb ks (bE m) h false:=λg K _ q=>p g K _ (.none q)
theorem Ad(p:Ek ks m h v)(e:Tc v=b):Eb ks (aT .IsNot m i8) h b:=fS p qo λQ r=>.mk (show Q (.bool (Tc v)) h from e▸r)
theorem Ae(p:Ek ks m h (.ref l))(e:h l=some (.lst vs))(hl:vs.length<=1000000)(eb:(!vs.isEmpty)=b):Eb ks (bE m) h b:=λg K _ q=>p g K _ (.lst e hl (eb▸q))
theorem Mr(p:Ek ks m h (.tup vs))(hl:vs.length<=1000000)(eb:(!vs.isEmpty)=b):Eb ks (bE m) h b:=λg K _ q=>p g K _ (.tup hl (eb▸q))
theorem pQ{es:af}(p:Ek ks m h (.ref l))(e:h l=some (.aF es i))(hl:es.length<=1000000)(eb:(!es.isEmpty)=b):Eb ks (bE m) h b:=λg K _ q=>p g K _ (.aF e hl (eb▸q))
theorem xd(p:Ek ks m h (.ref l))(e:h l=some (.inst .item as)):Eb ks (bE m) h true:=λg K _ q=>p g K _ (.item e q)
theorem x_call(pa:gC ks ms h vs)(q:∀Q:ab,(∀v h',Φ v h'->Q v h')->F vs h Q):Ex ks (bv F ms) h Φ:=λg K Q z=>pa g K _ (q Q z)
theorem gU(p:Ek ks o h (.ref l))(e:h l=some (.inst C as))(ea:as nm=none)(pa:gC ks ms h vs)(q:∀Q:ab,(∀v h',Φ v h'->Q v h')->F (.ref l::vs) h Q):Ex ks (dw o nm C F ms) h Φ:=λg K Q z=>p g K _ ⟨.mk e ea,pa g K _ (q Q z)⟩
end
noncomputable abbrev Pt:=Fl->Fm->H->Prop
noncomputable def Wk(n:Nat)(ks:Ks)(s:SW)(h:H)(P:Pt):Prop:=∀g,Kn n ks g->s g h P
noncomputable def Wf(n:Nat)(ks:Ks)(h:H)(P:Pt):Prop:=∀g,Kn n ks g->P .next g h
noncomputable def Wc(n:Nat)(ks:Ks)(h:H)(P:Pt):Prop:=∀g,Kn n ks g->P .cont g h
noncomputable def Wb(n:Nat)(ks:Ks)(h:H)(P:Pt):Prop:=∀g,Kn n ks g->P .brk g h
noncomputable def Wr(v:V)(h:H)(P:Pt):Prop:=∀g,P (.ret v) g h
noncomputable def ij(t:SW)(P:Pt):Pt:=λf g h=>f.rec (t g h P) (P .brk g h) (P .cont g h) λv=>P (.ret v) g h
structure Turn(n:Nat)(P P':Pt)(J:Ks->H->Prop):Prop where
 nx:∀{ks bJ h},J bJ h->Sub ks bJ->Wf n ks h P'
 ct:∀{ks bJ h},J bJ h->Sub ks bJ->Wc n ks h P'
 brk:∀{ks h},Wf n ks h P->Wb n ks h P'
 ret:∀{v h},Wr v h P->Wr v h P'
section
variable{n i j k:Nat}{ks bJ:Ks}{m m' o:EW}{ms:fZ}{h h':H}{v w:V}{vs us:aj}{s t:SW}{c d:BW}{P:Pt}{l:L}{b:Bool}{as:ac}{C:CN}{nm:Str}{F:b6}{Φ:ab}{x y z:Int}{g:Fm}
theorem Wf.sub(q:Wf n bJ h P)(e:Sub ks bJ):Wf n ks h P:=λg K=>q g (K.sub e)
theorem Wk.sub(q:Wk n bJ s h P)(e:Sub ks bJ):Wk n ks s h P:=λg K=>q g (K.sub e)
theorem a8(q:Wk n ks s h (ij t P)):Wk n ks (aB s t) h P:=q
theorem bi(q:Wk n ks t h P):Wf n ks h (ij t P):=q
theorem y0(q:Wr v h P):Wr v h (ij t P):=q
theorem Ix(q:Wc n ks h P):Wc n ks h (ij t P):=q
theorem aiZ(q:Wb n ks h P):Wb n ks h (ij t P):=q
theorem bf(q:Wf n ks h P):Wk n ks aO h P:=q
theorem B7(q:Wc n ks h P):Wk n ks BD h P:=q
theorem t5(q:Wb n ks h P):Wk n ks q8 h P:=q
theorem lF(p:Ek ks m h v)(q:Wf n ((i,v)::ks) h P)(hi:Nat.blt i n=true:=by exact rfl):Wk n ks (aZ i m) h P:=λg K=>p g K.at_ _ (q _ (K.set hi))
theorem dC(p:Ek ks m h v)(q:Wk n ((i,v)::ks) t h P)(hi:Nat.blt i n=true:=by exact rfl):Wk n ks (aB (aZ i m) t) h P:=lF (P:=ij t P) p q hi
theorem dO(p:Ex ks m h Φ)(q:∀v h',Φ v h'->Wk n ((i,v)::ks) t h' P)(hi:Nat.blt i n=true:=by exact rfl):Wk n ks (aB (aZ i m) t) h P:=λg K=>p g K.at_ _ λv h' z=>q v h' z _ (K.set hi)
theorem dy(p:Eb ks c h false)(q:Wk n ks t h P):Wk n ks (a9 c s t) h P:=λg K=>p g K.at_ _ (q g K)
theorem cX(p:Eb ks c h true)(q:Wk n ks s h P):Wk n ks (a9 c s t) h P:=λg K=>p g K.at_ _ (q g K)
theorem n6{p:Prop}[Decidable p](e:Eb ks c h (decide p))(q1:p->Wk n ks s h P)(q2:¬p->Wk n ks t h P):Wk n ks (a9 c s t) h P:=
 (Decidable.em p).elim (λz=>cX (cE z▸e) (q1 z)) λz=>dy (cQ z▸e) (q2 z)
theorem io(p:Eb ks c h false)(q:Wk n ks t h P):Wk n ks (aB (a9 c s aO) t) h P:=dy (P:=ij t P) p q
theorem il(p:Ek ks m h v)(q:Wr v h P):Wk n ks (eA m) h P:=λg K=>p g K.at_ _ (q g)
theorem yZ(p:Ex ks m h Φ)(q:∀v h',Φ v h'->Wr v h' P):Wk n ks (eA m) h P:=λg K=>p g K.at_ _ λv h' z=>q v h' z g
theorem vZ(p:Ex ks m h Φ)(q:∀v h',Φ v h'->Wf n ks h' P):Wk n ks (cM m) h P:=λg K=>p g K.at_ _ λv h' z=>q v h' z g K
theorem aiY{x y:V}(p:Ek ks m h (.tup [x,y]))(q:Wk n ((i,x)::(j,y)::ks) t h P)(hi:Nat.blt i n=true:=by exact rfl)(hj:Nat.blt j n=true:=by exact rfl):Wk n ks (aB (HP i j m) t) h P:=λg K=>p g K.at_ _ ⟨_,_,rfl,q _ ((K.set hj).set hi)⟩
theorem kQ(po:Ek ks o h (.ref l))(e:h l=some (.lst us))(hl:us.length<1000000)(pa:Ek ks m h w)(q:Wf n ks (h.upd l (.lst (us++[w]))) P):Wk n ks (cM (bY o "list" de (aA m aD))) h P:=
 λg K=>po g K.at_ _ ⟨.lst e,pa g K.at_ _ (.mk e hl (q g K))⟩
theorem kR{es:af}(p:Ek ks m h v)(po:Ek ks o h (.ref l))(pk:Ek ks m' h w)(e:h l=some (.aF es i))(hl:es.length<=1000000)(hk:cz 8 w)(q:∀i,Wf n ks (h.upd l (.aF (dS es w v) i)) P):Wk n ks (aS (cu o m') m) h P:=
 λg K=>p g K.at_ _ (po g K.at_ _ (pk g K.at_ _ (.aF e hl hk (q _ g K))))
theorem yY{xs:ai}{f:Sy->V}{x:Sy}(p:Ek ks m h (f x))(po:Ek ks o h (.ref l))(pk:Ek ks m' h (sv x))(e:h l=some (.aF (rows xs f) i))(hl:xs.length<=1000000)(q:∀i,Wf n ks (h.upd l (.aF (rows (c4 xs x) f) i)) P):Wk n ks (aS (cu o m') m) h P:=
 kR p po pk e (aw (aL nX) hl) (fm x) (SD (f:=f)▸q)
theorem t7(p:Ek ks m h v)(po:Ek ks o h (.ref l))(e:h l=some (.inst C as))(q:Wf n ks (h.upd l (.inst C (bT as nm v))) P):Wk n ks (aS (b5 o nm) m) h P:=λg K=>p g K.at_ _ (po g K.at_ _ (.mk e (q g K)))
theorem Ca(e:bj ks i=some (.int x))(p:Ek ks m h (.int y))(ez:x+y=z)(q:Wf n ((i,.int z)::ks) h P)(hi:Nat.blt i n=true:=by exact rfl):Wk n ks (tL .Add i m) h P:=λg K=>⟨_,K.at_ _ _ e,p g K.at_ _ (.add (ez.symm▸q _ (K.set hi)))⟩
theorem aiO(e:bj ks i=some (.int x))(p:Ek ks m h (.int y))(ez:x - y=z)(q:Wf n ((i,.int z)::ks) h P)(hi:Nat.blt i n=true:=by exact rfl):Wk n ks (tL .Sub i m) h P:=λg K=>⟨_,K.at_ _ _ e,p g K.at_ _ (.sub (ez.symm▸q _ (K.set hi)))⟩
theorem aiS(p:Ek ks o h (.ref l))(e:h l=some (.inst C as))(a:∀Q:ab,Q (.int x) h->uP nm (.ref l) h Q)(pm:Ek ks m h (.int y))(ez:x+y=z)(q:Wf n ks (h.upd l (.inst C (bT as nm (.int z)))) P):Wk n ks (q9 .Add o nm m) h P:=
 λg K=>p g K.at_ _ (a _ (pm g K.at_ _ (.add (ez.symm▸.mk e (q g K)))))
theorem v4(p:gC ks ms h vs)(hl:vs.length<=1000000)(q:∀k,h (.ay k)=none->Wk n ((i,.ref (.ay k))::ks) t (h.upd (.ay k) (.lst vs)) P)(hi:Nat.blt i n=true:=by exact rfl):Wk n ks (aB (aZ i (cx ms)) t) h P:=
 λg K=>p g K.at_ _ ⟨hl,gA λk hk=>q k hk _ (K.set hi)⟩
theorem Iq(l:L)(f:h l=none)(p:gC ks ms h vs)(hl:vs.length<=1000000)(q:Wk n ((i,.ref l)::ks) t (h.upd l (.lst vs)) P)(hi:Nat.blt i n=true:=by exact rfl):Wk n ks (aB (aZ i (cx ms)) t) h P:=
 λg K=>p g K.at_ _ ⟨hl,gO l f (q _ (K.set hi))⟩
theorem TY(q:∀k,h (.ay k)=none->Wk n ((i,.ref (.ay k))::ks) t (h.upd (.ay k) (.aF [] 0)) P)(hi:Nat.blt i n=true:=by exact rfl):Wk n ks (aB (aZ i fz) t) h P:=λg K=>gA (Q:=λv h'=>t (g.set i (some v)) h' P) λk hk=>q k hk _ (K.set hi)
theorem rB(l:L)(f:h l=none)(q:Wk n ((i,.ref l)::ks) t (h.upd l (.aF [] 0)) P)(hi:Nat.blt i n=true:=by exact rfl):Wk n ks (aB (aZ i fz) t) h P:=λg K=>gO (Q:=λv h'=>t (g.set i (some v)) h' P) l f (q _ (K.set hi))
section
variable{α:Type}{xs a:List α}{u:α}{f:α->V}{src:jQ}{tw:TW}{Inv:List α->Ks->H->Prop}{ix jx:Nat}{kb:Bool}
theorem turn{J:Ks->H->Prop}{X:Fm->H->Prop}(q:∀ks g h,J ks h->Kn n ks g->X g h):Turn n P (yU X P) J:=⟨λI w g K=>q _ g _ I (K.sub w),λI w g K=>q _ g _ I (K.sub w),λq=>q,λq=>q⟩
theorem mid{r:List α}(e:xs=a++u::r):xs[a.length]?=some u/\a.length<xs.length:=by
 subst e
 exact⟨(Ku (cB _)).trans (au (λk=>(u::r)[k]?) (KP _)),cw▸DA (iA _)⟩
theorem qj(B:List α->α->Ks->Ks)(F:List α->α->V)(h0:Inv [] ks h)(hx:∀a x r ks h,Inv a ks h->xs=a++x::r->src h a.length=some (some (F a x)))(hd:∀ks h,Inv xs ks h->src h xs.length=some none)
 (tb:∀{a x r ks g h} {Q:Fm->H->Prop},Inv a ks h->xs=a++x::r->Kn n ks g->(∀g,Kn n (B a x ks) g->Q g h)->tw (F a x) g h Q)
 (step:∀a x r ks h,xs=a++x::r->Inv a ks h->∀P',Turn n P P' (Inv (a++[x]))->Wk n (B a x ks) s h P')(done:∀ks h,Inv xs ks h->Wk n ks t h P)(G:Kn n ks g):Aw src tw s t g h P:=λwO hP=>by
 have key:∀{r a ks g h},xs=a++r->Inv a ks h->Kn n ks g->wO a.length g h:=λ{r}=>by
  induction r with
  |nil=>exact λ{a ks g h} e I K=>hP _ _ _ (by
   cases e.trans (gy a)
   rw [hd ks h I]
   exact done _ _ I g K)
  |cons x r ih=>exact λ{a ks g h} e I K=>hP _ _ _ (by
   rw [hx a x r ks h I e]
   exact tb I e K λg K=>step a x r ks h e I _ (turn λks g h I K=>(cw:(a++[x]).length=a.length+1)▸ih (e.trans (kY a [x] r).symm) I K) g K)
 exact key (a:=[]) rfl h0 G
theorem nU{r:List α}(z:xs=a++u::r):(xs.map f)[a.length]?=some (f u):=eL.trans (au (Option.map f) (mid z).1)
theorem nR:(xs.map f)[xs.length]?=none:=Dk (aL (bx _))
theorem fB(p:Ek ks m h (.ref l))(hl:∀a ks h,Inv a ks h->h l=some (.lst (xs.map f)))(h0:Inv [] bJ h)(step:∀a x r ks h,xs=a++x::r->Inv a ks h->∀P',Turn n P P' (Inv (a++[x]))->Wk n ((ix,f x)::ks) s h P')
 (done:∀ks h,Inv xs ks h->Wk n ks t h P)(e0:Sub ks bJ:=by exact rfl)(hi:Nat.blt ix n=true:=by exact rfl):Wk n ks (bX (bB m) kb (a5 ix) s t) h P:=λg K=>p g K.at_ _ (.lst (.inl (hl _ _ _ h0)) ⟨gh,
 qj (λ_ x ks=>(ix,f x)::ks) (λ_=>f) h0 (λa x r ks h I e=>(lD (hl a ks h I)).trans (au some (nU e))) (λks h I=>(lD (hl _ ks h I)).trans (au some nR)) (λ_ _ K q=>q _ (K.set hi)) step done (K.sub e0)⟩)
theorem B9(p:Ek ks m h (.tup (xs.map f)))(h0:Inv [] bJ h)(step:∀a x r ks h,xs=a++x::r->Inv a ks h->∀P',Turn n P P' (Inv (a++[x]))->Wk n ((ix,f x)::ks) s h P')
 (done:∀ks h,Inv xs ks h->Wk n ks t h P)(e0:Sub ks bJ:=by exact rfl)(hi:Nat.blt ix n=true:=by exact rfl):Wk n ks (bX (bB m) kb (a5 ix) s t) h P:=λg K=>p g K.at_ _ (.tup ⟨gh,
 qj (λ_ x ks=>(ix,f x)::ks) (λ_=>f) h0 (λa x r ks h I e=>(qg (aw (cN (mid e).2) (aL (bx _).symm))).trans (au some (nU e))) (λks h I=>(qg (aL (bx _).symm)).trans (au some nR)) (λ_ _ K q=>q _ (K.set hi)) step done (K.sub e0)⟩)
theorem aiQ{es:af}{d:Nat}(p:Ek ks m h (.ref l))(e:h l=some (.aF es d))(hl:∀a ks h,Inv a ks h->∃cG,h l=some (.aF cG d)/\cG.length=es.length/\cG.map (·.1)=xs.map f)(h0:Inv [] bJ h)(step:∀a x r ks h,xs=a++x::r->Inv a ks h->∀P',Turn n P P' (Inv (a++[x]))->Wk n ((ix,f x)::ks) s h P')
 (done:∀ks h,Inv xs ks h->Wk n ks t h P)(e0:Sub ks bJ:=by exact rfl)(hi:Nat.blt ix n=true:=by exact rfl):Wk n ks (bX (bB m) kb (a5 ix) s t) h P:=λg K=>
 have nx:∀{a ks h},Inv a ks h->∀i,(Src.keys l d es.length).next h i=some (xs.map f)[i]?:=λI i=>(hl _ _ _ I).elim λcG z=>z.2.1▸(HY z.1).trans (au some (eL.symm.trans (au (·[i]?) z.2.2)))
 p g K.at_ _ (.aF e ⟨gh,qj (λ_ x ks=>(ix,f x)::ks) (λ_=>f) h0 (λa x r ks h I e=>(nx I _).trans (au some (nU e))) (λks h I=>(nx I _).trans (au some nR)) (λ_ _ K q=>q _ (K.set hi)) step done (K.sub e0)⟩)
theorem Ik(p:Ek ks m h (.ref l))(hl:∀a ks h,Inv a ks h->h l=some (.lst (xs.map f)))(h0:Inv [] bJ h)(step:∀a x r ks h,xs=a++x::r->Inv a ks h->∀P',Turn n P P' (Inv (a++[x]))->Wk n ((jx,f x)::(ix,.int a.length)::ks) s h P')
 (done:∀ks h,Inv xs ks h->Wk n ks t h P)(e0:Sub ks bJ:=by exact rfl)(hi:Nat.blt ix n=true:=by exact rfl)(hj:Nat.blt jx n=true:=by exact rfl):Wk n ks (bX (p6 qN (aA m aD)) true (iN 2 (dE (a5 ix) (dE (a5 jx) ib))) s t) h P:=λg K=>p g K.at_ _ (.lst (.inl (hl _ _ _ h0)) ⟨rfl,
 qj (λa x ks=>(jx,f x)::(ix,.int a.length)::ks) (λa x=>.tup [.int a.length,f x]) h0 (λa x r ks h I e=>(Ti (hl a ks h I) (aw (cN (mid e).2) (aL (bx _).symm))).trans (au (λo=>some (Option.map _ o)) (nU e)))
  (λks h I=>(Ti (hl _ ks h I) (aL (bx _).symm)).trans (au (λo=>some (Option.map _ o)) nR)) (λ_ _ K q=>⟨rfl,rfl,q _ ((K.set hi).set hj)⟩) step done (K.sub e0)⟩)
theorem aiP(p:Ek ks m h (.tup (xs.map f)))(h0:Inv [] bJ h)(step:∀a x r ks h,xs=a++x::r->Inv a ks h->∀P',Turn n P P' (Inv (a++[x]))->Wk n ((jx,f x)::(ix,.int a.length)::ks) s h P')
 (done:∀ks h,Inv xs ks h->Wk n ks t h P)(e0:Sub ks bJ:=by exact rfl)(hi:Nat.blt ix n=true:=by exact rfl)(hj:Nat.blt jx n=true:=by exact rfl):Wk n ks (bX (p6 qN (aA m aD)) true (iN 2 (dE (a5 ix) (dE (a5 jx) ib))) s t) h P:=λg K=>p g K.at_ _ (.tup ⟨rfl,
 qj (λa x ks=>(jx,f x)::(ix,.int a.length)::ks) (λa x=>.tup [.int a.length,f x]) h0 (λa x r ks h I e=>(Tj (aw (cN (mid e).2) (aL (bx _).symm))).trans (au (λo=>some (Option.map _ o)) (nU e)))
  (λks h I=>(Tj (aL (bx _).symm)).trans (au (λo=>some (Option.map _ o)) nR)) (λ_ _ K q=>⟨rfl,rfl,q _ ((K.set hi).set hj)⟩) step done (K.sub e0)⟩)
theorem Im{I:Nat->Ks->H->Prop}(N:Nat)(p:Ek ks m h (.ref l))(hl:∀i ks h,I i ks h->∃vs,h l=some (.lst vs)/\i<=vs.length/\vs.length<=N)(h0:I 0 bJ h)(step:∀i vs v ks h,h l=some (.lst vs)->vs[i]?=some v->I i ks h->∀P',Turn n P P' (I (i+1))->Wk n ((ix,v)::ks) s h P')
 (done:∀i vs ks h,h l=some (.lst vs)->i=vs.length->I i ks h->Wk n ks t h P)(e0:Sub ks bJ:=by exact rfl)(hi:Nat.blt ix n=true:=by exact rfl):Wk n ks (bX (bB m) kb (a5 ix) s t) h P:=λg K=>(hl _ _ _ h0).elim λvs z=>p g K.at_ _ (.lst (.inl z.1) ⟨gh,λwO hP=>by
 have key:∀{k i ks g h},N - i=k->I i ks h->Kn n ks g->wO i g h:=λ{k}=>by
  induction k with
  |zero=>exact λ{i ks g h} e J K=>hP _ _ _ ((hl i ks h J).elim λvs z=>by
   rw [lD z.1,List.getElem?_eq_none (Nat.le_trans z.2.2 (Nat.le_of_sub_eq_zero e))]
   exact done i vs ks h z.1 (iz z.2.1 (aw z.2.2 (KJ e))) J g K)
  |succ k ih=>exact λ{i ks g h} e J K=>hP _ _ _ ((hl i ks h J).elim λvs z=>by
   rw [lD z.1]
   cases ev:vs[i]? with
   |none=>exact done i vs ks h z.1 (iz z.2.1 (lQ.1 ev)) J g K
   |some v=>exact step i vs v ks h z.1 ev J _ (turn λks g h J K=>ih (BR e) J K) _ (K.set hi))
 exact key rfl h0 (K.sub e0)⟩)
theorem rC{I:Nat->Ks->H->Prop}(N:Nat)(h0:I N bJ h)(step:∀j ks h,I j ks h->(Eb ks c h false/\Wk n ks t h P)\/(Eb ks c h true/\∀P',Turn n P P' (λks h=>∃j',j'<j/\I j' ks h)->Wk n ks s h P'))(e0:Sub ks bJ:=by exact rfl):Wk n ks (o5 c s t) h P:=λg K wO hP=>by
 have key:∀{j ks g h},I j ks h->Kn n ks g->wO g h:=λ{j}=>by
  induction j using Nat.strongRecOn with
  |ind j ih=>exact λ{ks g h} J K=>hP _ _ ((step j ks h J).elim (λz=>z.1 g K.at_ _ (z.2 g K)) λz=>z.1 g K.at_ _ (z.2 _ (turn λks g h J K=>J.elim λj' z=>ih j' z.1 z.2 K) g K))
 exact key h0 (K.sub e0)
end
end
noncomputable def ca(t:Nat)(ts:List Nat):Bool:=ts.any (Nat.beq t)
noncomputable def tP(a b:List Nat):Bool:=a.all λt=>ca t b
noncomputable def jS(a b:List Nat):Bool:=a.all λt=>!ca t b
structure aC(ts:List Nat)(h h':H):Prop where
 old:∀{n o},h (.ay n)=some o->h' (.ay n)=some o
 at_:∀{t} s ix,ca t ts=false->h' (.mk t s ix)=h (.mk t s ix)
noncomputable abbrev Ext(h h':H):Prop:=aC [] h h'
noncomputable def bC(ts:List Nat)(h h':H):Prop:=∀t s ix,ca t ts=true->h' (.mk t s ix)=h (.mk t s ix)
section
variable{ts fq:List Nat}{h h' bP:H}{t n:Nat}{s:Str}{ix:List (Nat×Nat)}{o:O}
theorem fF:ca t ts=true↔t∈ts:=Di.trans ⟨λz=>z.elim λu z=>Dz z.2▸z.1,λm=>⟨t,m,Nat.beq_refl t⟩⟩
theorem jC(w:tP ts fq=true)(m:ca t ts=true):ca t fq=true:=d5.1 w t (fF.mp m)
theorem vR(w:tP ts fq=true)(m:ca t fq=false):ca t ts=false:=j7.2 λz=>j7.1 m (jC w z)
theorem fT(w:jS ts fq=true)(m:ca t ts=true):ca t fq=false:=jU (d5.1 w t (fF.mp m))
theorem dB:L.ay n≠L.mk t s ix:=nofun
theorem dZ:L.mk t s ix≠L.ay n:=nofun
theorem bw{t':Nat}{s':Str}{x9:List (Nat×Nat)}(e:Nat.beq t t'=false):L.mk t s ix≠L.mk t' s' x9:=λz=>wD e (L.mk.inj z).1
theorem kI{t':Nat}{s':Str}{x9:List (Nat×Nat)}(a:ca t ts=false)(b:ca t' ts=true):L.mk t s ix≠L.mk t' s' x9:=λz=>j7.1 a ((L.mk.inj z).1▸b)
theorem aC.refl:aC ts h h:=⟨id,λ_ _ _=>rfl⟩
theorem aC.trans(a:aC ts h h')(b:aC ts h' bP):aC ts h bP:=⟨λe=>b.old (a.old e),λs ix m=>(b.at_ s ix m).trans (a.at_ s ix m)⟩
theorem aC.wide(a:aC ts h h')(w:tP ts fq=true):aC fq h h':=⟨a.old,λs ix m=>a.at_ s ix (vR w m)⟩
theorem aC.of(a:Ext h h'):aC ts h h':=a.wide rfl
theorem aC.upd(a:aC ts h h')(m:ca t ts=true):aC ts h (h'.upd (.mk t s ix) o):=⟨λe=>(H.bp dB).trans (a.old e),λs' x9 n=>(H.bp (kI n m)).trans (a.at_ s' x9 n)⟩
theorem aC.new(a:aC ts h h')(e:h' (.ay n)=none):aC ts h (h'.upd (.ay n) o):=⟨λz=>dT (a.old z) e,λs ix m=>(H.bp dZ).trans (a.at_ s ix m)⟩
theorem aC.ay(a:aC ts h h')(e:h (.ay n)=none):aC ts h (h'.upd (.ay n) o):=⟨λz=>(H.bp (old_ne z e)).trans (a.old z),λs ix m=>(H.bp dZ).trans (a.at_ s ix m)⟩
theorem aC.same(a:aC ts h h')(n:jS fq ts=true):bC fq h h':=λt s ix m=>a.at_ s ix (fT n m)
theorem bC.of(e:Ext h h'):bC ts h h':=λt s ix _=>e.at_ s ix rfl
theorem bC.upd(n:ca t ts=false):bC ts h (h.upd (.mk t s ix) o):=λ_ _ _ m=>H.bp λz=>j7.1 n ((L.mk.inj z).1▸m)
theorem bC.ay:bC ts h (h.upd (.ay n) o):=λ_ _ _ _=>H.bp dZ
theorem bC.trans(a:bC ts h h')(b:bC ts h' bP):bC ts h bP:=λt s ix m=>(b t s ix m).trans (a t s ix m)
theorem bC.sub(a:bC ts h h')(w:tP fq ts=true):bC fq h h':=λt s ix m=>a t s ix (jC w m)
end
section
variable{α:Type}{xs:List α}{F r:α->V}{c:α->Bool}{n N i j k:Nat}{ks b8:Ks}{m me:EW}{mi:IW}{mc:BW}{js:List (Option Nat)}{h h':H}{l:L}{b:Bool}{src:Src}{Φ Ψ:ab}{g:Fm}{v:V}{vs:aj}{G:b6}
noncomputable def Ei(ks:Ks)(mi:IW)(h:H)(src:Src):Prop:=∀g,Rn ks g->∀Q:Src->H->Prop,Q src h->mi g h Q
theorem x3(p:Ek ks m h (.ref l))(e:h l=some (.lst vs)):Ei ks (bB m) h (.lst l):=λg K _ q=>p g K _ (.lst (.inl e) q)
theorem ZH{x:Str}(p:Ek ks m h (.str x)):Ei ks (bB m) h (.row (x.cps.toList.map λc=>.str ⟨#[c]⟩)):=λg K _ q=>p g K _ (.str q)
theorem NY(hl:Nat.ble N js.length=true)(w:b8.map (λp=>(js[p.1]?).join.bind (bj ks))=b8.map λp=>some p.2)(K:Rn ks g):Kn N b8 (E2 js g):=⟨aw (eH hl) (aL (bx _).symm),λi v m=>
 (Vv.1 (Dq.1 w _ (Gd m))).elim λk z=>(eL (f:=λo:Option Nat=>o.elim none λk=>(g[k]?).join)).trans ((au (Option.map λo:Option Nat=>o.elim none λk=>(g[k]?).join) (Option.join_eq_some_iff.mp z.1)).trans (au (λo:Option (Option V)=>some o.join) (K k v z.2)))⟩
theorem aat{Q:H->Prop}(hn:h (.ay n)=none)(hl:xs.length<=1000000)(hs:∀acc i,i<=xs.length->src.next (h.upd (.ay n) (.lst acc)) i=some (xs.map F)[i]?)(hj:Nat.blt j N=true)
 (eb:∀acc x,x∈xs->Eb ((j,F x)::b8) mc (h.upd (.ay n) (.lst acc)) (c x))(ee:∀acc x,x∈xs->c x=true->Ek ((j,F x)::b8) me (h.upd (.ay n) (.lst acc)) (r x))(K:Kn N b8 g)(kj:∀x,Sub ((j,F x)::b8) b8)(q:Q (h.upd (.ay n) (.lst ((xs.filter c).map r)))):
 xq src.next (a5 j) mc (D0 me) (.ay n) g (h.upd (.ay n) (.lst [])) Q:=λP hP=>by
 have key:∀{ys a:List α} {g:Fm} {acc:aj},xs=a++ys->acc.length<=a.length->acc++(ys.filter c).map r=(xs.filter c).map r->Kn N b8 g->P a.length g (h.upd (.ay n) (.lst acc)):=λ{ys}=>by
  induction ys with
  |nil=>exact λ{a g acc} e la ea K=>hP _ _ _ (by
   cases e.trans (gy a)
   rw [hs _ _ (Nat.le_refl _),nR]
   exact(gy acc).symm.trans ea▸q)
  |cons x ys ih=>exact λ{a g acc} e la ea K=>hP _ _ _ (by
   have lt:=(mid e).2
   have mx:x∈xs:=e▸cD _ gk
   have AQ:a.length+1=(a++[x]).length:=(cw (as:=a) (bs:=[x])).symm
   have K':=K.set (v:=F x) hj
   rw [hs _ _ (Nat.le_of_lt lt),nU e]
   refine eb acc x mx _ K'.at_ _ ?_
   cases hc:c x with
   |false=>exact AQ▸ih (e.trans (kY a [x] ys).symm) (aw la (cN (Nat.lt_of_succ_le (aL AQ)))) ((au (λl=>acc++l.map r) (List.filter_cons_of_neg (l:=ys) (j7.1 hc)).symm).trans ea) (K'.sub (kj x))
   |true=>exact ee acc x mx hc _ K'.at_ _ (.mk H.aJ (b7 la (dD lt hl)) (qi.symm▸AQ▸ih (e.trans (kY a [x] ys).symm) (aw (aL cw) (aw (cS la) (aL AQ)))
    ((kY ..).trans ((au (λl=>acc++l.map r) (List.filter_cons_of_pos (l:=ys) hc).symm).trans ea)) (K'.sub (kj x)))))
 exact key (a:=[]) rfl (cB 0) rfl K
inductive fO(h:H)(vs:aj):ab
 |mk{n:Nat}:h (.ay n)=none->fO h vs (.ref (.ay n)) (h.upd (.ay n) (.lst vs))
theorem qn(hi:Ei ks mi h src)(ok:src.ok b)(hs:∀n acc i,h (.ay n)=none->i<=xs.length->src.next (h.upd (.ay n) (.lst acc)) i=some (xs.map F)[i]?)(hl:xs.length<=1000000)(eb:∀n acc x,h (.ay n)=none->x∈xs->Eb ((j,F x)::b8) mc (h.upd (.ay n) (.lst acc)) (c x))
 (ee:∀n acc x,h (.ay n)=none->x∈xs->c x=true->Ek ((j,F x)::b8) me (h.upd (.ay n) (.lst acc)) (r x))(w:b8.map (λp=>(js[p.1]?).join.bind (bj ks))=b8.map λp=>some p.2)(hj:Nat.blt j js.length=true)(kj:∀x,Sub ((j,F x)::b8) b8):Ex ks (i7 mi b js (a5 j) mc me) h (fO h ((xs.filter c).map r)):=λg K Q q=>
 hi g K _ ⟨ok,gA (Q:=λv h'=>Bw v λl=>xq src.next (a5 j) mc (D0 me) l (E2 js g) h' λh=>Q (.ref l) h) λn hn=>aat hn hl (λacc i=>hs n acc i hn) hj (λacc x=>eb n acc x hn) (λacc x=>ee n acc x hn) (NY (Nat.ble_eq_true_of_le (cB _)) w K) kj (q _ _ (.mk hn))⟩
theorem w8:(xs.filter λ_=>true)=xs:=List.filter_eq_self.mpr λ_ _=>rfl
theorem Ch(p:Ex ks m h Ψ)(q:∀v h',Ψ v h'->∀Q:ab,(∀v h',Φ v h'->Q v h')->G [v] h' Q):Ex ks (bv G (aA m aD)) h Φ:=λg K Q z=>p g K _ λv h' w=>q v h' w Q z
end
variable{h h' az bP h2:H}{n i k j d c t ix nr:Nat}{P P':Pt}{ks bJ b8:Ks}{x y S B:Sy}{m m' o e e':EW}{Q Φ:ab}{v w u:V}{I a J K:ak}{b T N ys xs bd rs ds ns:ai}{vs U:aj}{p q:It}{s:SW}{F Fo Bh F':ah}{r:aH}{es:af}{as:ac}{ts:List Nat}{ms:fZ}{bb:Bool}
noncomputable def x5:Str:="abcdefghijklmnopqrstuvwxyzABCDEFGHIJKLMNOPQRSTUVWXYZ0123456789_-"
noncomputable def AH(x:Str):Bool:=decide (0<x.length)&&(decide (x.length<=1000)&&x.cps.toList.all λc=>qh ⟨#[c]⟩ x5)
inductive J7(h:H)(Q:ab):aj->Prop
 |mk{x:Str}:AH x=true->(∀h',Ext h h'->Q (.bool true) h')->J7 h Q [.str x]
noncomputable def wg:b6:=λus h Q=>J7 h Q us
noncomputable def P8:SW:=eA (Eg (u5 .Gt (bv dQ (aA (an 0) aD)) (aM 0)) (bv uO (aA (i7 (bB (an 0)) false [none,none,none] (a5 1) dI (u5 .In (an 1) (bR x5))) aD)))
inductive Lm(h:H)(Q:ab):aj->Prop
 |mk{sl td:L}{b T:ai}{f:Sy->V}{n:Nat}:h sl=some (.lst (b.map sv))->b.length<=1000->h td=some (.aF (rows T f) n)->Q .none h->(∀x,Q (sv x) h)->Lm h Q [.ref sl,.ref td]
noncomputable def CO:b6:=λus h Q=>Lm h Q us
noncomputable def ad9:SW:=aB (a9 (aT .In (a3 (an 0) (an 2)) (an 1)) (eA (a3 (an 0) (an 2))) aO) (tL .Sub 2 (aM 1))
noncomputable def ad':SW:=aB (o5 (aT .GtE (an 2) (aM 0)) ad9 aO) (eA i8)
noncomputable def aea:SW:=aB (aZ 2 (cR .Sub (bv dQ (aA (an 0) aD)) (aM 1))) ad'
noncomputable def QY:SW:=aea
section
variable{us:aj}{a:EW}{op:CmpOp}{b:Bool}{α:Type}{xs:List α}{F:α->V}
theorem ajb(p:Ek ks a h (.bool true))(q:Ex ks m h Φ):Ex ks (Eg a m) h Φ:=λg K Q z=>p g K _ (.bool (q g K Q z))
theorem Uz(p:Ek ks m h v)(q:Ek ks m' h w)(r:∀Q:ab,Q (.bool b) h->xo op v w h Q):Ek ks (u5 op m m') h (.bool b):=λg K _ z=>p g K _ (q g K _ (r _ z))
theorem ajv{x:Str}(p:Ek ks m h (.str x))(hl:x.length<=1000000):Ek ks (bv dQ (aA m aD)) h (.int x.length):=λg K _ q=>p g K _ (.got (.str hl q))
theorem eP(l:xs.length<=k):(xs.map F).length<=k:=aw (aL (bx _)) l
theorem map_lt(l:xs.length<k):(xs.map F).length<k:=b7 (aL (bx _)) l
theorem vz{n:Nat}(l:n<=10000):n<=1000000:=aw l (by decide)
theorem OK(q:wg us h Q):us.length=1/\P8 (us.map some++[none,none]) h λfl _ h'=>Q (c7 fl) h':=by
 cases q with
 | @mk x hx q=>
  have z:=bu hx
  have y:=bu z.2
  have hl:x.length<=1000:=cU y.1
  refine⟨rfl,(yZ (ks:=[(0,.str x)]) (n:=1) (Φ:=λv h'=>v= .bool true/\Ext h h') (ajb (Uz (op:=.Gt) (ajv (xk rfl) (vz (aw hl (by decide)))) bF λQ r=>De.mk (Q:=Q) ((cE (iW.2 (cU z.1))).symm▸r))
   (Ch (qn (xs:=x.cps.toList) (b8:=[]) (F:=λc=>.str ⟨#[c]⟩) (c:=λ_=>true) (r:=λ_=>.bool true) (ZH (xk rfl)) gh (λn acc i hn hi=>qg (aw hi (aL (bx _).symm))) (vz (aw hl (by decide))) (λ_ _ _ _ _=>kE)
    (λn acc c hn hc _=>Uz (op:=.In) (xk rfl) df λQ r=>ph.str (Q:=λb=>Q (.bool b) _) ((d5.1 y.2 c hc:qh ⟨#[c]⟩ x5=true).symm▸r)) rfl rfl λ_=>rfl) λv h' w Q k=>?_)) λv h' w g=>(w.1.symm▸q h' w.2:Q (c7 (.ret v)) h')) _ (.dA rfl rfl)⟩
  cases w with
  |mk hn=>
   have all:((x.cps.toList.filter λ_=>true).map λ_=>true).all id=true:=d5.2 λb m=>(bg.1 m).elim λ_ z=>z.2.symm
   exact .mk (bs:=(x.cps.toList.filter λ_=>true).map λ_=>true) (H.aJ.trans (au (λl=>some (O.lst l)) (gj ..).symm)) (k _ _ ⟨au V.bool all,aC.refl.new hn⟩)
theorem Sv(q:CO us h Q):us.length=2/\QY (us.map some++[none,none]) h λfl _ h'=>Q (c7 fl) h':=by
 cases q with
 | @mk sl td b T f n e1 hb e2 q0 q1=>
  refine⟨rfl,(dC (ks:=[(1,.ref td),(0,.ref sl)]) (n:=3) (y9 (rI (xk rfl) e1 (eP (aw hb (by decide))) (au _ (bx _))) bF rfl) (a8 (rC (bJ:=[(2,.int ((b.length:Int) - 1)),(1,.ref td),(0,.ref sl)]) (I:=λj ks h'=>j<=b.length/\h'=h/\ks=[(2,.int ((j:Int) - 1)),(1,.ref td),(0,.ref sl)]) b.length ⟨cB _,rfl,rfl⟩ λj ks h' I=>?_))) _ (.dA rfl rfl)⟩
  obtain⟨hj,rfl,rfl⟩:=I
  cases j with
  |zero=>exact .inl ⟨xc (xk rfl) bF rfl,bf (bi (il qo λg=>q0))⟩
  |succ j=>
   have em:(((j+1:Nat):Int) - 1)=(j:Nat):=Db (j:Int) 1
   have ei:(b.map sv)[j]?=some (sv b[j]):=eL.trans (au _ (fu hj))
   rw [em]
   have it:Ek [(2,V.int j),(1,.ref td),(0,.ref sl)] (a3 (an 0) (an 2)) h' (sv b[j]):=o9 (xk rfl) (xk rfl) e1 ei (vz (aw (cN (dD hj hb)) (by decide)))
   exact .inr ⟨xc (xk rfl) bF (cE (gx _)),λP' t=>a8 (n6 (p:=b[j]∈T) (uS it (xk rfl) e2 rfl) (λ_=>il it (y0 (t.ret λg=>q1 _))) λ_=>bf (bi (aiO rfl bF rfl (t.nx ⟨j,jM _,cN hj,rfl,rfl⟩ rfl))))⟩
end
noncomputable abbrev aH:=Sy×ai
noncomputable abbrev It:=Nat×Nat
noncomputable abbrev ak:=List It
noncomputable abbrev lb(n:Nat):L:=.mk n Str.empty []
noncomputable abbrev li(n i:Nat):L:=.mk n Str.empty [(i,0)]
noncomputable abbrev ls(n:Nat)(x:Sy):L:=.mk n x.1 []
noncomputable abbrev pL(i:Nat):L:=li 2 i
noncomputable abbrev iL(p:It):L:=.mk 3 Str.empty [p]
noncomputable abbrev uL(i:Nat):L:=li 4 i
noncomputable abbrev dL(p:It):L:=.mk 20 Str.empty [p]
noncomputable def eX(fs:List (Str×V))(ext:ac):ac:=λn=>(fs.lookup n).or (ext n)
noncomputable def dz(a b:L)(h h':H):Prop:=∀l,l≠a->l≠b->(h l=none->∀n,l≠.ay n)->h' l=h l
noncomputable def once(acc b:ai):ai:=b.foldl c4 acc
noncomputable def Bo(i:Nat)(x:Sy)(b:ai):List (Str×V):=[("name",sv x),("prod",.tup (b.map sv)),("number",.int i),("line",.int 0),("prec",.tup [.str "right",.int 0]),("len",.int b.length),("usyms",.ref (uL i))]
noncomputable abbrev gR(i:Nat)(x:Sy)(b:ai):(ac)->ac:=eX (Bo i x b)
noncomputable abbrev Hc:List Str:=["lr0_added","reduced","__len__"]
noncomputable abbrev gY(as:ac):Prop:=∀n,n∈Hc->as n=none
inductive Lc(h:H)(Q:ab):aj->Prop
 |mk{i:Nat}{x:Sy}{b:ai}{sl:L}:h sl=some (.lst (b.map sv))->b.length<=100->(∀y∈x::b,y.1.length<=100)->h (pL i)=some (.inst .dg λ_=>none)->sl≠pL i->h (uL i)=none->
  (∀ext h',gY ext->dz (pL i) (uL i) h h'->h' (pL i)=some (.inst .dg (gR i x b ext))->h' (uL i)=some (.lst ((once [] b).map sv))->Q .none h')->Lc h Q [.ref (pL i),.int i,sv x,.ref sl,.tup [.str "right",.int 0],.none,.str "",.int 0]
noncomputable def wf:b6:=λus h Q=>Lc h Q us
noncomputable def Pq:SW:=aB (aS (b5 (an 0) "lr_next") i8) (a9 (bE (aE (an 0) "prod")) (aS (b5 (an 0) "str") (EO (sY (u6 (aE (an 0) "name")) (sY (bR " -> ") (sY (u6 (bY (bR " ") "str" vq (aA (aE (an 0) "prod") aD))) FF))))) (aS (b5 (an 0) "str") (cR .Mod (bR "%s -> <empty>") (aE (an 0) "name"))))
noncomputable def abG:SW:=aB (aS (b5 (an 0) "lr_items") (cx aD)) Pq
noncomputable def Ps:SW:=aB (bX (bB (aE (an 0) "prod")) false (a5 8) (a9 (aT .NotIn (an 8) (aE (an 0) "usyms")) (cM (bY (aE (an 0) "usyms") "list" de (aA (an 8) aD))) aO) aO) abG
noncomputable def abH:SW:=aB (aS (b5 (an 0) "usyms") (cx aD)) Ps
noncomputable def abI:SW:=aB (aS (b5 (an 0) "len") (bv dQ (aA (aE (an 0) "prod") aD))) abH
noncomputable def abJ:SW:=aB (aS (b5 (an 0) "prec") (an 4)) abI
noncomputable def abK:SW:=aB (aS (b5 (an 0) "line") (an 7)) abJ
noncomputable def abL:SW:=aB (aS (b5 (an 0) "file") (an 6)) abK
noncomputable def abM:SW:=aB (aS (b5 (an 0) "callable") i8) abL
noncomputable def abC:SW:=aB (aS (b5 (an 0) "func") (an 5)) abM
noncomputable def abD:SW:=aB (aS (b5 (an 0) "number") (an 1)) abC
noncomputable def abE:SW:=aB (aS (b5 (an 0) "prod") (bv rn (aA (an 3) aD))) abD
noncomputable def abF:SW:=aB (aS (b5 (an 0) "name") (an 2)) abE
noncomputable def Gk:SW:=abF
section
variable{fs:List (Str×V)}{ext:ac}{nm:Str}{a b:L}{o ob:O}{acc:ai}{C:CN}{l:L}{us:aj}
theorem NP(e:fs.lookup nm=some v):eX fs ext nm=some v:=au (Option.or · (ext nm)) e
theorem nK(e:fs.lookup nm=none):eX fs ext nm=ext nm:=au (Option.or · (ext nm)) e
theorem qQ(e:fs.lookup nm=none):bT (eX fs ext) nm v=eX fs (bT ext nm v):=vc λx=>(aN (x=nm)).elim (λz=>by rw [z,nK e,kA,kA]) λz=>(i4 z).trans (au ((fs.lookup x).or ·) (i4 z).symm)
theorem aay(e:fs.lookup nm=some v):(nm,v)∈fs:=by
 induction fs with
 |nil=>cases e
 |cons p r ih=>
  refine(aN (p.1=nm)).elim (λz=>?_) λz=>.tail _ (ih ((by rw [List.lookup_cons,beq_eq_false_iff_ne.mpr λw=>z w.symm] at e;exact e)))
  subst z
  exact bc (Kw.symm.trans e)▸.head _
theorem xH(w:∀p∈fs,as p.1=some p.2):eX fs as=as:=vc λx=>by
 unfold eX
 cases e:fs.lookup x with
 |none=>rfl
 |some v=>exact(w (x,v) (aay e)).symm
theorem gY.set(p:gY as)(hn:nm∉Hc):gY (bT as nm v):=λm hm=>(i4 λe:m=nm=>hn (e▸hm)).trans (p m hm)
theorem dz.refl:dz a b h h:=λ_ _ _ _=>rfl
theorem dz.trans(f:dz a b h h')(g:dz a b h' bP):dz a b h bP:=λl m k w=>(g l m k λz=>w ((f l m k w).symm.trans z)).trans (f l m k w)
theorem dz.upd(f:dz a b h h')(e:l=a\/l=b):dz a b h (h'.upd l o):=λx m n w=>(H.bp λz=>e.elim (λe=>m (z.trans e)) λe=>n (z.trans e)).trans (f x m n w)
theorem dz.ay(f:dz a b h h')(e:h (.ay n)=none):dz a b h (h'.upd (.ay n) o):=λx m k w=>(H.bp λz:x= .ay n=>w (z▸e) n z).trans (f x m k w)
theorem dz.old(f:dz a b h h')(e:h l=some o)(m:l≠a)(k:l≠b):h' l=some o:=(f l m k λz=>cK e z).trans e
theorem dz.at_(f:dz a b h h'){t:Nat}{s:Str}{ix:List (Nat×Nat)}(m:L.mk t s ix≠a)(k:L.mk t s ix≠b):h' (.mk t s ix)=h (.mk t s ix):=f _ m k λ_ _=>dZ
theorem ae3:(once acc bd).length<=acc.length+bd.length:=by
 induction bd generalizing acc with
 |nil=>exact cB _
 |cons x b ih=>exact aw ih (aw (uB uN _) (aL (uD ..)))
theorem vy{y:Sy}:y∈once acc bd↔y∈acc\/y∈bd:=by
 induction bd generalizing acc with
 |nil=>exact⟨.inl,λz=>z.elim id λz=>absurd z a0⟩
 |cons x b ih=>exact ih.trans ((qZ fU).trans (tD.trans (fH dP.symm)))
theorem aad{z:Str}(hb:∀y∈bd,y.1.length<=100):((bd.map (·.1)).map (·.length)).sum+(bd.map (·.1)).length*z.length<=bd.length*(100+z.length):=by
 induction bd with
 |nil=>simp
 |cons y b ih=>
  show(y.1.length+((b.map (·.1)).map (·.length)).sum)+((b.map (·.1)).length+1)*z.length<=(b.length+1)*(100+z.length)
  rw [Nat.succ_mul,Nat.succ_mul,Nat.add_comm y.1.length,Nat.add_add_add_comm]
  exact fw (ih λx hx=>hb x (.tail _ hx)) (uB (hb y (.head _)) _)
theorem jF(p:Ek ks m h (.ref l))(e:h l=some (.inst C (eX fs ext)))(ea:fs.lookup nm=some v):Ek ks (aE m nm) h v:=ub p e (NP ea)
theorem im{o:EW}{t:SW}(p:Ek ks m h v)(po:Ek ks o h (.ref l))(e:h l=some (.inst C as))(q:Wk n ks t (h.upd l (.inst C (bT as nm v))) P):Wk n ks (aB (aS (b5 o nm) m) t) h P:=t7 (P:=ij t P) p po e q
theorem Ub{o:EW}{t:SW}(p:Ex ks m h (fO h vs))(po:∀{h},Ek ks o h (.ref l))(e:∀k,h (.ay k)=none->(h.upd (.ay k) (.lst vs)) l=some (.inst C as))(q:∀k,h (.ay k)=none->Wk n ks t ((h.upd (.ay k) (.lst vs)).upd l (.inst C (bT as nm (.ref (.ay k))))) P):Wk n ks (aB (aS (b5 o nm) m) t) h P:=
 λg K=>p g K.at_ _ λv h' z=>z.casesOn λ{k} hk=>po g K.at_ _ (.mk (e k hk) (q k hk g K))
inductive uh(a:L)(h:H)(o:O):ab
 |mk:uh a h o (.ref a) (h.upd a o)
theorem v8(f:h a=none)(p:gC ks ms h vs)(hl:vs.length<=1000000):Ex ks (cx ms) h (uh a h (.lst vs)):=λg K Q z=>p g K _ ⟨hl,gO a f (z _ _ .mk)⟩
theorem v7(f:h a=none):Ex ks fz h (uh a h (.aF [] 0)):=λg K Q z=>gO (Q:=Q) a f (z _ _ .mk)
theorem v9(p:gC ks ms h vs)(hl:vs.length<=1000000):Ex ks (cx ms) h (fO h vs):=λg K Q z=>p g K _ ⟨hl,gA λk hk=>z _ _ (.mk hk)⟩
theorem ajw(p:Ek ks m h (.tup vs))(hl:vs.length<=1000000):Ex ks (bv yf (aA m aD)) h (fO h vs):=λg K Q z=>p g K _ (.tup hl (gA λk hk=>z _ _ (.mk hk)))
theorem v5{o:EW}{t:SW}(p:Ex ks m h (uh a h ob))(po:∀{h},Ek ks o h (.ref l))(e:(h.upd a ob) l=some (.inst C as))(q:Wk n ks t ((h.upd a ob).upd l (.inst C (bT as nm (.ref a)))) P):Wk n ks (aB (aS (b5 o nm) m) t) h P:=
 λg K=>p g K.at_ _ λv h' z=>z.casesOn (po g K.at_ _ (.mk e (q g K)))
end
noncomputable def Ej(ks:Ks)(mj:JW)(h:H)(acc r:Str):Prop:=∀g,Rn ks g->∀Q:ab,Q (.str r) h->mj acc g h Q
section
variable{fs:List (Str×V)}{ext:ac}{nm:Str}{a b:L}{o:O}{acc:ai}{t:SW}{C:CN}{l:L}{us:aj}{mj:JW}{r u z:Str}{c:BW}{p:Prop}[Decidable p]{α:Type}{f:α->V}{xs:List α}{e:α}{oe:EW}
theorem o3(e:Eb ks c h (!decide p))(q1:¬p->Wk n ks s h P)(q2:p->Wk n ks t h P):Wk n ks (a9 c s t) h P:=
 (Decidable.em p).elim (λz=>dy ((by rw [decide_eq_true z] at e;exact e):Eb ks c h false) (q2 z)) λz=>cX ((by rw [decide_eq_false z] at e;exact e):Eb ks c h true) (q1 z)
theorem V9:(h.upd l (.lst (xs.map f))).upd l (.lst (xs.map f++[f e]))=h.upd l (.lst ((xs++[e]).map f)):=qi.trans (au (λr=>h.upd l (.lst r)) (gF (f:=f) (l₁:=xs) (l₂:=[e])).symm)
theorem t4(po:Ek ks oe (h.upd l (.lst (xs.map f))) (.ref l))(hl:xs.length<1000000)(pa:Ek ks m (h.upd l (.lst (xs.map f))) (f e))(q:Wf n ks (h.upd l (.lst ((xs++[e]).map f))) P):Wk n ks (cM (bY oe "list" de (aA m aD))) (h.upd l (.lst (xs.map f))) P:=kQ po H.aJ (map_lt hl) pa (V9▸q)
theorem OP:Ej ks FF h r r:=λ_ _ _ q=>q
theorem vp{acc:Str}(p:Ek ks m h (.str u))(ha:acc.length<=j)(hx:u.length<=k)(hl:Nat.ble (j+k) 1000000=true)(q:(acc++u).length<=j+k->Ej ks mj h (acc++u) r):Ej ks (sY m mj) h acc r:=λg K _ w=>
 have hs:(acc++u).length<=j+k:=(strLen_append acc u).symm▸fw ha hx
 p g K _ (.mk (aw hs (eH hl)) (q hs g K _ w))
theorem UG(p:Ej ks mj h Str.empty r):Ek ks (EO mj) h (.str r):=p
theorem IO(p:Ek ks m h (.str u))(hl:u.length<=100000):Ek ks (u6 m) h (.str u):=λg K _ q=>p g K _ (.str hl q)
theorem ajr(p:Ek ks m h (.tup (bd.map sv)))(hl:JoinOk z (bd.map (·.1))):Ek ks (bY (bR z) "str" vq (aA m aD)) h (.str (Txt.join z (bd.map (·.1)))):=λg K _ q=>⟨.str,p g K _ ((gj:(bd.map (·.1)).map V.str=_)▸.tup hl q)⟩
theorem Yr(w:∀p∈fs,as p.1=some p.2)(e:h l=some (.inst C as)):h l=some (.inst C (eX fs as)):=(xH w).symm▸e
theorem Hs(na:gY ext)(e:(Bo i x bd).lookup nm=none)(hn:nm∉Hc):bT (gR i x bd ext) nm v=gR i x bd (bT ext nm v)/\gY (bT ext nm v):=⟨qQ e,na.set hn⟩
section
variable{A:L}(pe:Ek ks m h (.ref A))(ae:h A=some (.inst C (gR i x bd ext)))
include pe ae
theorem Ck:Ek ks (aE m "name") h (sv x):=jF pe ae (by kernel_rfl)
theorem ug:Ek ks (aE m "prod") h (.tup (bd.map sv)):=jF pe ae (by kernel_rfl)
theorem ajC:Ek ks (aE m "number") h (.int i):=jF pe ae (by kernel_rfl)
theorem UR:Ek ks (aE m "usyms") h (.ref (uL i)):=jF pe ae (by kernel_rfl)
end
theorem Vz(na:gY ext)(hb:bd.length<=100)(hy:∀y∈x::bd,y.1.length<=100)(e:h (pL i)=some (.inst .dg (gR i x bd ext)))(q:∀ext,gY ext->Wf 9 [(0,.ref (pL i))] (h.upd (pL i) (.inst .dg (gR i x bd ext))) P):Wk 9 [(0,.ref (pL i))] Pq h P:=by
 have k1:=Hs (v:=.none) (i:=i) (x:=x) (bd:=bd) (nm:="lr_next") na (by kernel_rfl) (by decide+kernel)
 refine im qo (xk rfl) e (k1.1.symm▸?_)
 have Rp:Ek [(0,.ref (pL i))] (aE (an 0) "name") (h.upd (pL i) (.inst .dg (gR i x bd (bT ext "lr_next" .none)))) (sv x):=Ck (xk rfl) H.aJ
 have Hy:Ek [(0,.ref (pL i))] (aE (an 0) "prod") (h.upd (pL i) (.inst .dg (gR i x bd (bT ext "lr_next" .none)))) (.tup (bd.map sv)):=ug (xk rfl) H.aJ
 have fin:∀s:Str,Wf 9 [(0,.ref (pL i))] ((h.upd (pL i) (.inst .dg (gR i x bd (bT ext "lr_next" .none)))).upd (pL i) (.inst .dg (bT (gR i x bd (bT ext "lr_next" .none)) "str" (.str s)))) P:=λs=>by
  have k2:=Hs (v:=.str s) (i:=i) (x:=x) (bd:=bd) (nm:="str") k1.2 (by kernel_rfl) (by decide+kernel)
  rw [qi,k2.1]
  exact q _ k2.2
 cases bd with
 |nil=>exact dy (Mr Hy (bH _) rfl) (t7 (λg K _ r=>Rp g K _ (.str (aw (hy x (.head _)) (by decide)) r)) (xk rfl) H.aJ (fin _))
 |cons y b=>
  have hl:=aad (z:=" ") λz hz=>hy z (.tail _ hz)
  rw [show(Str.ofString " ").length=1 by decide+kernel] at hl
  have hl:=aw hl (jN _ hb)
  refine cX (Mr Hy (eP (aw hb (by decide))) rfl) (t7 (UG (vp (IO Rp (aw (hy x (.head _)) (by decide))) (cB 0) (hy x (.head _)) rfl λh1=>vp df h1 (k:=4) (by decide+kernel) rfl λh2=>vp (IO (ajr Hy ?_) ?_) h2 (k:=10100) ?_ rfl λ_=>OP)) (xk rfl) H.aJ (fin _))
  ·exact aw ((show(Str.ofString " ").length=1 by decide+kernel)▸hl) (by decide)
  all_goals
   show(Builtin.Str.glued " " _).length<=_
   rw [StrLaws.glued_eq_join]
   exact aw (StrLaws.join_length_le _ _) (aw ((show(Str.ofString " ").length=1 by decide+kernel)▸hl) (by decide))
inductive DW(i:Nat)(h:H):ai->Ks->H->Prop
 |mk{a acc:ai}:once [] a=acc->DW i h a [(0,.ref (pL i))] (h.upd (uL i) (.lst (acc.map sv)))
theorem RV:once [] (acc++[y])=c4 (once [] acc) y:=wq
theorem VA(na:gY ext)(hb:bd.length<=100)(hy:∀y∈x::bd,y.1.length<=100)(e:h (pL i)=some (.inst .dg (gR i x bd ext)))(eu:h (uL i)=some (.lst []))
 (q:∀ext h',gY ext->dz (pL i) (uL i) h h'->h' (pL i)=some (.inst .dg (gR i x bd ext))->h' (uL i)=some (.lst ((once [] bd).map sv))->Wf 9 [(0,.ref (pL i))] h' P):Wk 9 [(0,.ref (pL i))] Ps h P:=by
 refine a8 (B9 (Inv:=DW i h) (ug (xk rfl) e) (bJ:=[(0,.ref (pL i))]) ((B5 eu).subst (motive:=DW i h [] _) (.mk (acc:=[]) rfl)) (λa y r ks h' es I P' t=>?_) λks h' I=>?_)
 ·cases I with
  | @mk acc ea=>
   have oE:Ek [(8,sv y),(0,.ref (pL i))] (aE (an 0) "usyms") (h.upd (uL i) (.lst (acc.map sv))) (.ref (uL i)):=UR (xk rfl) (aW e (bw rfl))
   exact o3 (oy (xk rfl) oE H.aJ rfl) (λm=>t4 oE (b7 (aw (ea▸aw ae3 (aL (og _))) (cN (mid es).2)) (b7 hb (by decide))) (xk rfl) (t.nx (.mk (RV.trans (ea▸iD (ea.symm▸m)))) rfl)) λm=>bf (t.nx (.mk (RV.trans ((au (c4 · y) ea).trans (kr m)))) rfl)
 ·cases I with
  | @mk acc ea=>
   refine bf (bi (Ub (v9 e7 (bH _)) (xk rfl) (λk hk=>dT (aW e (bw rfl)) hk) λk hk=>?_))
   have k1:=Hs (v:=.ref (.ay k)) (i:=i) (x:=x) (bd:=bd) (nm:="lr_items") na (by kernel_rfl) (by decide+kernel)
   refine Vz k1.2 hb hy (k1.1▸H.aJ) λext na=>?_
   rw [qi]
   exact q _ _ na (((dz.refl.upd (.inr rfl)).ay ((H.bp dB).symm.trans hk)).upd (.inl rfl)) H.aJ (ea▸aW (dT H.aJ hk) (bw rfl))
theorem Ld(q:wf us h Q):Gk (us.map some++[none,none,none]) h λfl _ h'=>Q (c7 fl) h':=by
 cases q with
 | @mk i x bd sl el hb hy eo ne un q=>
  have tE:∀{o},Ek [(7,.int 0),(6,.str ""),(5,.none),(4,.tup [.str "right",.int 0]),(3,.ref sl),(2,sv x),(1,.int i),(0,.ref (pL i))] (bv rn (aA (an 3) aD)) (h.upd (pL i) o) (.tup (bd.map sv)):=λ{o} g K _ r=>⟨_,K 3 _ rfl,.mk (.inl (aW el ne)) (eP (aw hb (by decide))) r⟩
  refine(im (n:=9) (xk rfl) (xk rfl) eo (im tE (xk rfl) H.aJ (im (xk rfl) (xk rfl) H.aJ (im (xk rfl) (xk rfl) H.aJ (im qo (xk rfl) H.aJ (im (xk rfl) (xk rfl) H.aJ (im (xk rfl) (xk rfl) H.aJ (im (xk rfl) (xk rfl) H.aJ ?_)))))))) _ (Kn.dA (ks:=[(7,.int 0),(6,.str ""),(5,.none),(4,.tup [.str "right",.int 0]),(3,.ref sl),(2,sv x),(1,.int i),(0,.ref (pL i))]) rfl rfl)
  simp only [qi]
  refine im (IL (z:=bd.length) (ub (v:=.tup (bd.map sv)) (xk rfl) H.aJ (by kernel_rfl)) (eP (aw hb (by decide))) (au _ (bx _))) (xk rfl) H.aJ (v5 (v8 (a:=uL i) ?_ e7 (bH _)) (xk rfl) (aW H.aJ (bw rfl)) ?_)
  ·exact(H.bp (bw rfl)).trans ((H.bp (bw rfl)).trans un)
  ·refine(VA (x:=x) (bd:=bd) ?_ hb hy (Yr ?_ H.aJ) (aW H.aJ (bw rfl)) λext h' na f e1 e2 g K=>q ext h' na (.trans (((dz.refl.upd (.inl rfl)).upd (.inl rfl)).upd (.inr rfl) |>.upd (.inl rfl)) f) e1 e2:Wk 9 [(0,.ref (pL i))] _ _ _).sub rfl
   ·exact bq.2 ⟨by kernel_rfl,bq.2 ⟨by kernel_rfl,bq.2 ⟨by kernel_rfl,λ_ z=>absurd z a0⟩⟩⟩
   ·exact bq.2 ⟨by kernel_rfl,bq.2 ⟨by kernel_rfl,bq.2 ⟨by kernel_rfl,bq.2 ⟨by kernel_rfl,bq.2 ⟨by kernel_rfl,bq.2 ⟨by kernel_rfl,bq.2 ⟨by kernel_rfl,λ_ z=>absurd z a0⟩⟩⟩⟩⟩⟩⟩
end
noncomputable def jt(b:ai)(j:Nat):ai:=b.take j++Xw::b.drop j
noncomputable def x4(i j:Nat)(x:Sy)(b:ai):List (Str×V):=[("name",sv x),("prod",.tup ((jt b j).map sv)),("number",.int i),("lr_index",.int j),("lookaheads",.ref (dL (i,j))),("len",.int (b.length+1)),("usyms",.ref (uL i))]
noncomputable abbrev qU(i j:Nat)(x:Sy)(b:ai):(ac)->ac:=eX (x4 i j x b)
inductive J9(h:H)(Q:ab):aj->Prop
 |mk{i j:Nat}{x:Sy}{b:ai}{ext:ac}:h (pL i)=some (.inst .dg (gR i x b ext))->j<=b.length->b.length<=100->h (iL (i,j))=some (.inst .item λ_=>none)->h (dL (i,j))=none->
  (∀ext h',dz (iL (i,j)) (dL (i,j)) h h'->h' (iL (i,j))=some (.inst .item (qU i j x b ext))->h' (dL (i,j))=some (.aF [] 0)->Q .none h')->J9 h Q [.ref (iL (i,j)),.ref (pL i),.int j]
noncomputable def zw:b6:=λus h Q=>J9 h Q us
noncomputable def abv:SW:=aB (aS (b5 (an 0) "len") (bv dQ (aA (aE (an 0) "prod") aD))) (aS (b5 (an 0) "usyms") (aE (an 1) "usyms"))
noncomputable def abw:SW:=aB (aS (b5 (an 0) "prod") (bv rn (aA (aE (an 0) "prod") aD))) abv
noncomputable def Pp:SW:=aB (cM (bY (aE (an 0) "prod") "list" AL (aA (an 2) (aA (bR ".") aD)))) abw
noncomputable def abx:SW:=aB (aS (b5 (an 0) "lookaheads") fz) Pp
noncomputable def aby:SW:=aB (aS (b5 (an 0) "lr_index") (an 2)) abx
noncomputable def abz:SW:=aB (aS (b5 (an 0) "number") (aE (an 1) "number")) aby
noncomputable def abA:SW:=aB (aS (b5 (an 0) "prod") (bv yf (aA (aE (an 1) "prod") aD))) abz
noncomputable def abB:SW:=aB (aS (b5 (an 0) "name") (aE (an 1) "name")) abA
noncomputable def Po:SW:=abB
section
variable{oe:EW}{l:L}{us:aj}{C:CN}{ext:ac}{t:SW}
theorem xu(h:j<=b.length):(jt b j).length=b.length+1:=cw.trans ((au (·+(b.drop j).length.succ) (Do h)).trans (au (λn=>j+(n+1)) rW |>.trans (au (·+1) (Nat.add_sub_cancel' h))))
theorem M6(h:j<=b.length):(jt b j)[j+1]?=b[j]?:=by
 have l:=Do h
 refine(Ku (l.symm▸jj j)).trans ?_
 rw [l,Nat.add_sub_cancel_left]
 exact List.getElem?_drop
theorem Xy(h:j<=b.length)(hk:k<j):(jt b j)[k]?=b[k]?:=(uz ((Do h).symm▸hk)).trans (List.getElem?_take_of_lt hk)
section
variable{A:L}(pe:Ek ks m h (.ref A))(ae:h A=some (.inst C (qU i j x b ext)))
include pe ae
theorem ajp:Ek ks (aE m "prod") h (.tup ((jt b j).map sv)):=jF pe ae (by kernel_rfl)
theorem ajo:Ek ks (aE m "number") h (.int i):=jF pe ae (by kernel_rfl)
theorem ajm:Ek ks (aE m "lr_index") h (.int j):=jF pe ae (by kernel_rfl)
end
theorem ajP(p:Ek ks m h (.ref l))(e:h l=some (.lst vs))(hl:vs.length<=1000000):Ek ks (bv rn (aA m aD)) h (.tup vs):=λg K _ q=>p g K _ (.mk (.inl e) hl q)
theorem aiT{m':EW}(p:Ek ks oe h (.ref l))(e:h l=some (.lst vs))(hj:j<=vs.length)(hl:vs.length<1000000)(q:Ek ks m h (.int j))(r:Ek ks m' h v)(w:Wk n ks t (h.upd l (.lst (vs.take j++v::vs.drop j))) P):Wk n ks (aB (cM (bY oe "list" AL (aA m (aA m' aD)))) t) h P:=
 λg K=>p g K.at_ _ ⟨.lst e,q g K.at_ _ (r g K.at_ _ (.mk e hj hl (w g K)))⟩
noncomputable def i5(i j:Nat)(x:Sy)(k:Nat):ac:=bT (bT (bT (bT (bT (λ_=>none) "name" (sv x)) "prod" (.ref (.ay k))) "number" (.int i)) "lr_index" (.int j)) "lookaheads" (.ref (dL (i,j)))
noncomputable abbrev FU(i j:Nat):Ks:=[(2,.int j),(1,.ref (pL i)),(0,.ref (iL (i,j)))]
theorem Vk(e:h (iL (i,j))=some (.inst .item (i5 i j x k)))(lk:h (.ay k)=some (.lst (b.map sv)))(pe:h (pL i)=some (.inst .dg (gR i x b ext)))(hj:j<=b.length)(hb:b.length<=100)
 (q:∀ext o,Wf 3 (FU i j) ((h.upd (.ay k) o).upd (iL (i,j)) (.inst .item (qU i j x b ext))) P):Wk 3 (FU i j) Pp h P:=by
 have hd:((jt b j).map sv).length<=1000000:=eP (xu hj▸aw (cS hb) (by decide))
 refine aiT (ub (v:=.ref (.ay k)) (xk rfl) e (by kernel_rfl)) lk (aw hj (aL (bx _).symm)) (map_lt (b7 hb (by decide))) (xk rfl) df ?_
 rw [show(b.map sv).take j++V.str "."::(b.map sv).drop j=(jt b j).map sv by unfold jt;rw [List.map_append,List.map_cons,List.map_take,List.map_drop]]
 refine im (ajP (l:=.ay k) (ub (xk rfl) (aW e dZ) (by kernel_rfl)) H.aJ hd) (xk rfl) (aW e dZ) (im (IL (z:=b.length+1) (ub (xk rfl) H.aJ kA) hd (au _ ((bx _).trans (xu hj)))) (xk rfl) H.aJ (t7 (UR (xk rfl) (aW (aW (aW pe dZ) (bw rfl)) (bw rfl))) (xk rfl) H.aJ ?_))
 rw [qi,qi,<-xH (fs:=x4 i j x b) (as:=bT _ "usyms" _)]
 ·exact q _ _
 ·exact bq.2 ⟨by kernel_rfl,bq.2 ⟨by kernel_rfl,bq.2 ⟨by kernel_rfl,bq.2 ⟨by kernel_rfl,bq.2 ⟨by kernel_rfl,bq.2 ⟨by kernel_rfl,bq.2 ⟨by kernel_rfl,λ_ z=>absurd z a0⟩⟩⟩⟩⟩⟩⟩
theorem Vl(q:zw us h Q):Po (us.map some++[none,none,none]) h λfl _ h'=>Q (c7 fl) h':=by
 cases q with
 | @mk i j x b ext pe hj hb eo dn q=>
  have np:∀{h:H} {o},h (pL i)=some (.inst .dg (gR i x b ext))->(h.upd (iL (i,j)) o) (pL i)=some (.inst .dg (gR i x b ext)):=λe=>aW e (bw rfl)
  have nd:∀{h:H} {o},h (dL (i,j))=none->(h.upd (iL (i,j)) o) (dL (i,j))=none:=λe=>(H.bp (bw rfl)).trans e
  refine(im (n:=3) (Ck (xk rfl) pe) (xk rfl) eo (Ub (ajw (ug (xk rfl) (np pe)) (eP (aw hb (by decide)))) (xk rfl) (λk hk=>dT H.aJ hk) λk hk=>?_)) _ (Kn.dA (ks:=FU i j) rfl rfl)
  have hk:h (.ay k)=none:=(H.bp dB).symm.trans hk
  refine im (ajC (xk rfl) (np (aW (np pe) dZ))) (xk rfl) H.aJ (im (xk rfl) (xk rfl) H.aJ (v5 (v7 (a:=dL (i,j)) (nd (nd (nd ((H.bp dZ).trans (nd dn)))))) (xk rfl) (aW H.aJ (bw rfl)) ?_))
  exact Vk (k:=k) H.aJ (aW (aW (aW (aW (aW H.aJ dB) dB) dB) dB) dB) (np (aW (np (np (np (aW (np pe) dZ)))) (bw rfl))) hj hb λext o g K=>q ext _ ((((((((dz.refl.upd (.inl rfl)).ay hk).upd (.inl rfl)).upd (.inl rfl)).upd (.inl rfl)).upd (.inr rfl)).upd (.inl rfl)).ay hk |>.upd (.inl rfl)) H.aJ (aW (aW (aW H.aJ (bw rfl)) dZ) (bw rfl))
end
noncomputable abbrev jB(p:It):V:=.tup [.int p.1,.int p.2]
noncomputable abbrev a4(p:It):V:=.ref (iL p)
noncomputable def Kj(h:H)(p:It):Prop:=∃x b ext,h (iL p)=some (.inst .item (qU p.1 p.2 x b ext))
inductive DI(h:H)(Q:ab):aj->Prop
 |mk{l:L}{I:ak}:h l=some (.lst (I.map a4))->(∀p∈I,Kj h p)->I.length<=10000->(∀h',Ext h h'->Q (.tup (I.map jB)) h')->DI h Q [.ref l]
 |none:Q (.tup []) h->DI h Q [.none]
noncomputable def jG:b6:=λus h Q=>DI h Q us
noncomputable def GO:SW:=aB (a9 (gm (bE (an 0))) (eA (eO aD)) aO) (eA (bv rn (aA (i7 (bB (an 0)) false [none,none] (a5 1) dI (eO (aA (aE (an 1) "number") (aA (aE (an 1) "lr_index") aD)))) aD)))
noncomputable def QS:SW:=GO
section
variable{us:aj}{α:Type}{xs:List α}
theorem ajO(p:Ex ks m h (fO h vs))(hl:vs.length<=1000000)(q:∀h',Ext h h'->Φ (.tup vs) h'):Ex ks (bv rn (aA m aD)) h Φ:=Ch p λv h' w Q k=>by
 cases w with
 |mk hn=>exact .mk (.inl H.aJ) hl (k _ _ (q _ (aC.refl.new hn)))
theorem place_spec(q:jG us h Q):us.length=1/\QS (us.map some++[none]) h λfl _ h'=>Q (c7 fl) h':=by
 cases q with
 |none q=>exact⟨rfl,(a8 (cX (gb (sB (xk rfl)) rfl) (il (j4 e7) (y0 λ_=>q))):Wk 1 [(0,.none)] GO h _) _ (.dA rfl rfl)⟩
 | @mk l I e hI hl q=>
  refine⟨rfl,(a8 ?_:Wk 1 [(0,.ref l)] GO h _) _ (.dA rfl rfl)⟩
  have b:=gb (Ae (ks:=[(0,V.ref l)]) (m:=an 0) (xk rfl) e (eP (vz hl)) rfl) rfl
  cases I with
  |nil=>exact cX b (il (j4 e7) (y0 λ_=>q _ .refl))
  |cons p I=>
   refine dy b (bf (bi (yZ (Φ:=λv h'=>Q v h') (ajO (qn (xs:=p::I) (b8:=[]) (c:=λ_=>true) (r:=jB) (x3 (xk rfl) e) gh (λn acc i hn hi=>lD (dT e hn)) (vz hl) (λ_ _ _ _ _=>kE) (λn acc p hn hp _=>?_) rfl rfl λ_=>rfl) ?_ λh' f=>?_) λv h' w _=>w)))
   ·exact(hI p hp).elim λx z=>z.elim λb z=>z.elim λext z=>j4 (eE (ajo (xk rfl) (dT z hn)) (ajm (xk rfl) (dT z hn)))
   all_goals rw [w8]
   ·exact eP (vz hl)
   ·exact q h' f
end
noncomputable abbrev gL:L:=lb 0
noncomputable abbrev gw:L:=lb 5
noncomputable abbrev yB:L:=lb 6
noncomputable abbrev vL(x:Sy):L:=ls 7 x
noncomputable abbrev yA:L:=lb 8
noncomputable abbrev BX:L:=lb 9
noncomputable abbrev H9(x:Sy):L:=ls 10 x
noncomputable abbrev Hg:L:=lb 11
noncomputable abbrev Hh(x:Sy):L:=ls 12 x
noncomputable abbrev kH:L:=lb 13
noncomputable abbrev qP(x:Sy):L:=ls 14 x
noncomputable abbrev iH:L:=lb 15
noncomputable abbrev gp(x:Sy):L:=ls 16 x
noncomputable abbrev qb:L:=lb 17
noncomputable abbrev usD:L:=lb 18
noncomputable abbrev Fa:List Str:=["add_production","set_start","_first","compute_first","compute_follow","build_lritems"]
noncomputable def xL:List (Str×V):=[("Productions",.ref gw),("Prodnames",.ref yB),("Prodmap",.ref yA),("Terminals",.ref BX),("Nonterminals",.ref Hg),("First",.ref kH),("Follow",.ref iH),("Precedence",.ref qb)]
noncomputable abbrev E5:(ac)->ac:=eX xL
inductive eU(h:H):Prop
 |mk{ext:ac}:h gL=some (.inst .dX (E5 ext))->(∀n∈Fa,ext n=none)->eU h
structure Dl(d t:Nat)(ks:ai)(c:Sy->aj)(h:H):Prop where
 d:∃n,h (lb d)=some (.aF (rows ks λx=>.ref (ls t x)) n)
 l:∀x,h (ls t x)=if x∈ks then some (.lst (c x)) else none
inductive dU(d t:Nat)(ks:ai)(k:Nat)(h:H):Prop
 |mk{c:Sy->aj}:Dl d t ks c h->(∀x,(c x).length<=k)->dU d t ks k h
inductive lU(i:Nat)(x:Sy)(b:ai)(h:H):Prop
 |mk{ext:ac}:h (pL i)=some (.inst .dg (gR i x b ext))->gY ext->h (uL i)=some (.lst ((once [] b).map sv))->lU i x b h
noncomputable def nC(T N:ai)(t:Sy):ai:=if t∈T then N else c4 N t
noncomputable def Hi(T N:ai)(r:aH):ai:=r.2.foldl (nC T) (c4 N r.1)
noncomputable def a7(T:ai)(R:List aH):ai:=R.foldl (Hi T) []
noncomputable def bL(R:List aH):ai:=R.foldl (λN r=>c4 N r.1) []
noncomputable def ig(x:Sy)(R:List aH):List Nat:=((R.zipIdx 1).filter λp=>decide (p.1.1=x)).map (·.2)
noncomputable def fG(r:aH):Str:=Str.empty++r.1.1++" -> "++PyData.shown (.list (r.2.map λx=>.str x.1))
noncomputable abbrev cq(i:Nat):V:=.ref (pL i)
structure GB(T:ai)(R:List aH)(h:H):Prop where
 g:eU h
 nW:∃v,h gw=some (.lst (v::(List.range R.length).map λi=>cq (i+1)))
 prod:∀i x b,R[i]?=some (x,b)->lU (i+1) x b h
 pn:Dl 6 7 (bL R) (λx=>(ig x R).map cq) h
 pm:∃es n,h yA=some (.aF es n)/\es.map (·.1)=R.map λr=>.str (fG r)
 tm:dU 9 10 T (100*R.length) h
 nt:dU 11 12 (a7 T R) (100*R.length) h
 fi:∃n,h kH=some (.aF [] n)
 fo:∃n,h iH=some (.aF [] n)
 pr:∃n,h qb=some (.aF [] n)
 f2:∀i,R.length<i\/i=0->h (pL i)=none/\h (uL i)=none
noncomputable abbrev YO:List Nat:=[0,2,4,5,6,7,8,9,10,11,12,13,15,17]
section
variable{k':Nat}{ks:ai}{c c':Sy->aj}{R:List aH}{ext:ac}{l:L}
theorem A4(e:ls t x=ls t y):x=y:=wU (L.mk.inj e).2.1
theorem Dl.same(D:Dl d t ks c h)(e:bC [d,t] h h'):Dl d t ks c h':=⟨D.d.imp λ_ z=>(e _ _ _ (fF.mpr (.head _))).trans z,λx=>(e _ _ _ (fF.mpr (.tail _ (.head _)))).trans (D.l x)⟩
theorem Dl.get(D:Dl d t ks c h)(m:x∈ks):h (ls t x)=some (.lst (c x)):=(D.l x).trans (bz m)
theorem Dl.free(D:Dl d t ks c h)(m:x∉ks):h (ls t x)=none:=(D.l x).trans (bD m)
theorem Dl.turn(D:Dl d t ks c h)(m:x∈ks)(n:Nat.beq d t=false)(e:c' x=vs)(o:∀y,y≠x->c' y=c y):Dl d t ks c' (h.upd (ls t x) (.lst vs)):=⟨D.d.imp λ_ z=>aW z (bw n),λy=>(aN (y=x)).elim (λz=>by
 subst z;exact H.aJ.trans ((au (λl=>some (O.lst l)) e.symm).trans (bz m).symm)) λz=>(H.bp λq=>z (A4 q)).trans ((D.l y).trans (by rw [o y z]))⟩
theorem Dl.put(D:Dl d t ks c h)(n:Nat.beq t d=false)(e:c' x=vs)(o:∀y,y∈ks->y≠x->c' y=c y)(i:Nat):Dl d t (c4 ks x) c' ((h.upd (ls t x) (.lst vs)).upd (lb d) (.aF (rows (c4 ks x) λx=>.ref (ls t x)) i)):=⟨⟨i,H.aJ⟩,λy=>(H.bp (bw n)).trans ((aN (y=x)).elim (λz=>by
 subst z;exact H.aJ.trans ((au (λl=>some (O.lst l)) e.symm).trans (bz (fU.mpr (.inr rfl))).symm)) λz=>(H.bp λq=>z (A4 q)).trans ((D.l y).trans ((aN (y∈ks)).elim (λw=>(bz w).trans ((au (λl=>some (O.lst l)) (o y w z).symm).trans (bz (fU.mpr (.inl w))).symm)) λw=>(bD w).trans (bD λq=>(fU.mp q).elim w z).symm)))⟩
theorem dU.same(D:dU d t ks k h)(e:bC [d,t] h h'):dU d t ks k h':=D.casesOn λD b=>.mk (D.same e) b
theorem dU.more(D:dU d t ks k h)(l:k<=k'):dU d t ks k' h:=D.casesOn λD b=>.mk D λx=>aw (b x) l
theorem dU.put(D:dU d t ks k h)(n:Nat.beq t d=false)(i:Nat):dU d t (c4 ks x) k ((h.upd (ls t x) (.lst [])).upd (lb d) (.aF (rows (c4 ks x) λx=>.ref (ls t x)) i)):=D.casesOn λ{c} D b=>
 .mk (c:=λy=>if y=x then [] else c y) (D.put n (bz rfl) (λy _ z=>bD z) i) λy=>(aN (y=x)).elim (λz=>(bz z).symm▸bH _) λz=>(bD z).symm▸b y
theorem dU.app(D:dU d t ks k h)(m:x∈ks)(n:Nat.beq d t=false){p:Prop}(q:∀vs,h (ls t x)=some (.lst vs)->vs.length<=k->(∀v,dU d t ks (k+1) (h.upd (ls t x) (.lst (vs++[v]))))->p):p:=D.casesOn λ{c} D b=>
 q _ (D.get m) (b x) λv=>.mk (c:=λy=>if y=x then c y++[v] else c y) (D.turn m n (bz rfl) λy z=>bD z) λy=>(aN (y=x)).elim (λz=>(bz z).symm▸(cw.symm▸cS (b y):(c y++[v]).length<=k+1)) λz=>(bD z).symm▸uC (b y)
theorem lU.same(p:lU i x b h)(e:bC [2,4] h h'):lU i x b h':=p.casesOn λz na u=>.mk ((e _ _ _ rfl).trans z) na ((e _ _ _ rfl).trans u)
theorem eU.same(g:eU h)(e:bC [0] h h'):eU h':=g.casesOn λz na=>.mk ((e _ _ _ rfl).trans z) na
theorem GB.same(G:GB T R h)(e:bC YO h h'):GB T R h':=⟨G.g.same (e.sub rfl),G.nW.imp λ_ z=>(e _ _ _ rfl).trans z,λi x b z=>(G.prod i x b z).same (e.sub rfl),G.pn.same (e.sub rfl),G.pm.imp λ_ z=>z.imp λ_ z=>⟨(e _ _ _ rfl).trans z.1,z.2⟩,G.tm.same (e.sub rfl),G.nt.same (e.sub rfl),
 G.fi.imp λ_ z=>(e _ _ _ rfl).trans z,G.fo.imp λ_ z=>(e _ _ _ rfl).trans z,G.pr.imp λ_ z=>(e _ _ _ rfl).trans z,λi z=>⟨(e _ _ _ rfl).trans (G.f2 i z).1,(e _ _ _ rfl).trans (G.f2 i z).2⟩⟩
theorem aeO:a7 T (R++[r])=Hi T (a7 T R) r:=wq
theorem Zi:bL (R++[r])=c4 (bL R) r.1:=wq
theorem HD:ig x (R++[r])=ig x R++if r.1=x then [R.length+1] else []:=by
 unfold ig
 rw [List.zipIdx_append,List.filter_append,List.map_append,Nat.add_comm 1]
 refine au ((((R.zipIdx 1).filter λp=>decide (p.1.1=x)).map (·.2))++·) ?_
 show List.map _ (List.filter (λp:aH×Nat=>decide (p.1.1=x)) [(r,R.length+1)])=_
 refine(aN (r.1=x)).elim (λe=>?_) λe=>?_
 ·rw [if_pos e,List.filter_cons_of_pos (p:=λp:aH×Nat=>decide (p.1.1=x)) (a:=(r,R.length+1)) (decide_eq_true e)];rfl
 ·rw [if_neg e,List.filter_cons_of_neg (p:=λp:aH×Nat=>decide (p.1.1=x)) (a:=(r,R.length+1)) λz=>e (of_decide_eq_true z)];rfl
theorem afM:(ig x R).length<=R.length:=aw (aL (bx _)) (aw (rX ..) (aL List.length_zipIdx))
theorem E0{α:Type}{f:ai->α->ai}{j:Nat}(w:∀N a,(f N a).length<=N.length+j){l:List α}:(l.foldl f N).length<=N.length+j*l.length:=by
 induction l generalizing N with
 |nil=>exact cB _
 |cons a l ih=>exact aw ih (aw (uB (w N a) _) (aL ((wx ..).trans (au (N.length+·) ((wz ..).trans (KN ..).symm)))))
theorem Fj:(bL R).length<=R.length:=aw (E0 λ_ _=>uN) (aL ((og _).trans (Nat.one_mul _)))
theorem VO{t:Sy}:(nC T N t).length<=N.length+1:=by
 unfold nC;split
 ·exact jj _
 ·exact uN
section
variable(pe:Ek b8 m h (.ref gL))
include pe
theorem rG{nm:Str}{v:V}(g:eU h)(e:xL.lookup nm=some v):Ek b8 (aE m nm) h v:=g.casesOn λz _=>jF pe z e
theorem mS(g:eU h):Ek b8 (aE m "Productions") h (.ref gw):=rG pe g (by kernel_rfl)
theorem y7(g:eU h):Ek b8 (aE m "Prodnames") h (.ref yB):=rG pe g (by kernel_rfl)
theorem UQ(g:eU h):Ek b8 (aE m "Prodmap") h (.ref yA):=rG pe g (by kernel_rfl)
theorem wc(g:eU h):Ek b8 (aE m "Terminals") h (.ref BX):=rG pe g (by kernel_rfl)
theorem mQ(g:eU h):Ek b8 (aE m "Nonterminals") h (.ref Hg):=rG pe g (by kernel_rfl)
theorem rE(g:eU h):Ek b8 (aE m "First") h (.ref kH):=rG pe g (by kernel_rfl)
theorem rF(g:eU h):Ek b8 (aE m "Follow") h (.ref iH):=rG pe g (by kernel_rfl)
theorem mR(g:eU h):Ek b8 (aE m "Precedence") h (.ref qb):=rG pe g (by kernel_rfl)
end
end
noncomputable abbrev iI:List Nat:=[0,2,4,5,6,7,8,9,10,11,12,13,15,17,18]
inductive J1(h:H)(Q:ab):aj->Prop
 |mk{T:ai}{n:Nat}:h (.ay n)=some (.lst (T.map sv))->(T++[oC]).Nodup->T.length<999->h gL=some (.inst .dX λ_=>none)->(∀{t} s ix,(ca t iI&&!Nat.beq t 0)=true->h (.mk t s ix)=none)->
  (∀h',GB (T++[oC]) [] h'->aC iI h h'->Q .none h')->J1 h Q [.ref gL,.ref (.ay n)]
noncomputable def rP:b6:=λus h Q=>Ri us h Q\/Ms us h Q
noncomputable def zv:b6:=λus h Q=>J1 h Q us
noncomputable def aa5:SW:=aB (aS (b5 (an 0) "UsedPrecedence") (bv rP aD)) (aS (b5 (an 0) "Start") i8)
noncomputable def aa8:SW:=aB (aS (b5 (an 0) "Precedence") fz) aa5
noncomputable def aa9:SW:=aB (aS (b5 (an 0) "Follow") fz) aa8
noncomputable def aa':SW:=aB (aS (b5 (an 0) "First") fz) aa9
noncomputable def aba:SW:=aB (aS (b5 (an 0) "Nonterminals") fz) aa'
noncomputable def abb:SW:=aB (aS (cu (aE (an 0) "Terminals") (bR "error")) (cx aD)) aba
noncomputable def abc:SW:=aB (bX (bB (an 1)) false (a5 2) (aS (cu (aE (an 0) "Terminals") (an 2)) (cx aD)) aO) abb
noncomputable def abd:SW:=aB (aS (b5 (an 0) "Terminals") fz) abc
noncomputable def abe:SW:=aB (aS (b5 (an 0) "Prodmap") fz) abd
noncomputable def aa6:SW:=aB (aS (b5 (an 0) "Prodnames") fz) abe
noncomputable def aa7:SW:=aB (aS (b5 (an 0) "Productions") (cx (aA i8 aD))) aa6
noncomputable def Pl:SW:=aa7
structure GS(A D:List Nat)(as:ac)(av h:H):Prop where
 g:h gL=some (.inst .dX as)
 d:∀{d},ca d D=true->h (lb d)=some (.aF [] 0)
 pl:h gw=some (.lst [.none])
 fr:aC A av h
inductive GI(n:Nat)(h:H):ai->Ks->H->Prop
 |mk{a:ai}{h':H}:Dl 9 10 a (λ_=>[]) h'->aC [9,10] h h'->GI n h a [(1,.ref (.ay n)),(0,.ref gL)] h'
noncomputable def okG(d:Nat)(A D:List Nat):Bool:=ca 0 A&&(ca 5 A&&(!ca d A&&tP D A))
noncomputable def okM(A D B:List Nat):Bool:=jS D B&&(!ca 0 B&&(!ca 5 B&&tP B A))
section
variable{A D B:List Nat}{av:H}{nm:Str}{kk:EW}{us:aj}
theorem Y'{e:Nat}:ca e (d::D)=true->e=d\/ca e D=true:=λz=>(dP.1 (fF.mp z)).imp id fF.mpr
theorem sP(d:Nat)(G:GS A D as av h)(f:av (lb d)=none)(q:∀h',GS (d::A) (d::D) (bT as nm (.ref (lb d))) av h'->aC [d,0] h h'->Wk n ks s h' P)(e:bj ks 0=some (.ref gL):=by exact rfl)(w:okG d A D=true:=by exact rfl):Wk n ks (aB (aS (b5 (an 0) nm) fz) s) h P:=
 have w1:=bu w
 have w2:=bu w1.2
 have w3:=bu w2.2
 have nd:ca d A=false:=jU w3.1
 have ne:∀{t s ix},ca t A=true->L.mk t s ix≠lb d:=λm z=>kI nd m z.symm
 v5 (v7 ((G.fr.at_ _ _ nd).trans f)) (xk e) (aW G.g (ne w1.1)) (q _ ⟨H.aJ,λm=>(Y' m).elim (λz=>by subst z;exact aW H.aJ (ne w1.1).symm) λz=>
  aW (aW (G.d z) (ne (jC w3.2 z))) λy=>O.noConfusion (bc ((G.d z).symm.trans ((au h y).trans G.g))),aW (aW G.pl (ne w2.1)) (bw rfl),((G.fr.wide (d5.2 λt m=>fF.mpr (.tail _ m))).upd (fF.mpr (.head _))).upd (fF.mpr (.tail _ (fF.mp w1.1)))⟩ ((aC.refl.upd (fF.mpr (.head _))).upd (fF.mpr (.tail _ (.head _)))))
theorem GS.move(G:GS A D as av h)(f:aC B h h')(w:okM A D B=true):GS A D as av h':=
 have w1:=bu w
 have w2:=bu w1.2
 have w3:=bu w2.2
 ⟨(f.at_ _ _ (jU w2.1)).trans G.g,λm=>(f.at_ _ _ (fT w1.1 m)).trans (G.d m),(f.at_ _ _ (jU w3.1)).trans G.pl,G.fr.trans (f.wide w3.2)⟩
theorem Ir{ms:fZ}{vs:aj}(xs:gC ks ms h vs)(xl:vs.length<=1000000)(e:h (lb d)=some (.aF (rows rs λx=>.ref (ls t x)) j))(f:h (ls t x)=none)(hl:rs.length<=1000000)(n1:Nat.beq d t=false)(po:∀{h'},bC [0] h h'->Ek ks o h' (.ref (lb d)))(n0:ca t [0]=false)(pk:∀{h'},Ek ks kk h' (sv x))
 (q:∀i,Wf n ks ((h.upd (ls t x) (.lst vs)).upd (lb d) (.aF (rows (c4 rs x) λx=>.ref (ls t x)) i)) P):Wk n ks (aS (cu o kk) (cx ms)) h P:=λg K=>
 xs g K.at_ _ ⟨xl,gO (ls t x) f ((yY (m:=λ_ h Q=>Q (.ref (ls t x)) h) (f:=λx=>.ref (ls t x)) (λ_ _ _ q=>q) (po (bC.upd n0)) pk (aW e (bw n1)) hl q:Wk n ks _ _ P) g K)⟩
theorem Cb(e:h (lb d)=some (.aF (rows rs λx=>.ref (ls t x)) j))(f:h (ls t x)=none)(hl:rs.length<=1000000)(n1:Nat.beq d t=false)(po:∀{h'},bC [0] h h'->Ek ks o h' (.ref (lb d)))(n0:ca t [0]=false)(pk:∀{h'},Ek ks kk h' (sv x))
 (q:∀i,Wf n ks ((h.upd (ls t x) (.lst [])).upd (lb d) (.aF (rows (c4 rs x) λx=>.ref (ls t x)) i)) P):Wk n ks (aS (cu o kk) (cx aD)) h P:=Ir e7 (bH _) e f hl n1 po n0 pk q
theorem Dl.nil{c:Sy->aj}(e:h (lb d)=some (.aF [] i))(f:∀x,h (ls t x)=none):Dl d t [] c h:=⟨⟨_,e⟩,λx=>f x⟩
theorem vH{a r:ai}(n:(a++x::r).Nodup):x∉a:=λz=>(pp.1 n).2.2 _ z _ (.head _) rfl
theorem ajE{a:L}(f:h a=none):Ex ks (bv rP aD) h (uh a h (.set [])):=λg K Q z=>.inl ⟨rfl,gO (Q:=Q) a f (z _ _ .mk)⟩
theorem Vb{T:ai}(G:GS [18,17,15,13,11,10,9,8,6,5,0] [17,15,13,11,8,6] as av h)(D:Dl 9 10 T (λ_=>[]) h)(fr:∀{t} s ix,(ca t iI&&!Nat.beq t 0)=true->av (.mk t s ix)=none)(w:∀p∈xL,as p.1=some p.2)(na:∀n∈Fa,as n=none)(q:∀h',GB T [] h'->aC iI av h'->Wf n ks h' P)(e:bj ks 0=some (.ref gL)):Wk n ks (aS (b5 (an 0) "Start") i8) h P:=by
 have F:aC [18,17,15,13,11,10,9,8,6,5,0] av (h.upd gL (.inst .dX (bT as "Start" .none))):=G.fr.upd rfl
 have N:∀{t} s ix,ca t [18,17,15,13,11,10,9,8,6,5,0]=false/\(ca t iI&&!Nat.beq t 0)=true->(h.upd gL (.inst .dX (bT as "Start" .none))) (.mk t s ix)=none:=λs ix m=>(F.at_ s ix m.1).trans (fr s ix m.2)
 have E:∀{d},ca d [17,15,13,11,8,6]=true/\Nat.beq d 0=false->(h.upd gL (.inst .dX (bT as "Start" .none))) (lb d)=some (.aF [] 0):=λm=>aW (G.d m.1) (bw m.2)
 refine t7 qo (xk e) G.g (q _ ⟨?_,⟨_,aW G.pl (bw rfl)⟩,(λ_ _ _ z=>nomatch z),.nil (E ⟨rfl,rfl⟩) λx=>N _ _ ⟨rfl,rfl⟩,⟨_,_,E ⟨rfl,rfl⟩,rfl⟩,(.mk (D.same (bC.upd rfl)) λ_=>bH _),.mk (c:=λ_=>[]) (.nil (E ⟨rfl,rfl⟩) λx=>N _ _ ⟨rfl,rfl⟩) λ_=>bH _,⟨_,E ⟨rfl,rfl⟩⟩,⟨_,E ⟨rfl,rfl⟩⟩,⟨_,E ⟨rfl,rfl⟩⟩,λi _=>⟨N _ _ ⟨rfl,rfl⟩,N _ _ ⟨rfl,rfl⟩⟩⟩ (F.wide rfl))
 exact .mk (ext:=bT as "Start" .none) (H.aJ.trans (au (λf=>some (O.inst .dX f)) ((au (bT · "Start" .none) (xH w).symm).trans (qQ (by kernel_rfl))))) λn m=>(i4 λz=>absurd (z▸m) (by decide+kernel)).trans (na n m)
theorem Vc(q:zv us h Q):Pl (us.map some++[none,none]) h λfl _ h'=>Q (c7 fl) h':=by
 cases q with
 | @mk T tn lst nd len obj fr q=>
  have nT:=(pp.1 nd).1
  have g0:GS [5,0] [] (bT (λ_=>none) "Productions" (.ref gw)) h ((h.upd gw (.lst [.none])).upd gL (.inst .dX (bT (λ_=>none) "Productions" (.ref gw)))):=⟨H.aJ,λz=>Bool.noConfusion z,aW H.aJ (bw rfl),(aC.refl.upd rfl).upd rfl⟩
  refine(v5 (n:=3) (v8 (a:=gw) (fr _ _ rfl) (iS qo) (by decide)) (xk rfl) (aW obj (bw rfl)) (sP 6 g0 (fr _ _ rfl) λh1 g1 _=>sP 8 g1 (fr _ _ rfl) λh2 g2 _=>sP 9 g2 (fr _ _ rfl) λh3 g3 _=>?_)) _ (Kn.dA (ks:=[(1,.ref (.ay tn)),(0,.ref gL)]) rfl rfl)
  have X4:∀x,h3 (H9 x)=none:=λx=>(g3.fr.at_ _ _ rfl).trans (fr _ _ rfl)
  have tE:∀{h' ks},aC [9,10] h3 h'->bj ks 0=some (.ref gL)->∀{bP},bC [0] h' bP->Ek ks (aE (an 0) "Terminals") bP (.ref BX):=λ{h' ks} f e {bP} s=>ub (xk e) ((s _ _ _ rfl).trans ((f.at_ _ _ rfl).trans g3.g)) kA
  refine a8 (fB (Inv:=GI tn h3) (xk rfl) (λa ks h' I=>I.casesOn λ_ f=>f.old (g3.fr.old lst)) (.mk (.nil (g3.d rfl) X4) .refl) (λa x r ks h' es I P' tt=>?_) λks h' I=>?_)
  ·cases I with
   |mk D f=>
    have nx:=vH (es▸nT)
    exact D.d.elim λi z=>Cb z (D.free nx) (aw (cN (mid es).2) (aw (cN len) (by decide))) rfl (tE f rfl) rfl (xk rfl) λi=>tt.nx (.mk (iD nx▸D.put rfl rfl (λ_ _ _=>rfl) i) ((f.upd rfl).upd rfl)) rfl
  ·cases I with
   |mk D f=>
    have nx:=vH nd
    have g4:GS [10,9,8,6,5,0] [8,6] _ h h':=⟨(f.at_ _ _ rfl).trans g3.g,λ{d} m=>(f.at_ _ _ (fT (ts:=[8,6]) rfl m)).trans (g3.d (jC (ts:=[8,6]) rfl m)),(f.at_ _ _ rfl).trans g3.pl,(g3.fr.wide rfl).trans (f.wide rfl)⟩
    refine bf (bi (a8 (D.d.elim λi z=>Cb z (D.free nx) (aw (cN len) (by decide)) rfl (tE f rfl) rfl (df (s:="error")) λi=>bi ?_)))
    have D5:=D.put (x:=oC) (vs:=[]) (c':=λ_=>[]) rfl rfl (λ_ _ _=>rfl) i
    have g5:=g4.move (B:=[9,10]) ((aC.refl.upd (h:=h') (t:=10) (s:=oC.1) (ix:=[]) (o:=.lst []) rfl).upd (t:=9) (s:=Str.empty) (ix:=[]) (o:=.aF (rows (c4 T oC) λx=>.ref (ls 10 x)) i) rfl) rfl
    refine sP 11 g5 (fr _ _ rfl) λh6 g6 f6=>sP 13 g6 (fr _ _ rfl) λh7 g7 f7=>sP 15 g7 (fr _ _ rfl) λh8 g8 f8=>sP 17 g8 (fr _ _ rfl) λh9 g9 f9=>?_
    have s9:bC [9,10] _ h9:=bC.trans (f6.same rfl) (bC.trans (f7.same rfl) (bC.trans (f8.same rfl) (f9.same rfl)))
    refine v5 (ajE (a:=usD) ((g9.fr.at_ _ _ rfl).trans (fr _ _ rfl))) (xk rfl) (aW g9.g (bw rfl)) (Vb (av:=h) ⟨H.aJ,λ{d} m=>aW (aW (g9.d m) (kI (ts:=[18]) (fT (ts:=[17,15,13,11,8,6]) rfl m) rfl)) (kI (ts:=[0]) (fT (ts:=[17,15,13,11,8,6]) rfl m) rfl),aW (aW g9.pl (bw rfl)) (bw rfl),((g9.fr.wide rfl).upd rfl).upd rfl⟩
     ((iD nx▸D5.same s9:Dl 9 10 (T++[oC]) (λ_=>[]) h9).same (bC.trans (bC.upd rfl) (bC.upd rfl))) fr ?_ ?_ (λh' G F g K=>q h' G F) rfl)
    ·exact bq.2 ⟨by kernel_rfl,bq.2 ⟨by kernel_rfl,bq.2 ⟨by kernel_rfl,bq.2 ⟨by kernel_rfl,bq.2 ⟨by kernel_rfl,bq.2 ⟨by kernel_rfl,bq.2 ⟨by kernel_rfl,bq.2 ⟨by kernel_rfl,λ_ z=>absurd z a0⟩⟩⟩⟩⟩⟩⟩⟩
    ·exact bq.2 ⟨by kernel_rfl,bq.2 ⟨by kernel_rfl,bq.2 ⟨by kernel_rfl,bq.2 ⟨by kernel_rfl,bq.2 ⟨by kernel_rfl,bq.2 ⟨by kernel_rfl,λ_ z=>absurd z a0⟩⟩⟩⟩⟩⟩
end
structure wV(y:Sy):Prop where
 id:AH y.1=true
 first:∃c,y.1.cps[0]?=some c/\qh ⟨#[c]⟩ "'\""=false
 prec:y.1≠"%prec"
 len:y.1.length<=100
noncomputable abbrev iG(b:ai):List PyData:=b.map λx=>.str x.1
structure wQ(r:aH):Prop where
 head:wV r.1
 syms:∀y∈r.2,wV y
 key:PyData.strOk (fG r)=true
 ahE:PyData.showableAll (iG r.2)=true
 ahF:PyData.hasDictAll (iG r.2)=false
 ahG:PyData.depthAll (iG r.2)<=50
 SZ:(PyData.shown (.list (iG r.2))).length<=100000
 len:r.2.length<=100
inductive IX(h:H)(Q:ab):aj->Prop
 |mk{T:ai}{R:List aH}{r:aH}{n:Nat}:h (.ay n)=some (.lst (r.2.map sv))->GB T R h->r.1∉T->oC∈T->wQ r->fG r∉R.map fG->R.length<99->(a7 T R).length<=500->
  (∀h',GB T (R++[r]) h'->aC iI h h'->Q .none h')->IX h Q [.ref gL,sv r.1,.ref (.ay n),.none,.str "",.int 0]
noncomputable def JT:b6:=λus h Q=>IX h Q us
inductive zX(h:H)(Q:ab)(i:Nat)(x:Sy):L->Prop
 |mk{b:ai}{sl:L}:h sl=some (.lst (b.map sv))->b.length<=100->(∀y∈x::b,y.1.length<=100)->h (pL i)=none->h (uL i)=none->(∀h',lU i x b h'->dz (pL i) (uL i) h h'->Q (.ref (pL i)) h')->zX h Q i x sl
noncomputable def JR:b6:=λus h Q=>∃i x sl,us=[.int (i:Nat),sv x,.ref sl,.tup [.str "right",.int 0],.none,.str "",.int 0]/\zX h Q i x sl
noncomputable def Pv:SW:=aB (a9 (aT .In (a3 (an 7) (aM 0)) (bR "'\"")) jV aO) (a9 (du (gm (bE (bv wg (aA (an 7) aD)))) (du (aT .NotEq (an 7) (bR "%prec")) dI)) jV aO)
noncomputable def abQ:SW:=aB (a9 (gm (bE (an 10))) jV (cM (bY (aE (an 0) "UsedPrecedence") "set" vP (aA (an 9) aD)))) jV
noncomputable def abU:SW:=aB (aZ 10 (bY (aE (an 0) "Precedence") "dict" eY (aA (an 9) aD))) abQ
noncomputable def abV:SW:=aB (aZ 9 (a3 (an 2) (lm (aM 1)))) abU
noncomputable def abW:SW:=aB (a9 (aT .NotEq (a3 (an 2) (lm (aM 2))) (bR "%prec")) jV aO) abV
noncomputable def abX:SW:=aB (a9 (aT .Eq (a3 (an 2) (lm (aM 1))) (bR "%prec")) jV aO) abW
noncomputable def abY:SW:=aB (aZ 9 (bv CO (aA (an 2) (aA (aE (an 0) "Terminals") aD)))) (aZ 10 (bY (aE (an 0) "Precedence") "dict" eY (aA (an 9) (aA (eO (aA (bR "right") (aA (aM 0) aD))) aD))))
noncomputable def abZ:SW:=aB (aZ 12 (a3 (aE (an 0) "Prodmap") (an 11))) jV
noncomputable def PC:SW:=aB (a9 (aT .NotIn (an 14) (aE (an 0) "Nonterminals")) (aS (cu (aE (an 0) "Nonterminals") (an 14)) (cx aD)) aO) (cM (bY (a3 (aE (an 0) "Nonterminals") (an 14)) "list" de (aA (an 13) aD)))
noncomputable def abN:SW:=aB (aS (cu (aE (an 0) "Prodmap") (an 11)) (an 15)) (BF (n7 (aE (an 0) "Prodnames") (xE (an 1))) "list" de (aA (an 15) aD) ["KeyError"] (aS (cu (aE (an 0) "Prodnames") (an 1)) (cx (aA (an 15) aD))))
noncomputable def Py:SW:=aB (cM (bY (aE (an 0) "Productions") "list" de (aA (an 15) aD))) abN
noncomputable def Gl:SW:=aB (aZ 15 (bv JR (aA (an 13) (aA (an 1) (aA (an 2) (aA (an 10) (aA (an 3) (aA (an 4) (aA (an 5) aD))))))))) Py
noncomputable def Gm:SW:=aB (bX (bB (an 2)) false (a5 14) (a9 (aT .In (an 14) (aE (an 0) "Terminals")) (cM (bY (a3 (aE (an 0) "Terminals") (an 14)) "list" de (aA (an 13) aD))) PC) aO) Gl
noncomputable def abO:SW:=aB (a9 (aT .NotIn (an 1) (aE (an 0) "Nonterminals")) (aS (cu (aE (an 0) "Nonterminals") (an 1)) (cx aD)) aO) Gm
noncomputable def abP:SW:=aB (aZ 13 (bv dQ (aA (aE (an 0) "Productions") aD))) abO
noncomputable def Gn:SW:=aB (a9 (aT .In (an 11) (aE (an 0) "Prodmap")) abZ aO) abP
noncomputable def Pz:SW:=aB (aZ 11 (EO (sY (u6 (an 1)) (sY (bR " -> ") (sY (u6 (an 2)) FF))))) Gn
noncomputable def Go:SW:=aB (a9 (aT .In (bR "%prec") (an 2)) abX abY) Pz
noncomputable def PA:SW:=aB (bX (p6 qN (aA (an 2) aD)) true (iN 2 (dE (a5 6) (dE (a5 7) ib))) Pv aO) Go
noncomputable def abR:SW:=aB (a9 (gm (bE (bv wg (aA (an 1) aD)))) jV aO) PA
noncomputable def abS:SW:=aB (a9 (aT .Eq (an 1) (bR "error")) jV aO) abR
noncomputable def abT:SW:=aB (a9 (aT .In (an 1) (aE (an 0) "Terminals")) jV aO) abS
noncomputable def Pu:SW:=abT
noncomputable def aK(n:Nat)(x:Sy):Ks:=[(0,.ref gL),(1,sv x),(2,.ref (.ay n)),(3,.none),(4,.str ""),(5,.int 0)]
noncomputable def DZ(n:Nat)(r:aH):Ks:=(11,.str (fG r))::(10,.tup [.str "right",.int 0])::aK n r.1
inductive JH(ks:Ks)(h:H){α:Type}(a:List α):Ks->H->Prop
 |mk{h':H}:Ext h h'->JH ks h a ks h'
section
variable{t:SW}{c d:BW}{b:Bool}{u w z:Str}{l:L}{R:List aH}{Φ:Bool->H->Prop}
noncomputable abbrev Bi(ks:Ks)(c:BW)(h:H)(b:Bool):Prop:=Bx ks c h λr h'=>r=b/\Ext h h'
theorem Mm(p:Ek ks m h (.str u))(ok:AH u=true):Bi ks (gm (bE (bv wg (aA m aD)))) h false:=λg K Q q=>p g K _ (.mk ok λh' e=>.bool (q _ _ ⟨rfl,e⟩))
theorem bi_and(p:Bi ks c h false):Bi ks (du c d) h false:=λg K Q q=>p g K (λb h'=>if b=true then d g h' Q else Q false h') λb h' z=>z.1.symm▸q _ _ ⟨rfl,z.2⟩
theorem T6(p:Bi ks c h false)(q:∀h',Ext h h'->Wk n ks t h' P):Wk n ks (a9 c s t) h P:=λg K=>p g K.at_ _ λb h' z=>z.1.symm▸q h' z.2 g K
theorem aiX(p:Bi ks c h false)(q:∀h',Ext h h'->Wk n ks t h' P):Wk n ks (aB (a9 c s aO) t) h P:=T6 (P:=ij t P) p q
theorem ajK{a:Nat}(p:Ek ks m h (.str u))(q:Ek ks m' h (.int 0))(e:u.cps[0]?=some a):Ek ks (a3 m m') h (.str ⟨#[a]⟩):=λg K _ r=>p g K _ (q g K _ (.str (tM (j:=0) (by decide)) ((au (Option.bind · λn=>(u.cps[n]?).map λc=>V.str ⟨#[c]⟩) (Fy (rK.1 e).1)).trans (au (Option.map λc=>V.str ⟨#[c]⟩) e)) r))
theorem Wj(p:Ek ks m h (.str u))(q:Ek ks m' h (.str w))(e:qh u w=b):Eb ks (aT .In m m') h b:=fS p q λQ r=>ph.str (Q:=λb=>Q (.bool b) h) (e.symm▸r)
theorem ajG{ds:List PyData}{vs:aj}(p:Ek ks m h (.ref l))(e:h l=some (.lst vs))(r:jO h vs ds)(h1:PyData.showableAll ds=true)(h2:PyData.hasDictAll ds=false)(h3:PyData.depthAll ds<=50)(h4:(PyData.shown (.list ds)).length<=100000):Ek ks (u6 m) h (.str (PyData.shown (.list ds))):=λg K _ q=>p g K _ (.lst e r h1 h2 h3 h4 q)
theorem An:jO h (bd.map sv) (iG bd):=by
 induction bd with
 |nil=>exact .nil
 |cons x b ih=>exact .cons (.str _) ih
theorem VR(ok:wV y)(e:bj ks 7=some (sv y))(q:∀h',Ext h h'->Wf n ks h' P):Wk n ks Pv h P:=
 ok.first.elim λa z=>io (Wj (ajK (xk e) bF z.1) df z.2) (T6 (bi_and (Mm (xk e) ok.id)) λh' f=>bf (q h' f))
theorem VX(e:h (.ay n)=some (.lst (bd.map sv)))(ok:∀y∈bd,wV y)(q:∀h',Ext h h'->Wk 16 (aK n x) Go h' P):Wk 16 (aK n x) PA h P:=
 a8 (Ik (Inv:=JH (aK n x) h) (xk rfl) (λa ks h' I=>I.casesOn λf=>f.old e) (.mk .refl) (λa y r ks h' es I P' t=>I.casesOn λf=>VR (ok y (es▸cD _ (.head _))) rfl λbP f'=>t.nx (.mk (f.trans f')) rfl) λks h' I=>I.casesOn λf=>bf (bi (q _ f)))
theorem VW{r:aH}(e:h (.ay n)=some (.lst (r.2.map sv)))(G:GB T R h)(ok:wQ r)(q:Wk 16 (DZ n r) Gn h P):Wk 16 (aK n r.1) Go h P:=by
 have np:(⟨"%prec",by decide+kernel⟩:Sy)∉r.2:=λz=>(ok.syms _ z).prec rfl
 refine a8 (dy (Mn (x:=⟨"%prec",by decide+kernel⟩) df (xk rfl) e (cQ np)) ?_)
 refine G.tm.casesOn λ{c} D _=>D.d.elim λi ed=>G.pr.elim λj ep=>?_
 have go:∀v,(∀Q:ab,Q (.tup [.str "right",.int 0]) h->eY [.ref qb,v,.tup [.str "right",.int 0]] h Q)->Wk 16 ((9,v)::aK n r.1) (aZ 10 (bY (aE (an 0) "Precedence") "dict" eY (aA (an 9) (aA (eO (aA (bR "right") (aA (aM 0) aD))) aD)))) h (ij Pz P):=λv kv=>
  lF (v:=.tup [.str "right",.int 0]) (λg K Q z=>mR (xk rfl) G.g g K _ ⟨.aF ep,eE (xk rfl) (j4 (eE df bF)) g K _ (kv Q z)⟩)
   (bi (dC (v:=.str (fG r)) (UG (vp (IO (u:=r.1.1) (xk rfl) (aw ok.head.len (by decide))) (cB 0) ok.head.len rfl λh1=>vp df h1 (k:=4) (by decide+kernel) rfl λh2=>vp (ajG (xk rfl) e An ok.ahE ok.ahF ok.ahG ok.SZ) h2 ok.SZ rfl λ_=>OP)) (q.sub rfl)))
 exact dO (Φ:=λv h'=>h'=h/\∀Q:ab,Q (.tup [.str "right",.int 0]) h->eY [.ref qb,v,.tup [.str "right",.int 0]] h Q) (λg K Q z=>eE (v:=.ref (.ay n)) (xk rfl) (wc (xk rfl) G.g) g K _ (.mk e (aw ok.len (by decide)) ed (z _ _ ⟨rfl,λ_ k=>.none ep k⟩) λy=>z _ _ ⟨rfl,λ_ k=>.got (.three ep (fm y) k)⟩)) λv h' z=>by cases z.1;exact go v z.2
end
noncomputable def sf(n:Nat)(r:aH)(j:Nat):Ks:=(13,.int j)::DZ n r
inductive AI(T N:ai)(r:aH)(n j k:Nat)(h:H):ai->Ks->H->Prop
 |mk{a:ai}{h':H}:dU 9 10 T (k+a.length) h'->dU 11 12 (a.foldl (nC T) N) (k+a.length) h'->aC [10,11,12] h h'->AI T N r n j k h a (sf n r j) h'
section
variable{kk:EW}{av:H}{l:L}{R:List aH}{c:Sy->aj}{a b:EW}{cs:List String}{mh:SW}
theorem Wi(p:Ek ks m h v)(q:Ek ks o h (.ref l))(e:h l=some (.aF es i))(kv:cz 8 v)(hn:v∉es.map (·.1)):Eb ks (aT .In m o) h false:=fS p q λQ z=>ph.aF (Q:=λb=>Q (.bool b) h) e kv (λ_=>z) λw e'=>cK e' (Gf hn)
theorem Ij(D:dU d t rs k h)(hx:x∈rs)(nd:Nat.beq d t=false)(hk:k<900000)(po:Ek ks o h (.ref (lb d)))(pk:Ek ks kk h (sv x))(pn:Ek ks m h v)(q:∀h',dU d t rs (k+1) h'->aC [t] h h'->Wf n ks h' P):Wk n ks (cM (bY (a3 o kk) "list" de (aA m aD))) h P:=
 D.casesOn λD' b=>D'.d.elim λi e=>D.app hx nd λvs ev hl z=>kQ (lJ (f:=λx=>.ref (ls t x)) po pk e hx) ev (b7 hl (dD hk (by decide))) pn (q _ (z _) (aC.refl.upd (fF.mpr (.head _))))
theorem D6(m:y∈T):nC T N y=N:=bz m
theorem D7(m:y∉T):nC T N y=c4 N y:=bD m
theorem VY(G:eU h)(et:bj ks 14=some (sv x))(e0:bj ks 0=some (.ref gL))(ej:bj ks 13=some (.int j))(D:dU 11 12 N k h)(hl:N.length<1000)(hk:k<900000)(q:∀h',dU 11 12 (c4 N x) (k+1) h'->aC [11,12] h h'->Wf n ks h' P):Wk n ks PC h P:=by
 have fin:∀h',dU 11 12 (c4 N x) k h'->aC [11,12] h h'->Wf n ks h' (ij (cM (bY (a3 (aE (an 0) "Nonterminals") (an 14)) "list" de (aA (an 13) aD))) P):=λh' D f=>
  bi (Ij D (fU.mpr (.inr rfl)) rfl hk (mQ (xk e0) (G.same (f.same rfl))) (xk et) (xk ej) λbP D' f'=>q bP D' (f.trans (f'.wide rfl)))
 refine a8 (D.casesOn λD' b=>D'.d.elim λi e=>o3 (Er (xk et) (mQ (xk e0) G) e rfl) (λm=>?_) λm=>bf (fin h ((kr m).symm▸D) .refl))
 exact Cb e (D'.free m) (aw (cN hl) (by decide)) rfl (λs=>mQ (xk e0) (G.same s)) rfl (xk et) λi=>fin _ (D.put rfl i) ((aC.refl.upd rfl).upd rfl)
theorem VU(G:eU h)(e:h (.ay n)=some (.lst (r.2.map sv)))(hb:r.2.length<=100)(hk:k<=10000)(hN:N.length<800)(D1:dU 9 10 T k h)(D2:dU 11 12 N k h)(q:∀h',AI T N r n j k h r.2 (sf n r j) h'->Wk 16 (sf n r j) Gl h' P):Wk 16 (sf n r j) Gm h P:=by
 refine a8 (fB (Inv:=AI T N r n j k h) (xk rfl) (λa ks h' I=>I.casesOn λ_ _ f=>f.old e) (.mk (a:=[]) D1 D2 .refl) (λa y s ks h' es I P' t=>?_) λks h' I=>bf (bi (by cases I with|mk a b c=>exact q _ (.mk a b c))))
 cases I with
 |mk A B f=>
  have la:=(mid es).2
  have G':=G.same (f.same (fq:=[0]) rfl)
  have sk:k+a.length<900000:=b7 (fw hk (aw (cN la) hb)) (by decide)
  have go:∀{bP N'},nC T (a.foldl (nC T) N) y=N'->dU 9 10 T (k+a.length+1) bP->dU 11 12 N' (k+a.length+1) bP->aC [10,11,12] h bP->AI T N r n j k h (a++[y]) (sf n r j) bP:=λe A B f=>
   have ln:k+(a++[y]).length=k+a.length+1:=au (k+·) cw
   .mk (ln.symm▸A) (by rw [ln,List.foldl_append];show dU 11 12 (nC T _ y) _ _;rw [e];exact B) f
  refine A.casesOn λD' b=>D'.d.elim λi e=>n6 (p:=y∈T) (uS (xk rfl) (wc (xk rfl) G') e rfl) (λm=>?_) λm=>?_
  ·exact Ij A m rfl sk (wc (xk rfl) G') (xk rfl) (xk rfl) λbP A' f'=>t.nx (go (D6 m) A' ((B.same (f'.same rfl)).more (jj _)) (f.trans (f'.wide rfl))) rfl
  ·exact VY G' rfl rfl rfl B (b7 (E0 λ_ _=>VO) (dD (Vr hN (wC 1 (aw (cN la) hb))) (by decide))) sk λbP B' f'=>t.nx (go (D7 m) ((A.same (f'.same rfl)).more (jj _)) B' (f.trans (f'.wide rfl))) rfl
theorem Zh:bL R=once [] (R.map (·.1)):=List.foldl_map.symm
theorem iK:x∈bL R↔∃r∈R,r.1=x:=Zh▸vy.trans ⟨λz=>z.elim (λz=>absurd z a0) bg.1,λz=>.inr (bg.2 z)⟩
theorem Sm(h:x∉bL R):ig x R=[]:=by
 unfold ig
 rw [List.filter_eq_nil_iff.mpr λp hp z=>h (iK.mpr ⟨p.1,List.fst_mem_of_mem_zipIdx hp,of_decide_eq_true z⟩)]
 rfl
theorem VZ(G:GB T R av)(F:aC [2,4,5,6,7,8,10,11,12] av h)(fp:∀i,i≠R.length+1->h (pL i)=av (pL i)/\h (uL i)=av (uL i))(p:lU (R.length+1) r.1 r.2 h)(e5:h gw=some (.lst ((v::(List.range R.length).map λi=>cq (i+1))++[cq (R.length+1)])))
 (e8:h yA=some (.aF (es++[(.str (fG r),w)]) j))(ek:es.map (·.1)=R.map λr=>.str (fG r))(pn:Dl 6 7 (c4 (bL R) r.1) (λx=>(ig x (R++[r])).map cq) h)(tm:dU 9 10 T (100*(R.length+1)) h)(nt:dU 11 12 (a7 T (R++[r])) (100*(R.length+1)) h):GB T (R++[r]) h:=by
 have ln:(R++[r]).length=R.length+1:=cw
 refine⟨G.g.same (F.same rfl),⟨v,?_⟩,λi x b z=>?_,Zi▸pn,⟨_,_,e8,?_⟩,ln▸tm,ln▸nt,G.fi.imp λ_ z=>(F.at_ _ _ rfl).trans z,G.fo.imp λ_ z=>(F.at_ _ _ rfl).trans z,G.pr.imp λ_ z=>(F.at_ _ _ rfl).trans z,λi z=>?_⟩
 ·rw [e5,ln,List.range_succ,List.map_append];rfl
 ·refine(lR i R.length).elim (λhi=>?_) λhi=>?_
  ·rw [List.getElem?_append_left hi] at z
   have q:=fp (i+1) λe=>m8 hi (zR e)
   exact(G.prod i x b z).casesOn λz na u=>.mk (q.1.trans z) na (q.2.trans u)
  ·have xV:=(cm.1 z).1
   rw [ln] at xV
   have e:i=R.length:=iz (ji xV) hi
   subst e
   rw [List.getElem?_append_right (Nat.le_refl _),Nat.sub_self] at z
   cases bc z
   exact p
 ·rw [List.map_append,List.map_append,ek];rfl
 ·rw [ln] at z
  have q:=fp i (z.elim (λz=>jk z) λz e=>Nat.noConfusion (z.symm.trans e))
  have y:=G.f2 i (z.imp_left λz=>Nat.lt_of_succ_lt z)
  exact⟨q.1.trans y.1,q.2.trans y.2⟩
theorem ai0(pa:Ek ks a h (.ref l))(pb:Ek ks b h w)(e:h l=some (.aF es i))(hk:cz 8 w){l':L}(ev:cg es w=some (.ref l'))(el:h l'=some (.lst vs))(hl:vs.length<1000000)(pm:Ek ks m h u)(q:Wf n ks (h.upd l' (.lst (vs++[u]))) P):Wk n ks (BF (n7 a (xE b)) "list" de (aA m aD) cs mh) h P:=
 λg K=>pa g K.at_ _ (pb g K.at_ _ (.inl (.aF hk e ev ⟨.lst el,pm g K.at_ _ (.mk el hl (q g K))⟩)))
theorem ai1(pa:Ek ks a h (.ref l))(pb:Ek ks b h w)(e:h l=some (.aF es i))(hk:cz 8 w)(ev:cg es w=none)(mc:"KeyError"∈cs)(q:Wk n ks mh h P){ms:fZ}:Wk n ks (BF (n7 a (xE b)) "list" de ms cs mh) h P:=λg K=>pa g K.at_ _ (pb g K.at_ _ (.inr (.key e hk ev ⟨mc,q g K⟩)))
end
inductive Lf(i:Nat)(x:Sy)(b:ai)(h:H):ab
 |mk{h':H}:lU i x b h'->dz (pL i) (uL i) h h'->Lf i x b h (cq i) h'
structure AF(T:ai)(R:List aH)(r:aH)(av h:H):Prop where
 fr:aC [2,4,10,11,12] av h
 fp:∀i,i≠R.length+1->h (pL i)=av (pL i)/\h (uL i)=av (uL i)
 p:lU (R.length+1) r.1 r.2 h
 tm:dU 9 10 T (100*(R.length+1)) h
 nt:dU 11 12 (a7 T (R++[r])) (100*(R.length+1)) h
noncomputable abbrev LX(n:Nat)(r:aH)(j:Nat):Ks:=(15,cq j)::sf n r j
section
variable{av:H}{l:L}{R:List aH}{us:aj}
theorem kK(e:i≠j):li t i≠li t j:=λz=>e (wN (gE (L.mk.inj z).2.2).1).1
theorem dz.cO(f:dz (pL i) (uL i) h h'):aC [2,4] h h':=⟨λe=>f.old e dB dB,λs ix m=>f.at_ (kI m rfl) (kI m rfl)⟩
theorem V4(G:GB T R av)(A:AF T R r av h)(F:aC [5,8] h h')(sm:R.length<99)(e5:h' gw=some (.lst ((v::(List.range R.length).map λi=>cq (i+1))++[cq (R.length+1)])))
 (e8:h' yA=some (.aF (es++[(.str (fG r),w)]) j))(ek:es.map (·.1)=R.map λr=>.str (fG r))(q:∀h',GB T (R++[r]) h'->aC iI av h'->∀g,P .next g h'):Wk 16 (LX n r (R.length+1)) (BF (n7 (aE (an 0) "Prodnames") (xE (an 1))) "list" de (aA (an 15) aD) ["KeyError"] (aS (cu (aE (an 0) "Prodnames") (an 1)) (cx (aA (an 15) aD)))) h' P:=by
 have F0:aC [2,4,5,8,10,11,12] av h':=(A.fr.wide rfl).trans (F.wide rfl)
 have D:=G.pn.same (F0.same rfl)
 have Gg:=G.g.same (F0.same rfl)
 have o:∀y,y≠r.1->(ig y (R++[r])).map cq=(ig y R).map cq:=λy z=>by rw [HD,if_neg λe=>z e.symm,List.append_nil]
 have done:∀bP,aC [6,7] h' bP->Dl 6 7 (c4 (bL R) r.1) (λx=>(ig x (R++[r])).map cq) bP->∀g,P .next g bP:=λbP f D=>
  have F1:aC [2,4,5,6,7,8,10,11,12] av bP:=(F0.wide rfl).trans (f.wide rfl)
  have f1:aC [5,6,7,8] h bP:=(F.wide rfl).trans (f.wide rfl)
  q bP (VZ G F1 (λi z=>⟨(f1.at_ _ _ rfl).trans (A.fp i z).1,(f1.at_ _ _ rfl).trans (A.fp i z).2⟩) (A.p.same (f1.same rfl)) ((f.at_ _ _ rfl).trans e5) ((f.at_ _ _ rfl).trans e8) ek D (A.tm.same (f1.same rfl)) (A.nt.same (f1.same rfl))) (F1.wide rfl)
 refine D.d.elim λi e6=>(aN (r.1∈bL R)).elim (λm=>?_) λm=>?_
 ·exact ai0 (y7 (xk rfl) Gg) (xk rfl) e6 (fm _) (tJ m) (D.get m) (b7 (aw (aL (bx _)) afM) (qB sm (by decide))) (xk rfl) λg K=>
   done _ (aC.refl.upd rfl) (Eq.subst (motive:=λN=>Dl 6 7 N _ _) (kr m).symm (D.turn m rfl (by rw [HD,if_pos rfl,List.map_append];rfl) o)) g
 ·exact ai1 (y7 (xk rfl) Gg) (xk rfl) e6 (fm _) (yH m) (.head _) (Ir (vs:=[cq (R.length+1)]) (iS (xk rfl)) (eH rfl) e6 (D.free m) (aw Fj (aw (cN sm) (by decide))) rfl (λs=>y7 (xk rfl) (Gg.same s)) rfl (xk rfl) λi g K=>
   done _ ((aC.refl.upd rfl).upd rfl) (D.put rfl (by rw [HD,if_pos rfl,Sm m];rfl) (λy _=>o y) i) g)
theorem VS(G:GB T R av)(A:AF T R r av h)(sm:R.length<99)(key:PyData.strOk (fG r)=true)(new:fG r∉R.map fG)(q:∀h',GB T (R++[r]) h'->aC iI av h'->∀g,P .next g h'):Wk 16 (LX n r (R.length+1)) Py h P:=by
 have Gg:=G.g.same (A.fr.same rfl)
 refine G.nW.elim λv e5=>G.pm.elim λes z=>z.elim λi z=>?_
 have nk:V.str (fG r)∉es.map (·.1):=λm=>(bg.1 (z.2▸m)).elim λr' m=>new (bg.2 ⟨r',m.1,V.str.inj m.2⟩)
 have el:es.length=R.length:=(bx _).symm.trans ((au List.length z.2).trans (bx _))
 have ll:(v::(List.range R.length).map λi=>cq (i+1)).length=R.length+1:=au Nat.succ ((bx _).trans iw)
 refine a8 (kQ (mS (xk rfl) Gg) ((A.fr.at_ _ _ rfl).trans e5) (ll▸qB (wG sm) (by decide)) (xk (v:=cq (R.length+1)) rfl) (bi (a8 (kR (v:=cq (R.length+1)) (w:=.str (fG r)) (xk rfl) (UQ (xk rfl) (Gg.same (bC.upd rfl))) (xk rfl) (aW ((A.fr.at_ _ _ rfl).trans z.1) (bw rfl)) (el▸aw (cN sm) (by decide)) (.str key) λi=>bi ?_))))
 exact V4 G A ((aC.refl.upd rfl).upd rfl) sm (aW H.aJ (bw rfl)) (H.aJ.trans (au (λx=>some (O.aF x i)) (Bu nk))) z.2 q
theorem VT(G:GB T R av)(ok:wQ r)(e:av (.ay n)=some (.lst (r.2.map sv)))(sm:R.length<99)(new:fG r∉R.map fG)(I:AI T (c4 (a7 T R) r.1) r n (R.length+1) (100*R.length) av r.2 ks h)(q:∀h',GB T (R++[r]) h'->aC iI av h'->∀g,P .next g h'):Wk 16 ks Gl h P:=by
 cases I with
 |mk a b f=>
  have f2:=G.f2 (R.length+1) (.inl (jM _))
  have le:100*R.length+r.2.length<=100*(R.length+1):=eV ok.len _
  refine dO (Φ:=Lf (R.length+1) r.1 r.2 h) (x_call (kS (xk rfl) (kS (xk rfl) (kS (xk rfl) (kS (xk rfl) (kS (xk rfl) (eE (xk rfl) (xk rfl))))))) λQ z=>⟨_,_,_,rfl,.mk (f.old e) ok.len (bq.2 ⟨ok.head.len,λy m=>(ok.syms y m).len⟩) ((f.at_ _ _ rfl).trans f2.1) ((f.at_ _ _ rfl).trans f2.2) λh' p F=>z _ _ (.mk p F)⟩) λv h' z=>?_
  cases z with
  |mk p F=>
   have FT:=F.cO
   exact VS G ⟨(f.wide rfl).trans (FT.wide rfl),λi ne=>⟨(F.at_ (kK ne) (bw rfl)).trans (f.at_ _ _ rfl),(F.at_ (bw rfl) (kK ne)).trans (f.at_ _ _ rfl)⟩,p,(a.same (FT.same rfl)).more le,aeO▸(b.same (FT.same rfl)).more le⟩ sm ok.key new q
theorem VV(G:GB T R h)(ok:wQ r)(e:h (.ay n)=some (.lst (r.2.map sv)))(sm:R.length<99)(new:fG r∉R.map fG)(hN:(a7 T R).length<=500)(q:∀h',GB T (R++[r]) h'->aC iI h h'->∀g,P .next g h'):Wk 16 (DZ n r) Gn h P:=by
 refine G.nW.elim λv e5=>G.pm.elim λes z=>z.elim λi z=>G.nt.casesOn λD b=>D.d.elim λi' ed=>?_
 have nk:V.str (fG r)∉es.map (·.1):=λm=>(bg.1 (z.2▸m)).elim λr' m=>new (bg.2 ⟨r',m.1,V.str.inj m.2⟩)
 have ll:(v::(List.range R.length).map λi=>cq (i+1)).length=R.length+1:=au Nat.succ ((bx _).trans iw)
 refine io (Wi (v:=.str (fG r)) (xk rfl) (UQ (xk rfl) G.g) z.1 (.str ok.key) nk) (dC (rI (mS (xk rfl) G.g) e5 (ll▸aw (cN (wG sm)) (by decide)) (au _ ll)) ?_)
 have hk:100*R.length<=10000:=aw (wC 100 (cN sm)) (by decide)
 have go:∀h',dU 11 12 (c4 (a7 T R) r.1) (100*R.length) h'->aC [11,12] h h'->Wf 16 (sf n r (R.length+1)) h' (ij Gm P):=λh' b f=>
  bi (VU (G.g.same (f.same rfl)) (f.old e) ok.len hk (b7 uN (b7 (cS hN) (by decide))) (G.tm.same (f.same rfl)) b λbP I=>VT G ok e sm new (I.casesOn λa b f'=>.mk a b ((f.wide rfl).trans f')) q)
 refine a8 (o3 (Er (xk rfl) (mQ (xk rfl) G.g) ed rfl) (λm=>?_) λm=>bf (go h ((kr m).symm▸G.nt) .refl))
 exact Cb ed (D.free m) (aw hN (by decide)) rfl (λs=>mQ (xk rfl) (G.g.same s)) rfl (xk rfl) λi=>go _ (G.nt.put rfl i) ((aC.refl.upd rfl).upd rfl)
theorem V3(q:JT us h Q):Pu (us.map some++List.replicate 19 none) h λfl _ h'=>Q (c7 fl) h':=by
 cases q with
 | @mk T R r n e G hd err ok new sm hN q=>
  have nx:r.1≠oC:=λz=>hd (z▸err)
  refine G.tm.casesOn λD _=>D.d.elim λi et=>?_
  refine(io (n:=16) (uS (xk rfl) (wc (xk rfl) G.g) et (cQ hd)) (io (ow (y:=oC) (xk rfl) df (cQ nx)) (aiX (Mm (xk rfl) ok.head.id) λh1 f1=>?_))) _ (Kn.dA (ks:=aK n r.1) rfl rfl)
  exact VX (f1.old e) ok.syms λh2 f2=>
   have f:=f1.trans f2
   have G2:=G.same (bC.of f)
   VW (f.old e) G2 ok (VV G2 ok (f.old e) sm new hN λh' G' F g=>q h' G' ((aC.of f).trans F))
end
noncomputable abbrev cY(S:Sy)(R:List aH):List aH:=(iO,[S])::R
inductive Em(l:L)(h:H):Prop
 |mk{n:Nat}:h l=some (.aF [] n)->Em l h
structure GP(T:ai)(R:List aH)(S:Sy)(h:H):Prop where
 g:eU h
 nW:h gw=some (.lst ((List.range (R.length+1)).map cq))
 pn:Dl 6 7 (bL R) (λx=>(ig x R).map cq) h
 tm:∃n,h BX=some (.aF (rows T λx=>.ref (H9 x)) n)
 nt:∃n,h Hg=some (.aF (rows (a7 T R) λx=>.ref (Hh x)) n)
 pr:Em qb h
 us:∀i x b,(cY S R)[i]?=some (x,b)->h (uL i)=some (.lst ((once [] b).map sv))
noncomputable abbrev AA:List Nat:=[0,4,5,6,7,9,11,17]
inductive k5(i:Nat)(x:Sy)(b:ai)(f:(ac)->Prop)(h:H):Prop
 |mk{ext:ac}:h (pL i)=some (.inst .dg (gR i x b ext))->f ext->k5 i x b f h
noncomputable def k7(S:Sy)(R:List aH)(f:(ac)->Prop)(h:H):Prop:=∀i x b,(cY S R)[i]?=some (x,b)->k5 i x b f h
inductive Lx(h:H)(Q:ab):aj->Prop
 |mk{T:ai}{R:List aH}{S:Sy}:GB T R h->R.length<100->S∈a7 T R->0<S.1.length->S.1.length<=100->(∀h',GP T R S h'->k7 S R gY h'->Em kH h'->Em iH h'->aC [0,2,4,5,12] h h'->Q .none h')->Lx h Q [.ref gL,sv S]
noncomputable def wh:b6:=λus h Q=>Lx h Q us
noncomputable def JS:b6:=λus h Q=>∃i x sl,us=[.int (i:Nat),sv x,.ref sl]/\zX h Q i x sl
noncomputable def Q0:SW:=aB (cM (bY (a3 (aE (an 0) "Nonterminals") (an 1)) "list" de (aA (aM 0) aD))) (aS (b5 (an 0) "Start") (an 1))
noncomputable def aeb:SW:=aB (aS (cu (aE (an 0) "Productions") (aM 0)) (bv JS (aA (aM 0) (aA (bR "S'") (aA (cx (aA (an 1) aD)) aD))))) Q0
noncomputable def aec:SW:=aB (a9 (aT .NotIn (an 1) (aE (an 0) "Nonterminals")) jV aO) aeb
noncomputable def aed:SW:=aB (a9 (gm (bE (an 1))) (aZ 1 (aE (a3 (aE (an 0) "Productions") (aM 1)) "name")) aO) aec
noncomputable def QZ:SW:=aed
section
variable{av:H}{l:L}{R:List aH}{us:aj}{f f':(ac)->Prop}{z:Str}
theorem Em.same(e:Em l h)(q:h' l=h l):Em l h':=e.casesOn λz=>.mk (q.trans z)
theorem GP.same(G:GP T R S h)(e:bC AA h h'):GP T R S h':=⟨G.g.same (e.sub rfl),(e _ _ _ rfl).trans G.nW,G.pn.same (e.sub rfl),G.tm.imp λ_ z=>(e _ _ _ rfl).trans z,G.nt.imp λ_ z=>(e _ _ _ rfl).trans z,G.pr.same (e _ _ _ rfl),λi x b z=>(e _ _ _ rfl).trans (G.us i x b z)⟩
theorem k5.at_(p:k5 i x b f h)(e:h' (pL i)=h (pL i)):k5 i x b f h':=p.casesOn λz w=>.mk (e.trans z) w
theorem k5.imp(p:k5 i x b f h)(e:∀a,f a->f' a):k5 i x b f' h:=p.casesOn λz w=>.mk z (e _ w)
theorem k7.same(p:k7 S R f h)(e:bC [2] h h'):k7 S R f h':=λi x b z=>(p i x b z).at_ (e _ _ _ rfl)
theorem Wq(p:Ek ks m h (.str z))(hl:z.length<=1000000)(h0:0<z.length):Eb ks (bE m) h true:=λg K _ q=>p g K _ (.str hl ((lg.2 λe=>jk h0 (jJ e):((z.length:Int)!=0)=true).symm▸q))
theorem aiV(p:Ex ks m h Φ)(q:∀v h',Φ v h'->Ek ks o h' (.ref l)/\Ek ks m' h' (.int j)/\∃vs,h' l=some (.lst vs)/\vs.length<=1000000/\j<vs.length/\Wf n ks (h'.upd l (.lst (vs.set j v))) P):Wk n ks (aS (cu o m') m) h P:=
 λg K=>p g K.at_ _ λv h' z=>(q v h' z).elim λpo z=>z.elim λpj z=>z.elim λvs z=>po g K.at_ _ (pj g K.at_ _ (.lst z.1 z.2.1 (gx _) (iW.2 z.2.2.1) (z.2.2.2 g K)))
theorem ajc{m₁ m₂ Re:EW}{Ih Ii:V}{F:b6}{Ψ:ab}(af':Ek ks m₁ h Ih)(aga:Ek ks m₂ h Ii)(agb:Ex ks Re h Ψ)(q:∀v h',Ψ v h'->∀Q:ab,(∀v h',Φ v h'->Q v h')->F [Ih,Ii,v] h' Q):Ex ks (bv F (aA m₁ (aA m₂ (aA Re aD)))) h Φ:=λg K Q z=>af' g K _ (aga g K _ (agb g K _ λv h' w=>q v h' w Q z))
theorem ahY(G:GB T R h)(sm:R.length<100)(hS:S∈a7 T R)(p:lU 0 iO [S] h')(F:aC [2,4] h h')(fp:∀i,h' (pL (i+1))=h (pL (i+1))/\h' (uL (i+1))=h (uL (i+1)))
 (q:∀h',GP T R S h'->k7 S R gY h'->Em kH h'->Em iH h'->aC [0,2,4,5,12] h h'->∀g,P .next g h')(e0:bj ks 0=some (.ref gL))(e1:bj ks 1=some (sv S)):Wk n ks Q0 (h'.upd gw (.lst ((List.range (R.length+1)).map cq))) P:=by
 have G0:eU h':=G.g.same (F.same rfl)
 have G1:eU (h'.upd gw (.lst ((List.range (R.length+1)).map cq))):=G0.same (bC.upd rfl)
 have D:dU 11 12 (a7 T R) (100*R.length) (h'.upd gw (.lst ((List.range (R.length+1)).map cq))):=(G.nt.same (F.same rfl)).same (bC.upd rfl)
 refine a8 (Ij D hS rfl (dD (Nat.mul_lt_mul_of_pos_left sm (by decide)) (by decide)) (mQ (xk e0) G1) (xk e1) bF λh2 D2 F2=>bi ?_)
 have F0:aC [2,4,5] h (h'.upd gw (.lst ((List.range (R.length+1)).map cq))):=(F.wide rfl).upd rfl
 have F3:aC [2,4,5,12] h h2:=(F0.wide rfl).trans (F2.wide rfl)
 have G2:=G1.same (F2.same rfl)
 cases G2 with
 | @mk ext eg na=>
  refine t7 (xk e1) (xk e0) eg λg _=>?_
  have F4:aC [0,2,4,5,12] h (h2.upd gL (.inst .dX (bT (E5 ext) "Start" (sv S)))):=(F3.wide rfl).upd rfl
  have s2:aC [0,5,12] h' (h2.upd gL (.inst .dX (bT (E5 ext) "Start" (sv S)))):=((aC.refl.upd (h:=h') (t:=5) (s:=Str.empty) (ix:=[]) (o:=.lst ((List.range (R.length+1)).map cq)) rfl).trans (F2.wide rfl)).upd rfl
  have pa:∀i x b,(cY S R)[i]?=some (x,b)->lU i x b h':=λi x b z=>by
   cases i with
   |zero=>cases z;exact p
   |succ i=>exact(G.prod i x b z).casesOn λw na u=>.mk ((fp i).1.trans w) na ((fp i).2.trans u)
  refine q _ ⟨.mk (ext:=bT ext "Start" (sv S)) (qQ (fs:=xL) (ext:=ext) (nm:="Start") (v:=sv S) (by kernel_rfl)▸H.aJ) λn m=>(i4 (by rintro rfl;revert m;decide+kernel)).trans (na n m),aW ((F2.at_ _ _ rfl).trans H.aJ) (bw rfl),G.pn.same (F4.same rfl),G.tm.casesOn λD _=>D.d.imp λ_ z=>(F4.at_ _ _ rfl).trans z,G.nt.casesOn λD _=>D.d.imp λ_ z=>(F4.at_ _ _ rfl).trans z,
   G.pr.elim λ_ z=>.mk ((F4.at_ _ _ rfl).trans z),λi x b z=>(pa i x b z).casesOn λ_ _ u=>(s2.at_ _ _ rfl).trans u⟩ (λi x b z=>(pa i x b z).casesOn λw na _=>.mk ((s2.at_ _ _ rfl).trans w) na) (G.fi.elim λ_ z=>.mk ((F4.at_ _ _ rfl).trans z)) (G.fo.elim λ_ z=>.mk ((F4.at_ _ _ rfl).trans z)) F4 g
theorem ahZ(q:wh us h Q):QZ (us.map some++[none,none]) h λfl _ h'=>Q (c7 fl) h':=by
 cases q with
 | @mk T R S G sm hS l0 l1 q=>
  refine G.nt.casesOn λD b=>D.d.elim λi e=>G.nW.elim λv e5=>?_
  have f2:=G.f2 0 (.inr rfl)
  have ll:(v::(List.range R.length).map λi=>cq (i+1)).length=R.length+1:=au Nat.succ ((bx _).trans iw)
  have pS:∀{h},Ek [(1,sv S),(0,.ref gL)] (an 1) h (sv S):=xk rfl
  have pG:∀{h},Ek [(1,sv S),(0,.ref gL)] (an 0) h (.ref gL):=xk rfl
  refine(io (n:=2) (gb (Wq pS (aw l1 (by decide)) l0) rfl) (io (Er pS (mQ pG G.g) e (by rw [decide_eq_true hS];rfl)) (a8 (aiV (l:=gw) (j:=0) (Φ:=λv h'=>v=cq 0/\lU 0 iO [S] h'/\dz (pL 0) (uL 0) h h') ?_ λv' h' z=>?_)))) _ (Kn.dA (ks:=[(1,sv S),(0,.ref gL)]) rfl rfl)
  ·refine ajc bF df (v9 (iS pS) (eH rfl)) λv h' z Q' k=>?_
   cases z with
   | @mk n hn=>exact⟨0,iO,.ay n,rfl,.mk (b:=[S]) H.aJ (eH rfl) (bq.2 ⟨by decide+kernel,bq.2 ⟨l1,λ_ z=>absurd z a0⟩⟩) ((H.bp dZ).trans f2.1) ((H.bp dZ).trans f2.2) λh' p F=>k _ _ ⟨rfl,p,(dz.refl.ay hn).trans F⟩⟩
  ·cases z.1
   have F:=z.2.2.cO
   refine⟨mS pG (G.g.same (F.same rfl)),bF,_,(F.at_ _ _ rfl).trans e5,ll▸aw sm (by decide),ll▸iA _,bi ?_⟩
   have el:(v::(List.range R.length).map λi=>cq (i+1)).set 0 (cq 0)=(List.range (R.length+1)).map cq:=by rw [List.range_succ_eq_map,List.map_cons,List.map_map];rfl
   rw [el]
   exact ahY G sm hS z.2.1 F (λi=>⟨z.2.2.at_ (kK (wH i)) (bw rfl),z.2.2.at_ (bw rfl) (kK (wH i))⟩) (λh' a b c d e g=>q h' a b c d e) rfl rfl
end
noncomputable abbrev nP(i:Nat):L:=li 19 i
noncomputable abbrev pP(p:It):L:=.mk 21 Str.empty [p]
noncomputable def ou(R:List aH)(p:It)(b:ai):L:=match b[p.2]? with
 |some y=>if y∈bL R then vL y else pP p
 |none=>pP p
noncomputable def yq(i j:Nat)(b:ai):V:=if j<b.length then .ref (iL (i,j+1)) else .none
noncomputable def Af(b:ai)(j:Nat):V:=(oU ((jt b j).map sv) ((j:Int) - 1)).getD .none
noncomputable def Ft(R:List aH)(i j:Nat)(x:Sy)(b:ai):List (Str×V):=x4 i j x b++([("lr_after",.ref (ou R (i,j) b))]:List (Str×V))++([("lr_before",Af b j)]:List (Str×V))
noncomputable def Fv(R:List aH)(i j:Nat)(x:Sy)(b:ai):List (Str×V):=Ft R i j x b++([("lr_next",yq i j b)]:List (Str×V))
inductive m7(R:List aH)(i j:Nat)(x:Sy)(b:ai)(nx:Bool)(h:H):Prop
 |mk{ext:ac}:h (iL (i,j))=some (.inst .item (eX (bif nx then Fv R i j x b else Ft R i j x b) ext))->h (dL (i,j))=some (.aF [] 0)->(ou R (i,j) b=pP (i,j)->h (pP (i,j))=some (.lst []))->m7 R i j x b nx h
noncomputable def iU(k:It)(h h':H):Prop:=∀t s k' r,k'≠k->h' (.mk t s (k'::r))=h (.mk t s (k'::r))
noncomputable def gW(i:Nat)(h h':H):Prop:=∀t s k r,k.1≠i->h' (.mk t s (k::r))=h (.mk t s (k::r))
inductive Kk(h:H)(Q:ab):aj->Prop
 |mk{i j:Nat}{x:Sy}{b:ai}{ext:ac}:h (pL i)=some (.inst .dg (gR i x b ext))->j<=b.length->b.length<=100->h (iL (i,j))=none->h (dL (i,j))=none->
  (∀ext h',dz (iL (i,j)) (dL (i,j)) h h'->h' (iL (i,j))=some (.inst .item (qU i j x b ext))->h' (dL (i,j))=some (.aF [] 0)->Q (.ref (iL (i,j))) h')->Kk h Q [.ref (pL i),.int j]
noncomputable def CE:b6:=λus h Q=>Kk h Q us
noncomputable def PF:SW:=aB (yJ (b5 (an 5) "lr_after") (n7 (aE (an 0) "Prodnames") (n7 (aE (an 5) "prod") (xE (cR .Add (an 3) (aM 1))))) ["IndexError","KeyError"] (aS (b5 (an 5) "lr_after") (cx aD))) (yJ (b5 (an 5) "lr_before") (n7 (aE (an 5) "prod") (xE (cR .Sub (an 3) (aM 1)))) ["IndexError"] (aS (b5 (an 5) "lr_before") i8))
noncomputable def ab2:SW:=aB (aZ 5 (bv CE (aA (an 1) (aA (an 3) aD)))) PF
noncomputable def ab3:SW:=aB (aZ 2 (an 5)) (tL .Add 3 (aM 1))
noncomputable def ab4:SW:=aB (cM (bY (an 4) "list" de (aA (an 5) aD))) ab3
noncomputable def ab5:SW:=aB (a9 (gm (bE (an 5))) q8 aO) ab4
noncomputable def Gp:SW:=aB (aS (b5 (an 2) "lr_next") (an 5)) ab5
noncomputable def ab6:SW:=aB (a9 (aT .Gt (an 3) (bv dQ (aA (an 1) aD))) (aZ 5 i8) ab2) Gp
noncomputable def PH:SW:=aB (o5 (bE (hX true)) ab6 aO) (aS (b5 (an 1) "lr_items") (an 4))
noncomputable def ab7:SW:=aB (aZ 4 (cx aD)) PH
noncomputable def ab0:SW:=aB (aZ 3 (aM 0)) ab7
noncomputable def ab1:SW:=aB (aZ 2 (an 1)) ab0
noncomputable def PD:SW:=bX (bB (aE (an 0) "Productions")) false (a5 1) ab1 aO
noncomputable def uW(i j:Nat)(l:L):Ks:=[(4,.ref (nP i)),(3,.int j),(2,.ref l),(1,.ref (pL i)),(0,.ref gL)]
noncomputable abbrev uV(i j:Nat)(l:L):Ks:=(5,.ref (iL (i,j)))::uW i j l
section
variable{j':Nat}{av:H}{l la:L}{ss:ai}{R:List aH}{us:aj}{f:Sy->V}{a mj:EW}{mh:SW}{C:CN}{ext:ac}{nm:Str}{fs:List (Str×V)}{cs:List String}{nx:Bool}{q:Int}
theorem Au(e:fs.lookup nm=none):bT (eX fs ext) nm v=eX (fs++[(nm,v)]) ext:=vc λx=>by
 unfold eX
 rw [List.lookup_append]
 refine(aN (x=nm)).elim (λz=>?_) λz=>?_
 ·rw [z,kA,e,List.lookup_cons_self];rfl
 ·rw [i4 z,List.lookup_cons,beq_eq_false_iff_ne.mpr z];exact au (Option.or · (ext x)) (Option.or_none (o:=fs.lookup x)).symm
theorem ai2(pa:Ek ks a h (.ref l))(e:h l=some (.aF (rows xs f) i))(pt:Ek ks m h (.tup (ss.map sv)))(pj:Ek ks mj h (.int j))(hj:j<=1000000)(po:Ek ks o h (.ref la))(eo:h la=some (.inst C as))
 (q1:∀y,ss[j]?=some y->y∈xs->Wf n ks (h.upd la (.inst C (bT as nm (f y)))) P)(q2:(∀y,ss[j]?=some y->y∉xs)->Wk n ks mh h P)(c1:"IndexError"∈cs)(c2:"KeyError"∈cs):Wk n ks (yJ (b5 o nm) (n7 a (n7 m (xE mj))) cs mh) h P:=λg K=>pa g K.at_ _ (pt g K.at_ _ (pj g K.at_ _ (by
 cases ey:ss[j]? with
 |none=>exact .inr (.idx (jK.2 (aw (aL (bx _)) (lQ.1 ey))) (jK.2 hj) ⟨c1,q2 (λy z=>cK z ey|>False.elim) g K⟩)
 |some y=>exact .inl (.tup (tM hj) (yG (eL.trans (au (Option.map sv) ey))) ((aN (y∈xs)).elim (λm=>.inl (.aF (fm y) e (tJ m) (po g K.at_ _ (.mk eo (q1 y ey m g K))))) λm=>.inr (.key e (fm y) (yH m) ⟨c2,q2 (λy' z=>bc (ey.symm.trans z)▸m) g K⟩))))))
theorem ai3(pt:Ek ks m h (.tup vs))(pj:Ek ks mj h (.int q))(sm:Small q)(er:oU vs q=some v)(po:Ek ks o h (.ref la))(eo:h la=some (.inst C as))(w:Wf n ks (h.upd la (.inst C (bT as nm v))) P):Wk n ks (yJ (b5 o nm) (n7 m (xE mj)) cs mh) h P:=
 λg K=>pt g K.at_ _ (pj g K.at_ _ (.inl (.tup sm er (po g K.at_ _ (.mk eo (w g K))))))
theorem SA(hj:j<=b.length):oU ((jt b j).map sv) ((j:Int) - 1)=some (Af b j):=by
 have:∃v,oU ((jt b j).map sv) ((j:Int) - 1)=some v:=by
  have l0:0<((jt b j).map sv).length:=f5 (iA _) ((bx _).trans (xu hj)).symm
  cases j with
  |zero=>exact⟨_,(au (Option.bind · (((jt b 0).map sv)[·]?)) (ZJ l0)).trans (fu (Nat.sub_lt l0 Nat.one_pos))⟩
  |succ k=>exact⟨_,(au (oU _) (Db k 1)).trans (yG (fu (i:=k) (f5 (dD hj (jj _)) ((bx _).trans (xu hj)).symm)))⟩
 exact this.elim λv z=>z.trans (au some (au (Option.getD · V.none) z:Af b j=v).symm)
theorem Ws(hj:k<b.length)(e:b[k]?=some y):Af b (k+1)=sv y:=bc ((SA hj).symm.trans ((au (oU _) (Db k 1)).trans (yG (eL.trans (au (Option.map sv) ((Xy hj (jM _)).trans e))))))
theorem Md(e:b[j]?=some y)(m:y∈bL R):ou R (i,j) b=vL y:=by unfold ou;rw [e];exact bz m
theorem Ea(n:∀y,b[j]?=some y->y∉bL R):ou R (i,j) b=pP (i,j):=by
 unfold ou
 cases e:b[j]? with
 |none=>rfl
 |some y=>exact bD (n y e)
theorem iU.refl{k:It}:iU k h h:=λ_ _ _ _ _=>rfl
theorem iU.trans{k:It}(a:iU k h h')(b:iU k h' bP):iU k h bP:=λt s k' r n=>(b t s k' r n).trans (a t s k' r n)
theorem iU.upd{k:It}{s:Str}{r:ak}{o:O}(a:iU k h h'):iU k h (h'.upd (.mk t s (k::r)) o):=λt' s' k' r' n=>(H.bp λz=>n (gE (L.mk.inj z).2.2).1).trans (a t' s' k' r' n)
theorem dz.YI{k:It}(F:dz (iL k) (dL k) h h'):iU k h h':=λt s k' r n=>F.at_ (λz=>n (gE (L.mk.inj z).2.2).1) λz=>n (gE (L.mk.inj z).2.2).1
theorem dz.qT{k:It}(F:dz (iL k) (dL k) h h'):aC [3,20] h h':=⟨λe=>F.old e dB dB,λs ix m=>F.at_ (kI m rfl) (kI m rfl)⟩
theorem Wv(eg:eU h)(sJ:h yB=some (.aF (rows (bL R) λx=>.ref (vL x)) n))(e:h (iL (i,j))=some (.inst .item (qU i j x b ext)))(lk:h (dL (i,j))=some (.aF [] 0))(hj:j<=b.length)(hb:b.length<=100)(fa:h (pP (i,j))=none)
 (q:∀h',m7 R i j x b false h'->aC [3,21] h h'->iU (i,j) h h'->Wf 6 (uV i j l) h' P):Wk 6 (uV i j l) PF h P:=by
 have fin:∀h',h' (iL (i,j))=some (.inst .item (bT (qU i j x b ext) "lr_after" (.ref (ou R (i,j) b))))->(ou R (i,j) b=pP (i,j)->h' (pP (i,j))=some (.lst []))->aC [3,21] h h'->iU (i,j) h h'->Wf 6 (uV i j l) h' (ij (yJ (b5 (an 5) "lr_before") (n7 (aE (an 5) "prod") (xE (cR .Sub (an 3) (aM 1)))) ["IndexError"] (aS (b5 (an 5) "lr_before") i8)) P):=λh' e' ea F K=>by
  rw [Au (by kernel_rfl)] at e'
  refine bi (ai3 (jF (xk rfl) e' (by kernel_rfl)) (y9 (xk rfl) bF rfl) ⟨Int.sub_le_sub_right (gx j) 1|>m5 (by decide),m5 (Int.sub_le_self _ (by decide)) (jK.2 (aw hj (aw hb (by decide))))⟩ (SA hj) (xk rfl) e' (q _ (.mk (ext:=ext) (H.aJ.trans (au (λa=>some (O.inst .item a)) (Au (by kernel_rfl)))) (aW ((F.at_ _ _ rfl).trans lk) (bw rfl)) λz=>aW (ea z) (bw rfl)) (F.upd rfl) K.upd))
 have hd:=M6 hj
 refine a8 (ai2 (y7 (xk rfl) eg) sJ (ajp (xk rfl) e) (rD (xk rfl) bF rfl) (aw (cS (aw hj hb)) (by decide)) (xk rfl) e (λy ey m=>?_) (λno=>?_) (.head _) (.tail _ (.head _)))
 ·have ea:=Md (i:=i) (R:=R) (hd.symm.trans ey) m
  exact fin _ (H.aJ.trans (by rw [ea])) (λz=>absurd (ea.symm.trans z) (bw rfl)) (aC.refl.upd rfl) iU.refl.upd
 ·have ea:=Ea (i:=i) (R:=R) λy z=>no y (hd.trans z)
  exact λg K=>⟨bH _,gO (pP (i,j)) fa (K.at_ _ _ (show bj (uV i j l) 5=some (.ref (iL (i,j))) from rfl)|>λz=>⟨_,z,.mk (aW e (bw rfl)) (fin _ (H.aJ.trans (by rw [ea])) (λ_=>aW H.aJ (bw rfl)) ((aC.refl.upd rfl).upd rfl) iU.refl.upd.upd g K)⟩)⟩
end
noncomputable def jT(i:Nat):Nat->L
 |0=>pL i
 |j+1=>iL (i,j)
noncomputable def jA(i:Nat)(b:ai):Nat->V
 |0=>.ref (iL (i,0))
 |j+1=>yq i j b
noncomputable abbrev PN(i j:Nat)(ext:ac):Prop:=gY ext/\(0<j->ext "lr_next"=some (.ref (iL (i,0))))
noncomputable abbrev PJ(i:Nat)(ext:ac):Prop:=gY ext/\ext "lr_next"=some (.ref (iL (i,0)))/\ext "lr_items"=some (.ref (nP i))
noncomputable abbrev jR:List Nat:=[2,3,19,20,21]
structure BI(R:List aH)(i:Nat)(x:Sy)(b:ai)(av:H)(j:Nat)(h:H):Prop where
 bS:h (nP i)=some (.lst ((List.range j).map λj=>.ref (iL (i,j))))
 p:k5 i x b (PN i j) h
 done:∀j',j'<j->m7 R i j' x b (Nat.blt (j'+1) j) h
 free:∀{t} j',ca t [3,20,21]=true->j<=j'->h (.mk t Str.empty [(i,j')])=none
 fr:aC jR av h
 fA:gW i av h
inductive BV(R:List aH)(i:Nat)(x:Sy)(b:ai)(av:H)(m:Nat):Ks->H->Prop
 |mk{j:Nat}{h:H}:j+m=b.length+1->BI R i x b av j h->BV R i x b av m (uW i j (jT i j)) h
structure rU(R:List aH)(i:Nat)(x:Sy)(b:ai)(h:H):Prop where
 bS:h (nP i)=some (.lst ((List.range (b.length+1)).map λj=>.ref (iL (i,j))))
 p:k5 i x b (PJ i) h
 done:∀j,j<=b.length->m7 R i j x b true h
inductive Ki(i j:Nat)(x:Sy)(b:ai)(h:H):ab
 |mk{ext:ac}{h':H}:dz (iL (i,j)) (dL (i,j)) h h'->h' (iL (i,j))=some (.inst .item (qU i j x b ext))->h' (dL (i,j))=some (.aF [] 0)->Ki i j x b h (.ref (iL (i,j))) h'
section
variable{j':Nat}{av:H}{l la:L}{R:List aH}{us:aj}{C:CN}{ext:ac}{nm:Str}{nx:Bool}{o:O}{z:Int}{J:Ks->H->Prop}
theorem aan(hc:j<=b.length):jA i b j= .ref (iL (i,j)):=by
 cases j with
 |zero=>rfl
 |succ k=>exact bz hc
theorem aam:jA i b (b.length+1)= .none:=bD (kh _)
theorem FV(a:l≠pL i)(c:∀k,k+1=j->l≠iL (i,k)):(h.upd (jT i j) o) l=h l:=H.bp (by cases j with
 |zero=>exact a
 |succ k=>exact c k rfl)
theorem aC.last(F:aC jR h h'):aC jR h (h'.upd (jT i j) o):=by
 cases j with
 |zero=>exact F.upd rfl
 |succ k=>exact F.upd rfl
theorem gW.refl:gW i h h:=λ_ _ _ _ _=>rfl
theorem gW.trans(a:gW i h h')(b:gW i h' bP):gW i h bP:=λt s k r n=>(b t s k r n).trans (a t s k r n)
theorem gW.upd{s:Str}{r:ak}(a:gW i h h'):gW i h (h'.upd (.mk t s ((i,j)::r)) o):=λt' s' k' r' n=>(H.bp λz=>n (au Prod.fst (gE (L.mk.inj z).2.2).1)).trans (a t' s' k' r' n)
theorem gW.last(F:gW i h h'):gW i h (h'.upd (jT i j) o):=by
 cases j with
 |zero=>exact F.upd
 |succ k=>exact F.upd
theorem iU.E1(a:iU (i,j) h h'):gW i h h':=λt s k r n=>a t s k r λz=>n (au Prod.fst z)
theorem m7.to(I:m7 R i j x b nx h)(e:∀t,ca t [3,20,21]=true->h' (.mk t Str.empty [(i,j)])=h (.mk t Str.empty [(i,j)])):m7 R i j x b nx h':=I.casesOn λa b c=>.mk ((e _ rfl).trans a) ((e _ rfl).trans b) λz=>(e _ rfl).trans (c z)
theorem OQ(n:j'≠j):(i,j')≠(i,j):=λz=>n (au Prod.snd z)
theorem aju(p:Ek ks m h (.ref l))(e:h l=some (.inst .dg as))(ep:as "prod"=some (.tup vs))(hl:vs.length<=1000000)(ez:(vs.length:Int)=z):Ek ks (bv dQ (aA m aD)) h (.int z):=λg K _ q=>p g K _ (.prod (.mk e ep hl (ez▸q)))
theorem Mw(p:k5 i x b (PN i j) h)(d:∀j',j'<j->m7 R i j' x b (Nat.blt (j'+1) j) h):∃C as,h (jT i j)=some (.inst C as)/\k5 i x b (PN i 1) (h.upd (jT i j) (.inst C (bT as "lr_next" (jA i b j))))/\∀j',j'<j->m7 R i j' x b true (h.upd (jT i j) (.inst C (bT as "lr_next" (jA i b j)))):=by
 cases j with
 |zero=>exact p.casesOn λ{ext} e w=>⟨_,_,e,.mk (ext:=bT ext "lr_next" (.ref (iL (i,0)))) (H.aJ.trans (au (λa=>some (O.inst .dg a)) (qQ (by kernel_rfl)))) ⟨w.1.set (by decide+kernel),λ_=>kA⟩,λ_ z=>absurd z (m9 _)⟩
 |succ k=>
  have D:=d k (jM _)
  rw [show Nat.blt (k+1) (k+1)=false from Bool.eq_false_iff.mpr λz=>Nat.lt_irrefl _ (Nat.le_of_ble_eq_true z)] at D
  cases D with
  |mk e lk ea=>
   refine⟨_,_,e,(p.imp λa w=>⟨w.1,λ_=>w.2 (iA _)⟩).at_ (H.bp (bw rfl)),λj' Ov=>(aN (j'=k)).elim (λz=>?_) λz=>?_⟩
   ·subst z
    exact .mk (H.aJ.trans (au (λa=>some (O.inst .item a)) (Au (by kernel_rfl)))) (aW lk (bw rfl)) λz=>aW (ea z) (bw rfl)
   ·have D:=d j' Ov
    rw [show Nat.blt (j'+1) (k+1)=true from Nat.ble_eq_true_of_le (Nat.succ_lt_succ (Nat.lt_of_le_of_ne (Nat.le_of_lt_succ Ov) z))] at D
    exact D.to λt _=>H.bp λw=>z (au Prod.snd (gE (L.mk.inj w).2.2).1)
theorem OZ(m:ca t [3,20,21]=true)(le:j<=j'):(h.upd (jT i j) o) (.mk t Str.empty [(i,j')])=h (.mk t Str.empty [(i,j')]):=FV (kI rfl m).symm λk e z=>DC _ (aw (aL e) (aw le (aL (au Prod.snd (gE (L.mk.inj z).2.2).1))))
theorem Wz:Nat.blt k k=false:=j7.2 λz=>kh _ (eH z)
theorem Wy(B:BI R i x b av j h)(hc:j<=b.length)(hb:b.length<=100)(I2:m7 R i j x b false h')(F:aC [3,20,21] h h')(K:iU (i,j) h h')(t:∀h',BI R i x b av (j+1) h'->Wf 6 ((3,.int ((j+1:Nat):Int))::(2,.ref (iL (i,j)))::uV i j (jT i j)) h' P):Wk 6 (uV i j (jT i j)) Gp h' P:=by
 obtain⟨C,as,el,hp,hd⟩:=Mw (B.p.at_ (F.at_ _ _ rfl)) λj' lt=>(B.done j' lt).to λt _=>K t _ _ _ (OQ (m8 lt))
 refine im (xk (v:=jA i b j) (au some (aan hc).symm)) (xk rfl) el ?_
 have I3:=I2.to λt m=>OZ (o:=.inst C (bT as "lr_next" (jA i b j))) m (cB j)
 have EQ:=(FV (i:=i) (j:=j) (h:=h') (o:=.inst C (bT as "lr_next" (jA i b j))) (bw rfl) λk _=>bw rfl).trans ((F.at_ _ _ rfl).trans B.bS)
 have qT:=(B.fr.trans (F.wide rfl)).last (i:=i) (j:=j) (o:=.inst C (bT as "lr_next" (jA i b j)))
 have Hp:=(B.fA.trans K.E1).last (j:=j) (o:=.inst C (bT as "lr_next" (jA i b j)))
 have YM:∀{t} j',ca t [3,20,21]=true->j+1<=j'->(h'.upd (jT i j) (.inst C (bT as "lr_next" (jA i b j)))) (.mk t Str.empty [(i,j')])=none:=λj' m l=>(OZ m (qA l)).trans ((K _ _ _ _ (OQ (jk l))).trans (B.free j' m (qA l)))
 generalize h'.upd (jT i j) (.inst C (bT as "lr_next" (jA i b j)))=h3 at *
 refine I3.casesOn λe3 _ _=>io (gb (xd (xk rfl) e3) rfl) (a8 (kQ (xk rfl) EQ (b7 (aL ((bx _).trans iw)) (b7 (aw hc hb) (by decide))) (xk (v:=a4 (i,j)) rfl) (bi (dC (xk rfl) (Ca rfl bF rfl (t _ ⟨?_,(hp.imp λa w=>⟨w.1,λ_=>w.2 Nat.one_pos⟩).at_ (H.bp (bw rfl)),λj' lt=>?_,λj' m l=>(H.bp (kI rfl m).symm).trans (YM j' m l),qT.upd rfl,Hp.upd⟩))))))
 ·rw [H.aJ,List.range_succ,List.map_append];rfl
 ·refine(aN (j'=j)).elim (λz=>?_) λz=>?_
  ·subst z
   rw [Wz]
   exact I3.to λt m=>H.bp (kI rfl m).symm
  ·have lt':=rZ (ji lt) z
   rw [show Nat.blt (j'+1) (j+1)=true from Nat.ble_eq_true_of_le (Nat.succ_lt_succ lt')]
   exact(hd j' lt').to λt m=>H.bp (kI rfl m).symm
theorem Wx(B:BI R i x b av (b.length+1) h)(t:∀{ks h},Wf 6 ks h (ij (aS (b5 (an 1) "lr_items") (an 4)) P)->Wb 6 ks h P')(q:∀h',rU R i x b h'->aC jR av h'->gW i av h'->Wf 6 [(0,.ref gL)] h' P):Wk 6 ((5,.none)::uW i (b.length+1) (jT i (b.length+1))) Gp h P':=by
 obtain⟨C,as,el,hp,hd⟩:=Mw B.p B.done
 refine im (xk (v:=jA i b (b.length+1)) (au some aam.symm)) (xk rfl) el ?_
 have EQ:=(FV (i:=i) (j:=b.length+1) (h:=h) (o:=.inst C (bT as "lr_next" (jA i b (b.length+1)))) (bw rfl) λk _=>bw rfl).trans B.bS
 have qT:=B.fr.last (i:=i) (j:=b.length+1) (o:=.inst C (bT as "lr_next" (jA i b (b.length+1))))
 have Hp:=B.fA.last (j:=b.length+1) (o:=.inst C (bT as "lr_next" (jA i b (b.length+1))))
 generalize h.upd (jT i (b.length+1)) (.inst C (bT as "lr_next" (jA i b (b.length+1))))=h3 at *
 refine a8 (cX (gb (sB (xk rfl)) rfl) (t5 (aiZ (t (bi ?_)))))
 cases hp with
 | @mk ext e w=>
  exact t7 (xk rfl) (xk rfl) e (.sub (q _ ⟨aW EQ (bw rfl),.mk (ext:=bT ext "lr_items" (.ref (nP i))) (H.aJ.trans (au (λa=>some (O.inst .dg a)) (qQ (by kernel_rfl)))) ⟨w.1.set (by decide+kernel),(i4 (by decide+kernel)).trans (w.2 Nat.one_pos),kA⟩,λj' le=>(hd j' (KM le)).to λt m=>H.bp (kI rfl m).symm⟩ (qT.upd rfl) Hp.upd) rfl)
theorem Ww(eg:eU av)(sJ:av yB=some (.aF (rows (bL R) λx=>.ref (vL x)) n))(hb:b.length<=100)(B:BI R i x b av 0 h)(q:∀h',rU R i x b h'->aC jR av h'->gW i av h'->Wf 6 [(0,.ref gL)] h' P):Wk 6 (uW i 0 (pL i)) PH h P:=by
 refine a8 (rC (I:=BV R i x b av) (b.length+1) (.mk (j:=0) (og _) B) λm ks h I=>.inr ⟨kC jZ,λP' t=>?_⟩)
 cases I with
 | @mk j h hm B=>
  refine B.p.casesOn λ{ext} ep _=>?_
  have len:Ek (uW i j (jT i j)) (bv dQ (aA (an 1) aD)) h (.int b.length):=aju (vs:=b.map sv) (xk rfl) ep (by kernel_rfl) (eP (aw hb (by decide))) (au _ (bx _))
  refine a8 ((lR b.length j).elim (λhc=>?_) λhc=>?_)
  ·have ej:j=b.length+1:=iz (hm▸jh _ _) hc
   subst ej
   exact cX (nE (xk rfl) len (cE (iW.2 hc))) (lF qo (bi (Wx B t.brk q)))
  ·refine dy (nE (xk rfl) len (cQ (jI.2 (jK.2 hc)))) (dO (Φ:=Ki i j x b h) (x_call (eE (xk rfl) (xk rfl)) λQ z=>.mk ep hc hb (B.free j rfl (cB _)) (B.free j rfl (cB _)) λext h' F e l=>z _ _ (.mk F e l)) λv h1 z=>?_)
   cases z with
   |mk F e1 l1=>
    have f1:=F.qT
    have s1:=B.fr.trans (f1.wide rfl)
    refine Wv (eg.same (s1.same rfl)) ((s1.at_ _ _ rfl).trans sJ) e1 l1 hc hb ((f1.at_ _ _ rfl).trans (B.free j rfl (cB _))) λh2 I2 F2 K2=>bi (Wy B hc hb I2 ((f1.wide rfl).trans (F2.wide rfl)) (F.YI.trans K2) λh4 B'=>?_)
    cases m with
    |zero=>exact absurd (aw (aL hm.symm) hc) (DC _)
    |succ m=>exact t.nx (.intro m ⟨jM _,.mk ((uD _ _).trans hm) B'⟩) rfl
end
noncomputable def wm(S:Sy)(R:List aH)(h:H):Prop:=∀i x b,(cY S R)[i]?=some (x,b)->rU R i x b h
inductive Kz(h:H)(Q:ab):aj->Prop
 |mk{S:Sy}{R:List aH}{n:Nat}:eU h->h gw=some (.lst ((List.range (R.length+1)).map cq))->h yB=some (.aF (rows (bL R) λx=>.ref (vL x)) n)->k7 S R gY h->(∀r∈cY S R,r.2.length<=100)->(∀{t} s ix,ca t [3,19,20,21]=true->h (.mk t s ix)=none)->
  (∀h',wm S R h'->aC jR h h'->Q .none h')->Kz h Q [.ref gL]
noncomputable def CM:b6:=λus h Q=>Kz h Q us
inductive BL(S:Sy)(R:List aH)(av:H)(a:List Nat):Ks->H->Prop
 |mk{h:H}:aC jR av h->(∀i x b,i<a.length->(cY S R)[i]?=some (x,b)->rU R i x b h)->(∀i x b,a.length<=i->(cY S R)[i]?=some (x,b)->k5 i x b gY h)->
  (∀{t} s i j,ca t [3,19,20,21]=true->a.length<=i->h (.mk t s [(i,j)])=none)->BL S R av a [(0,.ref gL)] h
section
variable{av:H}{R:List aH}{us:aj}
theorem rU.E1(I:rU R i x b h)(F:gW k h h')(ne:i≠k):rU R i x b h':=⟨(F _ _ _ _ ne).trans I.bS,I.p.at_ (F _ _ _ _ ne),λj le=>(I.done j le).to λt _=>F _ _ _ _ ne⟩
theorem HI{r:List Nat}{a:List Nat}(e:List.range n=a++k::r):k=a.length/\a.length<n:=by
 have m:=mid e
 rw [List.length_range] at m
 exact⟨bc (m.1.symm.trans (zJ m.2)),m.2⟩
theorem aaC(q:CM us h Q):PD (us.map some++[none,none,none,none,none,none,none,none,none]) h λfl _ h'=>Q (c7 fl) h':=by
 cases q with
 | @mk S R n eg ep sJ ps len free q=>
  refine(fB (n:=6) (bJ:=[(0,.ref gL)]) (xs:=List.range (R.length+1)) (f:=cq) (Inv:=BL S R h) (mS (xk rfl) eg) (λa ks h' I=>I.casesOn λf _ _ _=>(f.at_ _ _ rfl).trans ep) (.mk .refl (λ_ _ _ z=>absurd z (m9 _)) (λi x b _ z=>ps i x b z) λs i j m _=>free s _ m)
   (λa k r ks h' es I P' t=>?_) λks h' I=>I.casesOn λ{h'} f d _ _=>bf λ_ _=>q h' (λi x b z=>d i x b (f5 (cm.1 z).1 iw.symm) z) f) _ (Kn.dA (ks:=[(0,.ref gL)]) rfl rfl)
  cases I with
  |mk f d rest E3=>
   have km:=HI es
   have ex:∃x b,(cY S R)[k]?=some (x,b):=⟨_,_,fu (km.1▸km.2:k<(cY S R).length)⟩
   refine ex.elim λx ex=>ex.elim λb ex=>dC (xk (v:=.ref (pL k)) rfl) (dC bF (dO (v8 (a:=nP k) (E3 _ _ _ rfl (aL km.1.symm)) e7 (bH _)) λv h1 z=>?_))
   cases z with
   |mk=>
    have la:(a++[k]).length=k+1:=cw.trans (au (·+1) km.1.symm)
    have F1:aC jR h (h'.upd (nP k) (.lst [])):=f.upd rfl
    have pk:=rest k x b (aL km.1.symm) ex
    refine Wk.sub (bJ:=uW k 0 (pL k)) (Ww (av:=h'.upd (nP k) (.lst [])) (eg.same (F1.same rfl)) ((F1.at_ _ _ rfl).trans sJ) (len _ (cP ex)) ⟨H.aJ,(pk.imp λa w=>⟨w,λz=>absurd z (kh 0)⟩).at_ (H.bp (bw rfl)),λj' z=>absurd z (m9 _),λ{t} j' m _=>(H.bp (kI rfl m).symm).trans (E3 _ _ _ (jC (fq:=[3,19,20,21]) rfl m) (aL km.1.symm)),.refl,.refl⟩ λh2 I F FI=>
     have FK:gW k h' h2:=(gW.refl.upd (h:=h') (t:=19) (s:=Str.empty) (i:=k) (j:=0) (r:=[]) (o:=.lst [])).trans FI
     have ge:∀{i},(a++[k]).length<=i->k+1<=i:=λle=>aw (aL la.symm) le
     t.nx (.mk (F1.trans F) (λi x' b' lt z=>(aN (i=k)).elim (λw=>?_) λw=>(d i x' b' (km.1▸rZ (ji (f5 lt la)) w) z).E1 FK w) (λi x' b' le z=>(rest i x' b' (km.1▸qA (ge le)) z).at_ (FK _ _ _ _ (jk (ge le)))) λs i j m le=>(FK _ _ _ _ (jk (ge le))).trans (E3 s i j m (km.1▸qA (ge le)))) rfl) rfl
    subst w
    cases bc (ex.symm.trans z)
    exact I
end
noncomputable def sq(acc:ai)(x:Sy):ai:=if x=bV then acc else c4 acc x
noncomputable def om(acc l:ai):ai:=l.foldl sq acc
noncomputable def gN(F:ah)(acc:ai):ai->ai
 |[]=>acc++[bV]
 |x::b=>if bV∈F x then gN F (om acc (F x)) b else om acc (F x)
noncomputable def qx(I:Sy->Sy->Prop)(t:Sy):ai->Prop
 |[]=>t=bV
 |x::b=>(t≠bV/\I x t)\/(I x bV/\qx I t b)
noncomputable abbrev fN(F:ah)(t:Sy)(b:ai):Prop:=qx (λx t=>t∈F x) t b
noncomputable abbrev Tab(d t:Nat)(ks:ai)(F:ah)(h:H):Prop:=Dl d t ks (λx=>(F x).map sv) h
inductive JY(h:H)(Q:ab):aj->Prop
 |mk{ks:ai}{F:ah}{b:ai}:eU h->Tab 13 14 ks F h->(∀x∈ks,(F x).length<=1000)->(∀x∈b,x∈ks)->b.length<=100->(∀n,h (.ay n)=none->Q (.ref (.ay n)) (h.upd (.ay n) (.lst ((gN F [] b).map sv))))->JY h Q [.ref gL,.tup (b.map sv)]
noncomputable def uv:b6:=λus h Q=>JY h Q us
noncomputable def P3:SW:=aB (bX (bB (a3 (aE (an 0) "First") (an 3))) false (a5 5) (a9 (aT .Eq (an 5) (bR "<empty>")) (aZ 4 (hX true)) (a9 (aT .NotIn (an 5) (an 2)) (cM (bY (an 2) "list" de (aA (an 5) aD))) aO)) aO) (a9 (bE (an 4)) aO q8)
noncomputable def acA:SW:=aB (aZ 4 (hX false)) P3
noncomputable def acB:SW:=aB (bX (bB (an 1)) false (a5 3) acA (cM (bY (an 2) "list" de (aA (bR "<empty>") aD)))) (eA (an 2))
noncomputable def acC:SW:=aB (aZ 2 (cx aD)) acB
noncomputable def P2:SW:=acC
noncomputable def pZ(n:Nat)(b:ai):Ks:=[(2,.ref (.ay n)),(1,.tup (b.map sv)),(0,.ref gL)]
inductive FI(n:Nat)(b acc:ai)(h:H)(a:ai):Ks->H->Prop
 |mk{e:Bool}{l:ai}:decide (bV∈a)=e->om acc a=l->FI n b acc h a ((4,.bool e)::pZ n b) (h.upd (.ay n) (.lst (l.map sv)))
inductive FO(n:Nat)(F:ah)(b:ai)(h:H)(a:ai):Ks->H->Prop
 |mk{acc:ai}:(∀r,b=a++r->gN F [] b=gN F acc r)->acc.length<=a.length*1000->FO n F b h a (pZ n b) (h.upd (.ay n) (.lst (acc.map sv)))
section
variable{ks acc l:ai}{t:Sy}{I J:Sy->Sy->Prop}{us:aj}
theorem VL:(sq acc x).length<=acc.length+1:=by
 unfold sq;split
 ·exact jj _
 ·exact uN
theorem L4:(om acc l).length<=acc.length+l.length:=aw (E0 λ_ _=>VL) (aL (au (acc.length+·) (Nat.one_mul _)))
theorem aeg:t∈sq acc x↔t∈acc\/(t≠bV/\t=x):=by
 unfold sq;split
 ·rename_i e;exact⟨.inl,λz=>z.elim id λz=>absurd (z.2.trans e) z.1⟩
 ·rename_i e;exact fU.trans (fH ⟨λz=>⟨λw=>e (z.symm.trans w),z⟩,(·.2)⟩)
theorem Q4:t∈om acc l↔t∈acc\/(t≠bV/\t∈l):=by
 induction l generalizing acc with
 |nil=>exact⟨.inl,λz=>z.elim id λz=>absurd z.2 a0⟩
 |cons x l ih=>exact ih.trans ((qZ aeg).trans (tD.trans (fH (and_or_left.symm.trans (sA λ_=>dP.symm)))))
theorem NG(m:bV∈F x):gN F acc (x::b)=gN F (om acc (F x)) b:=bz m
theorem NF(m:bV∉F x):gN F acc (x::b)=om acc (F x):=bD m
theorem qx.mono(w:∀x∈b,∀t,I x t->J x t)(h:qx I t b):qx J t b:=by
 induction b with
 |nil=>exact h
 |cons x b ih=>exact h.imp (λz=>⟨z.1,w x (.head _) _ z.2⟩) λz=>⟨w x (.head _) _ z.1,ih (λy hy=>w y (.tail _ hy)) z.2⟩
theorem yi:t∈gN F acc b↔t∈acc\/fN F t b:=by
 induction b generalizing acc with
 |nil=>exact bO.trans (fH a6)
 |cons x b ih=>
  refine(aN (bV∈F x)).elim (λe=>?_) λe=>?_
  ·rw [NG e,ih,Q4,or_assoc];exact fH (fH ⟨λz=>⟨e,z⟩,(·.2)⟩)
  ·rw [NF e,Q4];exact fH ⟨.inl,λz=>z.elim id λz=>absurd z.1 e⟩
theorem Yi(G:eU h)(D:Tab 13 14 ks F h)(hx:x∈ks)(hl:(F x).length<=1000)(ha:acc.length<=100000)(q1:bV∈F x->Wf 6 (pZ n b) (h.upd (.ay n) (.lst ((om acc (F x)).map sv))) P)(q2:bV∉F x->Wb 6 (pZ n b) (h.upd (.ay n) (.lst ((om acc (F x)).map sv))) P):
 Wk 6 ((4,.bool false)::(3,sv x)::pZ n b) P3 (h.upd (.ay n) (.lst (acc.map sv))) P:=by
 refine D.d.elim λi ed=>a8 (fB (Inv:=FI n b acc h) (lJ (f:=λx=>.ref (qP x)) (rE (xk rfl) (G.same bC.ay)) (xk rfl) (aW ed dZ) hx) (λa ks h' I=>I.casesOn λ_ _=>aW (D.get hx) dZ) (.mk (acc:=acc) (a:=[]) (e:=false) rfl rfl) (λa y r ks h' es I P' t=>?_) λks h' I=>?_)
 ·cases I with
  | @mk e l ee el=>
   have en:om acc (a++[y])=sq l y:=wq.trans (au (sq · y) el)
   refine n6 (p:=y=bV) (ow (xk rfl) (df (s:="<empty>")) rfl) (λz=>lF jZ (t.nx (.mk (e:=true) (cE (z▸cD _ (.head _))) (en.trans (bz z))) rfl)) λz=>?_
   have em:decide (bV∈a++[y])=e:=(Ao.2 (bO.trans ⟨λw=>w.elim id λw=>absurd (a6.1 w).symm z,.inl⟩)).trans ee
   have Nk:=en.trans (bD z)
   exact o3 (oy (xk rfl) (xk rfl) H.aJ rfl) (λm=>t4 (xk rfl) (b7 (el▸L4) (b7 (fw ha (aw (cN (mid es).2) hl)) (by decide))) (xk rfl) (t.nx (.mk em (Nk.trans (iD m))) rfl)) λm=>bf (t.nx (.mk em (Nk.trans (kr m))) rfl)
 ·cases I with
  | @mk e l ee el=>
   subst ee el
   exact bf (bi (n6 (p:=bV∈F x) (kC (xk rfl)) (λm=>bf ((q1 m).sub rfl)) λm=>t5 λg K=>q2 m g (K.sub rfl)))
theorem Yj(q:uv us h Q):P2 (us.map some++[none,none,none,none]) h λfl _ h'=>Q (c7 fl) h':=by
 cases q with
 | @mk ks F b G D fl hb bl q=>
  refine(dO (n:=6) (v9 e7 (bH _)) λv h1 z=>?_) _ (Kn.dA (ks:=[(1,.tup (b.map sv)),(0,.ref gL)]) rfl rfl)
  cases z with
  | @mk n hn=>
   have fin:∀l,gN F [] b=l->Wk 6 (pZ n b) (eA (an 2)) (h.upd (.ay n) (.lst (l.map sv))) λfl _ h'=>Q (c7 fl) h':=λl e=>il (xk rfl) λg=>e▸q n hn
   refine a8 (B9 (Inv:=FO n F b h) (xk rfl) (.mk (acc:=[]) (λr e=>au (gN F []) e) (bH _)) (λa x r bJ h' es I P' t=>?_) λbJ h' I=>?_)
   ·cases I with
    | @mk acc ef ha=>
     have hx:=hb x (es▸cD _ (.head _))
     have la:a.length<=99:=ji (dD (mid es).2 bl)
     have Y8:acc.length<=100000:=aw ha (aw (jN 1000 la) (by decide))
     have Ng:=ef _ es
     refine dC jZ (Yi (x:=x) G D hx (fl x hx) Y8 (λm=>t.nx (.mk (λr' e'=>?_) ?_) rfl) λm=>t.brk (bi (fin _ (Ng.trans (NF m)))))
     ·cases Kt ((kY a [x] r').symm.trans (e'.symm.trans es))
      exact Ng.trans (NG m)
     ·exact aw L4 (aw (fw ha (fl x hx)) (aL ((qC ..).symm.trans (au (·*1000) (cw (as:=a) (bs:=[x])).symm))))
   ·cases I with
    | @mk acc ef ha=>
     exact t4 (e:=bV) (xk rfl) (b7 ha (b7 (jN 1000 bl) (by decide))) df (bi (fin _ (ef [] (gy b).symm)))
end
noncomputable def mN(F:ah)(x v:Sy):ah:=λy=>if y=x then F x++[v] else F y
noncomputable def kP(F:ah):ai->Nat
 |[]=>0
 |x::N=>(F x).length+kP F N
structure Gr(T:ai)(R:List aH):Prop where
 tn:T.Nodup
 tl:T.length<=100
 rl:R.length<=90
 fin:cH∉T
 qO:bV∉T
 Yf:cH∉bL R
 ajT:bV∉bL R
 MZ:∀x∈T,x∉bL R
 syms:∀r∈R,∀y∈r.2,y∈T\/y∈bL R
 len:∀r∈R,r.2.length<=100
section
variable{l U ks:ai}{v u:Sy}{R:List aH}{fr:Ks}{kk:EW}
theorem mH{α:Type}[DecidableEq α]{l U:List α}(n:l.Nodup)(w:∀x∈l,x∈U):l.length<=U.length:=by
 induction l generalizing U with
 |nil=>exact bH _
 |cons x l ih=>
  have m:=gX.1 n
  have hx:=w x (.head _)
  have q:=ih (U:=U.erase x) m.2 λy hy=>(List.mem_erase_of_ne λe:y=x=>m.1 (e▸hy)).mpr (w y (.tail _ hy))
  rw [List.length_erase_of_mem hx] at q
  exact aw (cS q) (aL (r0 (Dn hx)))
theorem vY:mN F x v x=F x++[v]:=bz rfl
theorem tY(n:y≠x):mN F x v y=F y:=bD n
theorem aeo:u∈mN F x v y↔u∈F y\/(y=x/\u=v):=(aN (y=x)).elim (λe=>by subst e;rw [vY];exact bO.trans (fH (a6.trans ⟨λz=>⟨rfl,z⟩,(·.2)⟩))) λe=>by rw [tY e];exact⟨.inl,λz=>z.elim id λz=>absurd z.1 e⟩
theorem TD(w:∀x∈N,(F x).length<=k):kP F N<=N.length*k:=by
 induction N with
 |nil=>exact bH _
 |cons x N ih=>exact aw (fw (w x (.head _)) (ih λy hy=>w y (.tail _ hy))) (aL ((wz ..).trans (qC ..).symm))
theorem TP:(F y).length<=(mN F x v y).length:=(aN (y=x)).elim (λe=>by subst e;rw [vY,List.length_append];exact jh _ _) λe=>aL (au _ (tY e).symm)
theorem TC:kP F N<=kP (mN F x v) N:=by
 induction N with
 |nil=>exact cB _
 |cons y N ih=>exact fw TP ih
theorem aiu(m:x∈N):kP F N<kP (mN F x v) N:=by
 induction N with
 |nil=>cases m
 |cons y N ih=>exact(aN (y=x)).elim (λe=>Vr (by subst e;rw [vY,List.length_append];exact jM _) TC) λe=>Nat.add_lt_add_of_le_of_lt TP (ih ((dP.1 m).resolve_left λz=>e z.symm))
theorem Tab.turn(b:Tab d t ks F h)(n:Nat.beq d t=false)(hx:x∈ks):Tab d t ks (mN F x v) (h.upd (ls t x) (.lst ((F x++[v]).map sv))):=Dl.turn b hx n (au (List.map sv) vY) λy z=>au (List.map sv) (tY z)
theorem Iw(D:Tab d t ks F h)(hx:x∉ks)(hl:ks.length<=1000)(n1:Nat.beq d t=false)(n2:Nat.beq t d=false)(hf:(F x).length<=1000)(pm:gC fr ms h ((F x).map sv))(po:∀{h'},bC [0] h h'->Ek fr o h' (.ref (lb d)))(n0:ca t [0]=false)(pk:∀{h'},Ek fr kk h' (sv x))
 (q:∀h',Tab d t (ks++[x]) F h'->aC [d,t] h h'->Wf n fr h' P):Wk n fr (aS (cu o kk) (cx ms)) h P:=D.d.elim λi e=>
 Ir pm (eP (aw hf (by decide))) e (D.free hx) (aw hl (by decide)) n1 po n0 pk λi=>iD hx▸q _ (iD hx▸Dl.put D n2 rfl (λ_ _ _=>rfl) i) ((aC.refl.upd (fF.mpr (.tail _ (.head _)))).upd (fF.mpr (.head _)))
theorem aei:y∈nC T N x↔y∈N\/(y=x/\y∉T):=(aN (x∈T)).elim (λm=>by rw [D6 m];exact⟨.inl,λz=>z.elim id λz=>absurd (z.1▸m) z.2⟩) λm=>by rw [D7 m];exact fU.trans (fH ⟨λz=>⟨z,z▸m⟩,(·.1)⟩)
theorem GX:y∈b.foldl (nC T) N↔y∈N\/(y∈b/\y∉T):=by
 induction b generalizing N with
 |nil=>exact⟨.inl,λz=>z.elim id λz=>absurd z.1 a0⟩
 |cons x b ih=>exact ih.trans ((qZ aei).trans (tD.trans (fH (or_and_right.symm.trans (Mf λ_=>dP.symm)))))
theorem ael:y∈R.foldl (Hi T) N↔y∈N\/∃r∈R,r.1=y\/(y∈r.2/\y∉T):=by
 induction R generalizing N with
 |nil=>exact⟨.inl,λz=>z.elim id λz=>z.elim λr z=>absurd z.1 a0⟩
 |cons r R ih=>
  refine ih.trans ⟨λz=>z.elim (λz=>(GX.mp z).elim (λz=>(fU.mp z).imp id λz=>⟨r,.head _,.inl z.symm⟩) λz=>.inr ⟨r,.head _,.inr z⟩) λz=>z.elim λr' z=>.inr ⟨r',.tail _ z.1,z.2⟩,λz=>z.elim (λz=>.inl (GX.mpr (.inl (fU.mpr (.inl z))))) λz=>z.elim λr' z=>(dP.1 z.1).elim (λe=>?_) λm=>.inr ⟨r',m,z.2⟩⟩
  subst e
  exact .inl (GX.mpr (z.2.imp (λe=>fU.mpr (.inr e.symm)) id))
theorem Q6:y∈a7 T R↔∃r∈R,r.1=y\/(y∈r.2/\y∉T):=ael.trans ⟨λz=>z.elim (λz=>absurd z a0) id,.inr⟩
theorem Gr.a7(G:Gr T R):y∈a7 T R↔y∈bL R:=Q6.trans ⟨λz=>z.elim λr z=>z.2.elim (λe=>iK.mpr ⟨r,z.1,e⟩) λw=>(G.syms r z.1 y w.1).resolve_left w.2,λz=>(iK.mp z).elim λr z=>⟨r,z.1,.inl z.2⟩⟩
theorem He{α:Type}{f:ai->α->ai}(w:∀N a,N.Nodup->(f N a).Nodup){l:List α}(n:N.Nodup):(l.foldl f N).Nodup:=by
 induction l generalizing N with
 |nil=>exact n
 |cons a l ih=>exact ih (w _ _ n)
theorem tC:(a7 T R).Nodup:=He (λ_ _ n=>He (λN x n=>(aN (x∈T)).elim (λm=>(D6 m).symm▸n) λm=>(D7 m).symm▸sw n) (sw n)) jg
theorem Gr.vI(G:Gr T R):(Mine.a7 T R).length<=R.length:=aw (mH tC λx=>G.a7.mp) Fj
theorem Q7{i:Nat}(m:i∈ig x R):∃b,(cY S R)[i]?=some (x,b)/\(x,b)∈R:=by
 obtain⟨⟨⟨y,b⟩,j⟩,w,e⟩:=bg.1 m
 have w:=fC.1 w
 have q:=zM.1 w.1
 cases(cU w.2:y=x)
 cases(e:j=i)
 refine⟨b,?_,cP q.2⟩
 cases j with
 |zero=>exact absurd q.1 (zQ 0)
 |succ k=>exact q.2
theorem Sk(m:(x,b)∈R):∃i,i∈ig x R/\(cY S R)[i]?=some (x,b):=(jL.1 m).elim λk e=>
 ⟨k+1,bg.2 ⟨((x,b),k+1),fC.2 ⟨zM.2 ⟨cS (bH _),e⟩,cE rfl⟩,rfl⟩,e⟩
end
noncomputable abbrev Cv(T:ai)(R:List aH)(I:Sy->Sy->Prop):Prop:=(∀x∈T,I x x)/\∀r∈R,∀t,qx I t r.2->I r.1 t
structure DO(T:ai)(R:List aH)(x t:Sy):Prop where
 u:t∈bV::T
 i:∀I,Cv T R I->I x t
structure kW(T:ai)(R:List aH)(F:ah):Prop where
 term:∀x,x∈T\/x=cH->F x=[x]
 nt:∀x∈bL R,(F x).Nodup/\∀t∈F x,DO T R x t
structure lO(T:ai)(R:List aH)(F:ah):Prop where
 good:kW T R F
 ff:∀r∈R,∀t,fN F t r.2->t∈F r.1
noncomputable abbrev ju(T:ai)(R:List aH):ai:=T++[cH]++a7 T R
noncomputable def sL(T:ai):ah:=λx=>if x∈T\/x=cH then [x] else []
structure lK(N:ai)(F:ah)(c:Bool)(F':ah)(c':Bool):Prop where
 le:kP F N<=kP F' N
 on:c=true->c'=true
 lt:c'=true->c=true\/kP F N<kP F' N
 no:c'=false->F'=F
section
variable{R:List aH}{JJ:ah}{t:Sy}{c c' My:Bool}
theorem Bf(gr:Gr T R)(hx:x∈bL R):¬(x∈T\/x=cH):=λz=>z.elim (λz=>gr.MZ x z hx) λz=>gr.Yf (z▸hx)
theorem kW.len(G:kW T R F)(gr:Gr T R)(hx:x∈ju T R):(F x).length<=1000:=(aN (x∈T\/x=cH)).elim (λe=>G.term x e▸eH rfl) λe=>
 have m:=G.nt x (gr.a7.mp ((bO.1 hx).resolve_left λz=>e ((bO.1 z).imp_right a6.1)))
 aw (mH m.1 λt ht=>(m.2 t ht).u) (aw (cS gr.tl) (by decide))
theorem kW.zero(gr:Gr T R):kW T R (sL T):=⟨λx h=>bz h,λx hx=>by rw [show sL T x=[] from if_neg (Bf gr hx)];exact⟨jg,λ_ z=>absurd z a0⟩⟩
theorem kW.snd(G:kW T R F)(gr:Gr T R)(m:(x,b)∈R)(ht:fN F t b):DO T R x t:=by
 have hs:∀y∈b,∀t∈F y,t∈bV::T/\∀I,Cv T R I->I y t:=λy hy t ht=>(gr.syms _ m y hy).elim (λh=>by
  rw [G.term y (.inl h)] at ht
  cases a6.1 ht
  exact⟨.tail _ h,λI cl=>cl.1 _ h⟩) λh=>⟨((G.nt y h).2 t ht).u,((G.nt y h).2 t ht).i⟩
 refine⟨?_,λI cl=>cl.2 _ m t (ht.mono λy hy t ht=>(hs y hy t ht).2 I cl)⟩
 clear m
 induction b with
 |nil=>exact ht▸.head _
 |cons y b ih=>exact ht.elim (λz=>(hs y (.head _) _ z.2).1) λz=>ih z.2 λy hy=>hs y (.tail _ hy)
theorem kW.up(G:kW T R F)(gr:Gr T R)(hx:x∈bL R)(s:DO T R x t)(n:t∉F x):kW T R (mN F x t):=
 ⟨λy h=>(tY λe:y=x=>Bf gr hx (e▸h)).trans (G.term y h),λy hy=>(aN (y=x)).elim (λe=>by
  subst e
  rw [vY]
  exact⟨nV (G.nt y hy).1 n,λu hu=>(bO.1 hu).elim ((G.nt y hy).2 u) λz=>a6.1 z▸s⟩) λe=>tY e▸G.nt y hy⟩
theorem lK.refl:lK N F c F c:=⟨cB _,id,.inl,λ_=>rfl⟩
theorem lK.off(a:lK N F c F' c')(z:c'=false):c=false:=j7.2 λe=>Bool.noConfusion ((a.on e).symm.trans z)
theorem lK.trans(a:lK N F c F' c')(b:lK N F' c' JJ My):lK N F c JJ My:=
 ⟨aw a.le b.le,λz=>b.on (a.on z),λz=>(b.lt z).elim (λz=>(a.lt z).imp_right λq=>dD q b.le) λz=>.inr (b7 a.le z),λz=>(b.no z).trans (a.no (b.off z))⟩
theorem lK.up(hx:x∈N):lK N F c (mN F x t) true:=⟨TC,λ_=>rfl,λ_=>.inr (aiu hx),λz=>Bool.noConfusion z⟩
end
inductive Cr(h:H)(Q:ab):aj->Prop
 |mk{T:ai}{R:List aH}{S:Sy}:Gr T R->GP T R S h->k7 S R (λ_=>True) h->Em kH h->(∀x,h (qP x)=none)->(∀F h',lO T R F->Tab 13 14 (ju T R) F h'->aC [13,14] h h'->Q (.ref kH) h')->Cr h Q [.ref gL]
 |old{ks:ai}{F:ah}:eU h->Tab 13 14 ks F h->0<ks.length->ks.length<=1000->Q (.ref kH) h->Cr h Q [.ref gL]
noncomputable def uu:b6:=λus h Q=>Cr h Q us
noncomputable def Gs:SW:=aB (cM (bY (a3 (aE (an 0) "First") (an 2)) "list" de (aA (an 5) aD))) (aZ 3 (hX true))
noncomputable def ab8:SW:=aB (bX (bB (aE (an 0) "Nonterminals")) false (a5 2) (bX (bB (a3 (aE (an 0) "Prodnames") (an 2))) false (a5 4) (bX (bB (dw (an 0) "_first" .dX uv (aA (aE (an 4) "prod") aD))) false (a5 5) (a9 (aT .NotIn (an 5) (a3 (aE (an 0) "First") (an 2))) Gs aO) aO) aO) aO) (a9 (gm (bE (an 3))) q8 aO)
noncomputable def ab9:SW:=aB (aZ 3 (hX false)) ab8
noncomputable def PK:SW:=aB (o5 (bE (hX true)) ab9 aO) (eA (aE (an 0) "First"))
noncomputable def ab':SW:=aB (bX (bB (aE (an 0) "Nonterminals")) false (a5 2) (aS (cu (aE (an 0) "First") (an 2)) (cx aD)) aO) PK
noncomputable def aca:SW:=aB (aS (cu (aE (an 0) "First") (bR "$end")) (cx (aA (bR "$end") aD))) ab'
noncomputable def acb:SW:=aB (bX (bB (aE (an 0) "Terminals")) false (a5 1) (aS (cu (aE (an 0) "First") (an 1)) (cx (aA (an 1) aD))) aO) aca
noncomputable def acd:SW:=aB (a9 (bE (aE (an 0) "First")) (eA (aE (an 0) "First")) aO) acb
noncomputable def A5:SW:=acd
noncomputable def sH(x:Sy)(c:Bool):Ks:=[(3,.bool c),(2,sv x),(0,.ref gL)]
noncomputable def ME(c:Bool):Ks:=[(3,.bool c),(0,.ref gL)]
structure CX(T:ai)(R:List aH)(S:Sy)(F:ah)(h:H):Prop where
 gr:Gr T R
 G:GP T R S h
 ps:k7 S R (λ_=>True) h
 tab:Tab 13 14 (ju T R) F h
 good:kW T R F
inductive CV(T:ai)(R:List aH)(S:Sy)(av:H)(F:ah)(c:Bool)(kf:Bool->Ks)(cl:Prop):Ks->H->Prop
 |mk{F':ah}{c':Bool}{h:H}:CX T R S F' h->aC [13,14] av h->lK (a7 T R) F c F' c'->(c'=false->cl)->CV T R S av F c kf cl (kf c') h
noncomputable def cV(v:V):EW:=λ_ h Q=>Q v h
section
variable{g:Fm}{av:H}{R:List aH}{c:Bool}{us:aj}{kb:Bool}{tw:TW}{t:SW}
theorem lH:Ek ks (cV v) h v:=λ_ _ _ q=>q
theorem yX(p:Ex ks m h Φ)(q:∀v h',Φ v h'->Wk n ks (bX (bB (cV v)) kb tw s t) h' P):Wk n ks (bX (bB m) kb tw s t) h P:=λg K=>p g K.at_ _ λv h' z=>q v h' z g K
theorem CX.to(X:CX T R S F h)(f:aC [13,14] h h')(t:Tab 13 14 (ju T R) F' h')(g:kW T R F'):CX T R S F' h':=⟨X.gr,X.G.same (f.same rfl),X.ps.same (f.same rfl),t,g⟩
theorem Xb(X:CX T R S F h)(ei:(cY S R)[i]?=some (x,b))(m:(x,b)∈R)(q:∀ks h',CV T R S h F c (sH x) (∀t,fN F t b->t∈F x) ks h'->Wf 6 ks h' P):
 Wk 6 ((4,cq i)::sH x c) (bX (bB (dw (an 0) "_first" .dX uv (aA (aE (an 4) "prod") aD))) false (a5 5) (a9 (aT .NotIn (an 5) (a3 (aE (an 0) "First") (an 2))) Gs aO) aO) h P:=by
 have hx:x∈bL R:=iK.mpr ⟨_,m,rfl⟩
 have hk:x∈ju T R:=bO.2 (.inr (X.gr.a7.mpr hx))
 have sy:∀y∈b,y∈ju T R:=λy hy=>(X.gr.syms _ m y hy).elim (λz=>bO.2 (.inl (bO.2 (.inl z)))) λz=>bO.2 (.inr (X.gr.a7.mpr z))
 refine(X.ps i x b ei).casesOn λep _=>X.G.g.casesOn λeg na=>yX (gU (Φ:=fO h ((gN F [] b).map sv)) (xk rfl) eg ((nK (by kernel_rfl)).trans (na _ (by decide+kernel))) (iS (ug (xk rfl) ep)) λQ z=>.mk X.G.g X.tab (λx hx=>X.good.len X.gr hx) sy (X.gr.len _ m) λn hn=>z _ _ (.mk hn)) λv h1 z=>?_
 cases z with
 | @mk n hn=>
  refine fB (xs:=gN F [] b) (f:=sv) (Inv:=λa ks h'=>CV T R S (h.upd (.ay n) (.lst ((gN F [] b).map sv))) F c (sH x) (∀t∈a,t∈F x) ks h') lH (λa ks h' I=>I.casesOn λ_ f _ _=>f.old H.aJ) (.mk (X.to (aC.refl.new hn) (X.tab.same bC.ay) X.good) .refl .refl λ_ _ z=>absurd z a0) (λa t r ks h' es I P' tt=>?_) (λks h' I=>?_)
  ·cases I with
   | @mk F' c' h' X' f ad cl=>
    have ht:fN F t b:=((yi (acc:=[])).mp (es▸cD _ (.head _))).resolve_left a0
    refine X'.tab.d.elim λk ed=>?_
    have fx:∀{ks},bj ks 0=some (.ref gL)->bj ks 2=some (sv x)->Ek ks (a3 (aE (an 0) "First") (an 2)) h' (.ref (qP x)):=λe0 e2=>lJ (f:=λx=>.ref (qP x)) (rE (xk e0) X'.G.g) (xk e2) ed hk
    refine o3 (p:=t∈F' x) (oy (xk rfl) (fx rfl rfl) (X'.tab.get hk) rfl) (λw=>?_) λw=>bf (tt.nx (.mk X' f ad λz u hu=>(bO.1 hu).elim (cl z u) λhu=>ad.no z▸a6.1 hu▸w) rfl)
    refine a8 (kQ (fx rfl rfl) (X'.tab.get hk) (map_lt (b7 (X'.good.len X.gr hk) (by decide))) (xk rfl) (bi (lF jZ ?_)))
    have en:h'.upd (qP x) (.lst ((F' x).map sv++[sv t]))=h'.upd (qP x) (.lst ((F' x++[t]).map sv)):=au (λl=>h'.upd (qP x) (.lst l)) (gF (f:=sv) (l₁:=F' x) (l₂:=[t])).symm
    refine(au (λh=>Wf 6 _ h P') en).mpr ?_
    exact tt.nx (.mk (F':=mN F' x t) (c':=true) (X'.to (aC.refl.upd rfl) (X'.tab.turn rfl hk) (X'.good.up X.gr hx (X.good.snd X.gr m ht) w)) (f.upd rfl) (ad.trans (.up (X.gr.a7.mpr hx))) λz=>Bool.noConfusion z) rfl
  ·exact bf (q ks h' (I.casesOn λX' f ad cl=>.mk X' ((aC.refl.new hn).trans f) ad λz t ht=>cl z t (yi.mpr (.inr ht))))
end
inductive CW(T:ai)(R:List aH)(S:Sy)(av:H)(m:Nat):Ks->H->Prop
 |mk{F:ah}{h:H}:CX T R S F h->aC [13,14] av h->m+kP F (a7 T R)=(a7 T R).length*1000->CW T R S av m [(0,.ref gL)] h
inductive C0(N:ai)(F:ah)(av:H)(a:ai):Ks->H->Prop
 |mk{h:H}:Tab 13 14 (N++a) F h->aC [13,14] av h->C0 N F av a [(0,.ref gL)] h
section
variable{g:Fm}{av:H}{R:List aH}{c:Bool}{us:aj}{kb:Bool}{t:SW}{f:Sy->V}{Inv:ai->Ks->H->Prop}{l:L}
theorem v0(p:Ek ks m h (.ref l))(e:h l=some (.aF (rows xs f) d))(hl:∀a ks h',Inv a ks h'->h' l=h l)(h0:Inv [] bJ h)(step:∀a x r ks h,xs=a++x::r->Inv a ks h->∀P',Turn n P P' (Inv (a++[x]))->Wk n ((ix,sv x)::ks) s h P')
 (done:∀ks h,Inv xs ks h->Wk n ks t h P)(e0:Sub ks bJ:=by exact rfl)(hi:Nat.blt ix n=true:=by exact rfl):Wk n ks (bX (bB m) kb (a5 ix) s t) h P:=aiQ p e (λa ks h' I=>⟨_,(hl a ks h' I).trans e,rfl,gj⟩) h0 step done e0 hi
theorem Xa(X:CX T R S F h)(hx:x∈bL R)(q:∀ks h',CV T R S h F c (sH x) (∀b,(x,b)∈R->∀t,fN F t b->t∈F x) ks h'->Wf 6 ks h' P):
 Wk 6 (sH x c) (bX (bB (a3 (aE (an 0) "Prodnames") (an 2))) false (a5 4) (bX (bB (dw (an 0) "_first" .dX uv (aA (aE (an 4) "prod") aD))) false (a5 5) (a9 (aT .NotIn (an 5) (a3 (aE (an 0) "First") (an 2))) Gs aO) aO) aO) h P:=by
 have el:=X.G.pn.get hx
 refine X.G.pn.d.elim λk ed=>fB (xs:=ig x R) (f:=cq) (Inv:=λa ks h'=>CV T R S h F c (sH x) (∀i∈a,∀b,(cY S R)[i]?=some (x,b)->∀t,fN F t b->t∈F x) ks h') (lJ (f:=λx=>.ref (vL x)) (y7 (xk rfl) X.G.g) (xk rfl) ed hx) (λa ks h' I=>I.casesOn λ_ f _ _=>(f.at_ _ _ rfl).trans el) (.mk X .refl .refl λ_ _ z=>absurd z a0) (λa i r ks h' es I P' tt=>?_) λks h' I=>?_
 ·cases I with
  |mk X' f ad cl=>
   refine(Q7 (S:=S) (es▸cD _ (.head _):i∈ig x R)).elim λb z=>Xb X' z.1 z.2 λFR h2 J=>?_
   cases J with
   |mk X2 f2 hG pU=>
    refine tt.nx (.mk X2 (f.trans f2) (ad.trans hG) λy j hj b' ej t ht=>(bO.1 hj).elim (λhj=>cl (hG.off y) j hj b' ej t ht) λhj=>?_) rfl
    cases a6.1 hj
    cases bc (z.1.symm.trans ej)
    have w:=pU y t
    rw [ad.no (hG.off y)] at w
    exact w ht
 ·exact bf (q ks h' (I.casesOn λX' f ad cl=>.mk X' f ad λz b m t ht=>(Sk (S:=S) m).elim λi w=>cl z i w.1 b w.2 t ht))
theorem W9(X:CX T R S F h)(f:aC [13,14] av h)(q:∀F h',lO T R F->Tab 13 14 (ju T R) F h'->aC [13,14] av h'->Q (.ref kH) h'):Wk 6 [(0,.ref gL)] PK h λfl _ h'=>Q (c7 fl) h':=by
 have bd:∀{F h},CX T R S F h->kP F (a7 T R)<=(a7 T R).length*1000:=λX=>TD λx hx=>X.good.len X.gr (bO.2 (.inr hx))
 refine a8 (rC (I:=CW T R S av) _ (.mk X f (r0 (bd X))) λm ks h I=>.inr ⟨kC jZ,λP' tt=>?_⟩)
 cases I with
 | @mk F h X f hm=>
  refine dC jZ (X.G.nt.elim λk en=>a8 (v0 (xs:=a7 T R) (bJ:=ME false) (Inv:=λa ks h'=>CV T R S h F false ME (∀x∈a,∀b,(x,b)∈R->∀t,fN F t b->t∈F x) ks h') (mQ (xk rfl) X.G.g) en (λa ks h' I=>I.casesOn λ_ f _ _=>f.at_ _ _ rfl) (.mk X .refl .refl λ_ _ z=>absurd z a0) (λa x r ks h' es I pD t2=>?_) λks h' I=>?_))
  ·cases I with
   | @mk F' c' h' X' f' ad cl=>
    refine Wk.sub (bJ:=sH x c') (Xa X' (X'.gr.a7.mp (es▸cD _ (.head _))) λFR h2 J=>?_) rfl
    cases J with
    |mk X2 f2 hG pU=>
     refine t2.nx (.mk X2 (f'.trans f2) (ad.trans hG) λz y hy b m t ht=>(bO.1 hy).elim (λhy=>cl (hG.off z) y hy b m t ht) λhy=>?_) rfl
     cases a6.1 hy
     have w:=pU z b m t
     rw [ad.no (hG.off z)] at w
     exact w ht
  ·cases I with
   | @mk F' c' h' X' f' ad cl=>
    refine bf (bi ?_)
    cases c' with
    |true=>exact dy (gb (kC (xk rfl)) rfl) (bf (tt.nx ⟨_,Q2 hm ((ad.lt rfl).resolve_left Bool.noConfusion) (bd X'),.mk X' (f.trans f') (r0 (bd X'))⟩ rfl))
    |false=>
     cases ad.no rfl
     exact cX (gb (kC (xk rfl)) rfl) (t5 (tt.brk (bi (il (rE (xk rfl) X'.G.g) λ_=>q F h' ⟨X'.good,λr hr t ht=>cl rfl r.1 (X'.gr.a7.mpr (iK.mpr ⟨r,hr,rfl⟩)) r.2 hr t ht⟩ X'.tab (f.trans f')))))
theorem Xc(q:uu us h Q):A5 (us.map some++[none,none,none,none,none]) h λfl _ h'=>Q (c7 fl) h':=by
 have K0:Kn 6 [(0,.ref gL)] ([V.ref gL].map some++[none,none,none,none,none]):=.dA rfl rfl
 cases q with
 | @old ks F G D l0 l1 q=>
  refine D.d.elim λn e=>(a8 (cX (pQ (rE (xk rfl) G) e (nX (f:=λx=>.ref (qP x))▸aw l1 (by decide:1000<=1000000)) ?_) (il (rE (xk rfl) G) (y0 λ_=>q))):Wk 6 [(0,.ref gL)] A5 h λfl _ h'=>Q (c7 fl) h') _ K0
  cases ks with
  |nil=>cases l0
  |cons=>rfl
 | @mk T R S gr G ps fi free q=>
  refine fi.casesOn λ{n} ef=>(io (pQ (rE (xk rfl) G.g) ef (bH _) rfl) ?_:Wk 6 [(0,.ref gL)] A5 h λfl _ h'=>Q (c7 fl) h') _ K0
  have po:∀{ks h1},bj ks 0=some (.ref gL)->aC [13,14] h h1->∀{h'},bC [0] h1 h'->Ek ks (aE (an 0) "First") h' (.ref kH):=λ{ks h1} e f {h'} s=>rE (xk e) ((G.g.same (f.same rfl)).same s)
  refine G.tm.elim λk et=>G.nt.elim λk' en=>a8 (v0 (xs:=T) (Inv:=C0 [] (sL T) h) (wc (xk rfl) G.g) et (λa ks h' I=>I.casesOn λ_ f=>f.at_ _ _ rfl) (.mk (.nil ef free) .refl) (λa x r ks h' es I P' t=>?_) λks h' I=>?_)
  ·cases I with
   |mk D f=>
    have ev:sL T x=[x]:=bz (.inl (es▸cD _ (.head _)))
    exact Iw D (vH (es▸gr.tn)) (aw (cN (mid es).2) (aw gr.tl (by decide))) rfl rfl (ev▸eH rfl) (ev▸iS (xk rfl)) (po rfl f) rfl (xk rfl) λh2 D2 f2=>t.nx (.mk D2 (f.trans f2)) rfl
  ·cases I with
   |mk D f=>
    have ev:sL T cH=[cH]:=bz (.inr rfl)
    refine bf (bi (a8 (Iw (x:=cH) D gr.fin (aw gr.tl (by decide)) rfl rfl (ev▸eH rfl) (ev▸iS df) (po rfl f) rfl df λh1 D1 f1=>bi ?_)))
    have As:=f.trans f1
    refine a8 (v0 (xs:=a7 T R) (Inv:=C0 (T++[cH]) (sL T) h) (mQ (xk rfl) (G.g.same (As.same rfl))) ((As.at_ _ _ rfl).trans en) (λa ks h' I=>I.casesOn λ_ f=>(f.at_ _ _ rfl).trans (As.at_ _ _ rfl).symm) (.mk ((gy _).symm▸D1) As) (λa x r ks h' es I P' t=>?_) λks h' I=>?_)
    ·cases I with
     |mk D f=>
      have hx:x∈bL R:=gr.a7.mp (es▸cD _ (.head _))
      have ev:sL T x=[]:=bD (Bf gr hx)
      have nx:x∉T++[cH]++a:=λz=>(bO.1 z).elim (λz=>Bf gr hx ((bO.1 z).imp_right a6.1)) (vH (es▸tC (T:=T) (R:=R)))
      have la:(T++[cH]++a).length<=1000:=aw (aL cw) (aw (fw (aw (aL cw) (cS gr.tl)) (aw (cN (mid es).2) (aw gr.vI gr.rl))) (by decide))
      exact Iw D nx la rfl rfl (ev▸bH _) (ev▸e7) (po rfl f) rfl (xk rfl) λh2 D2 f2=>t.nx (.mk (kY ..▸D2) (f.trans f2)) rfl
    ·cases I with
     |mk D f=>exact bf (bi (W9 (S:=S) ⟨gr,G.same (f.same rfl),ps.same (f.same rfl),D,.zero gr⟩ f q))
end
noncomputable def Jr(F:ah)(I:Sy->Sy->Prop)(x:Sy)(b:ai)(j:Nat)(B:Sy):Prop:=(∀t,t≠bV->fN F t (b.drop (j+1))->I B t)/\(fN F bV (b.drop (j+1))->∀t,I x t->I B t)
noncomputable abbrev Jt(R:List aH)(S:Sy)(F:ah)(I:Sy->Sy->Prop):Prop:=I S cH/\∀x b,(x,b)∈R->∀j B,b[j]?=some B->B∈bL R->Jr F I x b j B
structure uH(T:ai)(R:List aH)(S:Sy)(F:ah)(x t:Sy):Prop where
 u:t∈cH::T
 i:∀I,Jt R S F I->I x t
structure Good2(T:ai)(R:List aH)(S:Sy)(F Fo:ah):Prop where
 st:cH∈Fo S
 nt:∀x∈bL R,(Fo x).Nodup/\∀t∈Fo x,uH T R S F x t
structure mZ(T:ai)(R:List aH)(S:Sy)(F Fo:ah):Prop where
 good:Good2 T R S F Fo
 ff:Jt R S F λx t=>t∈Fo x
inductive zj(h:H)(Q:ab):aj->Prop
 |mk{T:ai}{R:List aH}{S:Sy}{F:ah}:Gr T R->GP T R S h->k7 S R (λ_=>True) h->(∃b,R[0]?=some (S,b))->Tab 13 14 (ju T R) F h->lO T R F->Em iH h->(∀x,h (gp x)=none)->(∀Fo h',mZ T R S F Fo->Tab 15 16 (a7 T R) Fo h'->aC [15,16] h h'->Q (.ref iH) h')->zj h Q [.ref gL,.none]
 |old{ks:ai}{F:ah}:eU h->Tab 15 16 ks F h->0<ks.length->ks.length<=1000->Q (.ref iH) h->zj h Q [.ref gL,.none]
noncomputable def JV:b6:=λus h Q=>zj h Q us
noncomputable def PM:SW:=aB (cM (bY (a3 (aE (an 0) "Follow") (an 6)) "list" de (aA (an 9) aD))) (aZ 3 (hX true))
noncomputable def acj:SW:=aB (a9 (du (aT .NotEq (an 9) (bR "<empty>")) (du (aT .NotIn (an 9) (a3 (aE (an 0) "Follow") (an 6))) dI)) PM aO) (a9 (aT .Eq (an 9) (bR "<empty>")) (aZ 8 (hX true)) aO)
noncomputable def ack:SW:=aB (cM (bY (a3 (aE (an 0) "Follow") (an 6)) "list" de (aA (an 9) aD))) (aZ 3 (hX true))
noncomputable def P4:SW:=bX (bB (an 7)) false (a5 9) acj aO
noncomputable def P5:SW:=bX (bB (a3 (aE (an 0) "Follow") (aE (an 4) "name"))) false (a5 9) (a9 (aT .NotIn (an 9) (a3 (aE (an 0) "Follow") (an 6))) ack aO) aO
noncomputable def PP:SW:=aB P4 (a9 (lB (bE (an 8)) (lB (aT .Eq (an 5) (cR .Sub (bv dQ (aA (aE (an 4) "prod") aD)) (aM 1))) uQ)) P5 aO)
noncomputable def acl:SW:=aB (aZ 8 (hX false)) PP
noncomputable def PQ:SW:=aB (aZ 7 (dw (an 0) "_first" .dX uv (aA (nH (aE (an 4) "prod") (cR .Add (an 5) (aM 1))) aD))) acl
noncomputable def P6:SW:=bX (p6 qN (aA (aE (an 4) "prod") aD)) true (iN 2 (dE (a5 5) (dE (a5 6) ib))) (a9 (aT .In (an 6) (aE (an 0) "Nonterminals")) PQ aO) aO
noncomputable def P7:SW:=bX (bB (nH (aE (an 0) "Productions") (aM 1))) false (a5 4) P6 aO
noncomputable def acm:SW:=aB P7 (a9 (gm (bE (an 3))) q8 aO)
noncomputable def acn:SW:=aB (aZ 3 (hX false)) acm
noncomputable def PR:SW:=aB (o5 (bE (hX true)) acn aO) (eA (aE (an 0) "Follow"))
noncomputable def ace:SW:=aB (aS (cu (aE (an 0) "Follow") (an 1)) (cx (aA (bR "$end") aD))) PR
noncomputable def acf:SW:=aB (a9 (gm (bE (an 1))) (aZ 1 (aE (a3 (aE (an 0) "Productions") (aM 1)) "name")) aO) ace
noncomputable def acg:SW:=aB (bX (bB (aE (an 0) "Nonterminals")) false (a5 2) (aS (cu (aE (an 0) "Follow") (an 2)) (cx aD)) aO) acf
noncomputable def ach:SW:=aB (a9 (gm (bE (aE (an 0) "First"))) (cM (dw (an 0) "compute_first" .dX uu aD)) aO) acg
noncomputable def aci:SW:=aB (a9 (bE (aE (an 0) "Follow")) (eA (aE (an 0) "Follow")) aO) ach
noncomputable def A6:SW:=aci
structure FX(T:ai)(R:List aH)(S:Sy)(F Fo:ah)(h:H):Prop where
 gr:Gr T R
 G:GP T R S h
 ps:k7 S R (λ_=>True) h
 fh:Tab 13 14 (ju T R) F h
 xG:lO T R F
 tab:Tab 15 16 (a7 T R) Fo h
 good:Good2 T R S F Fo
inductive LV(X:(ah)->H->Prop)(ts:List Nat)(N:ai)(av:H)(F:ah)(c:Bool)(kf:Bool->Ks)(cl:Prop):Ks->H->Prop
 |mk{F':ah}{c':Bool}{h:H}:X F' h->aC ts av h->lK N F c F' c'->(c'=false->cl)->LV X ts N av F c kf cl (kf c') h
noncomputable abbrev LF(T:ai)(R:List aH)(S:Sy)(F:ah):=LV (FX T R S F) [15,16] (a7 T R)
noncomputable def qS(i:Nat)(c:Bool):Ks:=[(4,cq i),(3,.bool c),(0,.ref gL)]
noncomputable def qR(n i j:Nat)(B:Sy)(e c:Bool):Ks:=[(8,.bool e),(7,.ref (.ay n)),(6,sv B),(5,.int j),(4,cq i),(3,.bool c),(0,.ref gL)]
inductive FA(T:ai)(R:List aH)(S:Sy)(F:ah)(n i j:Nat)(B:Sy)(av:H)(Fo:ah)(c:Bool)(a:ai):Ks->H->Prop
 |mk{e:Bool}{ks:Ks}{h:H}:decide (bV∈a)=e->LF T R S F av Fo c (qR n i j B e) (∀t∈a,t≠bV->t∈Fo B) ks h->FA T R S F n i j B av Fo c a ks h
section
variable{R:List aH}{lP:ah}{t:Sy}{c c' e:Bool}
theorem Good2.len(G:Good2 T R S F Fo)(gr:Gr T R)(hx:x∈bL R):(Fo x).length<=1000:=aw (mH (G.nt x hx).1 λt ht=>((G.nt x hx).2 t ht).u) (aw (cS gr.tl) (by decide))
theorem Vm(G:kW T R F)(w:∀y∈b,y∈T\/y∈bL R)(h:fN F t b):t∈bV::T:=by
 induction b with
 |nil=>exact h▸.head _
 |cons y b ih=>exact h.elim (λz=>(w y (.head _)).elim (λm=>by
  have q:t∈F y:=z.2
  rw [G.term y (.inl m)] at q
  cases a6.1 q
  exact .tail _ m) λm=>((G.nt y m).2 t z.2).u) λz=>ih (λy hy=>w y (.tail _ hy)) z.2
theorem ahS(G:lO T R F)(gr:Gr T R)(m:(x,b)∈R)(hB:b[j]?=some B)(hb:B∈bL R)(n:t≠bV)(h:fN F t (b.drop (j+1))):uH T R S F B t:=
 ⟨.tail _ ((dP.1 (Vm G.good (λy hy=>gr.syms _ m y (zL hy)) h)).resolve_left n),λI cl=>(cl.2 x b m j B hB hb).1 t n h⟩
theorem ahT(m:(x,b)∈R)(hB:b[j]?=some B)(hb:B∈bL R)(h:fN F bV (b.drop (j+1)))(s:uH T R S F x t):uH T R S F B t:=⟨s.u,λI cl=>(cl.2 x b m j B hB hb).2 h t (s.i I cl)⟩
theorem Good2.up(G:Good2 T R S F Fo)(s:uH T R S F x t)(n:t∉Fo x):Good2 T R S F (mN Fo x t):=⟨aeo.mpr (.inl G.st),λy hy=>(aN (y=x)).elim (λe=>by
 subst e
 rw [vY]
 exact⟨nV (G.nt y hy).1 n,λu hu=>(bO.1 hu).elim ((G.nt y hy).2 u) λz=>a6.1 z▸s⟩) λe=>tY e▸G.nt y hy⟩
theorem FX.to(X:FX T R S F Fo h)(f:aC [15,16] h h')(t:Tab 15 16 (a7 T R) lP h')(g:Good2 T R S F lP):FX T R S F lP h':=⟨X.gr,X.G.same (f.same rfl),X.ps.same (f.same rfl),X.fh.same (f.same rfl),X.xG,t,g⟩
theorem FX.fo(X:FX T R S F Fo h)(e0:bj ks 0=some (.ref gL))(pk:Ek ks m h (sv x))(hx:x∈bL R):Ek ks (a3 (aE (an 0) "Follow") m) h (.ref (gp x)):=X.tab.d.elim λk ed=>lJ (f:=λx=>.ref (gp x)) (rF (xk e0) X.G.g) pk ed (X.gr.a7.mpr hx)
theorem FX.l(X:FX T R S F Fo h)(hx:x∈bL R):h (gp x)=some (.lst ((Fo x).map sv)):=X.tab.get (X.gr.a7.mpr hx)
theorem NS(X:FX T R S F Fo h)(e0:bj ks 0=some (.ref gL))(e6:bj ks 6=some (sv B))(e9:bj ks 9=some (sv t))(hB:B∈bL R)(s:uH T R S F B t)(w:t∉Fo B)(q:∀h',FX T R S F (mN Fo B t) h'->aC [15,16] h h'->Wf 12 ((3,.bool true)::ks) h' P):Wk 12 ks PM h P:=by
 refine a8 (kQ (X.fo e0 (xk e6) hB) (X.l hB) (map_lt (b7 (X.good.len X.gr hB) (by decide))) (xk e9) (bi (lF jZ ?_)))
 have en:h.upd (gp B) (.lst ((Fo B).map sv++[sv t]))=h.upd (gp B) (.lst ((Fo B++[t]).map sv)):=au (λl=>h.upd (gp B) (.lst l)) (gF (f:=sv) (l₁:=Fo B) (l₂:=[t])).symm
 exact(au (λh=>Wf 12 _ h P) en).mpr (q _ (X.to (aC.refl.upd rfl) (X.tab.turn rfl (X.gr.a7.mpr hB)) (X.good.up s w)) (aC.refl.upd rfl))
theorem Yz(X:FX T R S F Fo h)(m:(x,b)∈R)(hj:b[j]?=some B)(hB:B∈bL R)(el:h (.ay n)=some (.lst ((gN F [] (b.drop (j+1))).map sv)))
 (q:∀ks h',LF T R S F h Fo c (qR n i j B (decide (bV∈gN F [] (b.drop (j+1))))) (∀t,t≠bV->fN F t (b.drop (j+1))->t∈Fo B) ks h'->Wf 12 ks h' P):Wk 12 (qR n i j B false c) P4 h P:=by
 refine fB (Inv:=FA T R S F n i j B h Fo c) (xk rfl) (λa ks h' I=>I.casesOn λ_ I=>I.casesOn λ_ f _ _=>f.old el) (.mk (e:=false) rfl (.mk X .refl .refl λ_ _ z=>absurd z a0)) (λa t r ks h' es I P' tt=>?_) λks h' I=>?_
 ·have ht:fN F t (b.drop (j+1)):=((yi (acc:=[])).mp (es▸cD _ (.head _))).resolve_left a0
  cases I with
  | @mk e _ _ ee I=>
   cases I with
   | @mk lP c' h' X' f ad cl=>
    refine a8 ((aN (t=bV)).elim (λz=>?_) λz=>?_)
    ·exact dy (lZ (Ep (y:=bV) (xk rfl) df (by rw [decide_eq_true z];rfl))) (bf (bi (cX (ow (y:=bV) (xk rfl) df (cE z)) (lF jZ (tt.nx (.mk (e:=true) (cE (z▸cD _ (.head _))) (.mk X' f ad λw u hu ne=>(bO.1 hu).elim (λhu=>cl w u hu ne) λhu=>absurd ((a6.1 hu).trans z) ne)) rfl)))))
    have em:decide (bV∈a++[t])=e:=(Ao.2 (bO.trans ⟨λw=>w.elim id λw=>absurd (a6.1 w).symm z,.inl⟩)).trans ee
    have ne:Eb ((9,sv t)::qR n i j B e c') (aT .NotEq (an 9) (bR "<empty>")) h' true:=Ep (y:=bV) (xk rfl) df (by rw [decide_eq_false z];rfl)
    refine(aN (t∈lP B)).elim (λw=>?_) λw=>?_
    ·exact dy (hV ne (lZ (oy (xk rfl) (X'.fo rfl (xk rfl) hB) (X'.l hB) (by rw [decide_eq_true w];rfl)))) (bf (bi (dy (ow (y:=bV) (xk rfl) df (cQ z)) (bf (tt.nx (.mk em (.mk X' f ad λy u hu ne=>(bO.1 hu).elim (λhu=>cl y u hu ne) λhu=>ad.no y▸a6.1 hu▸w)) rfl)))))
    ·exact cX (hV ne (hV (oy (xk rfl) (X'.fo rfl (xk rfl) hB) (X'.l hB) (by rw [decide_eq_false w];rfl)) kE)) (NS X' rfl rfl rfl hB (ahS X'.xG X'.gr m hj hB z ht) w λh2 X2 f2=>bi (dy (ow (y:=bV) (xk rfl) df (cQ z)) (bf (tt.nx (.mk em (.mk (c':=true) X2 (f.trans f2) (ad.trans (.up (X'.gr.a7.mpr hB))) λz=>Bool.noConfusion z)) rfl))))
 ·cases I with
  |mk ee I=>subst ee;exact bf (q ks h' (I.casesOn λX' f ad cl=>.mk X' f ad λz t ne ht=>cl z t (yi.mpr (.inr ht)) ne))
end
noncomputable def zp(F Fo:ah)(x:Sy)(b:ai)(j:Nat)(B:Sy):Prop:=Jr F (λx t=>t∈Fo x) x b j B
noncomputable def Ct(R:List aH)(F Fo:ah)(x:Sy)(b:ai)(k:Nat):Prop:=∀j B,j<k->b[j]?=some B->B∈bL R->zp F Fo x b j B
noncomputable def Jp(R:List aH)(F Fo:ah)(k:Nat):Prop:=∀i x b,i<k->R[i]?=some (x,b)->Ct R F Fo x b b.length
noncomputable def Jq(Fo:ah)(x B:Sy)(l:ai):Prop:=∀t∈l,t∈Fo B
inductive FW(T:ai)(R:List aH)(S:Sy)(F:ah)(av:H)(m:Nat):Ks->H->Prop
 |mk{Fo:ah}{h:H}:FX T R S F Fo h->aC [15,16] av h->m+kP Fo (a7 T R)=(a7 T R).length*1000->FW T R S F av m [(0,.ref gL)] h
noncomputable def EZ(c:Bool):Ks:=[(3,.bool c),(0,.ref gL)]
section
variable{R:List aH}{lP:ah}{t:Sy}{c c' e:Bool}{av:H}{l:L}
theorem ajg(p:Ek ks m h (.tup vs))(q:Ek ks m' h (.int j))(h1:1<=j)(hj:j<=vs.length)(hl:vs.length<=1000000):Ek ks (nH m m') h (.tup (vs.drop j)):=λg K _ r=>p g K _ (q g K _ (.tup (jK.2 h1) (jK.2 hj) hl r))
theorem ajf(p:Ek ks m h (.ref l))(q:Ek ks m' h (.int j))(e:h l=some (.lst vs))(hl:vs.length<=1000000):Ex ks (nH m m') h (fO h (vs.drop j)):=λg K Q z=>p g K _ (q g K _ (.lst (gx _) (.inl e) hl (gA λn hn=>z _ _ (.mk hn))))
theorem fO.new{v:V}(z:fO h vs v h'):∃n,v= .ref (.ay n)/\h' (.ay n)=some (.lst vs)/\Ext h h':=by
 cases z with
 | @mk n hn=>exact⟨n,rfl,H.aJ,aC.refl.new hn⟩
theorem GU:bV∈gN F [] b↔fN F bV b:=yi.trans ⟨λz=>z.resolve_left a0,.inr⟩
theorem YA(X:FX T R S F Fo h)(m:(x,b)∈R)(ei:(cY S R)[i]?=some (x,b))(hj:b[j]?=some B)(hB:B∈bL R)(he:fN F bV (b.drop (j+1)))(q:∀ks h',LF T R S F h Fo c (qR n i j B e) (Jq Fo x B (Fo x)) ks h'->Wf 12 ks h' P):
 Wk 12 (qR n i j B e c) P5 h P:=by
 have hx:x∈bL R:=iK.mpr ⟨_,m,rfl⟩
 refine(X.ps i x b ei).casesOn λep _=>fB (Inv:=λa ks h'=>LV (λlP h'=>FX T R S F lP h'/\lP x=Fo x) [15,16] (a7 T R) h Fo c (qR n i j B e) (Jq Fo x B a) ks h') (X.fo rfl (Ck (xk rfl) ep) hx) (λa ks h' I=>I.casesOn λX _ _ _=>X.2▸X.1.l hx) (.mk ⟨X,rfl⟩ .refl .refl λ_ _ z=>absurd z a0) (λa t r ks h' es I P' tt=>?_) λks h' I=>bf (q ks h' (I.casesOn λX f ad cl=>.mk X.1 f ad cl))
 refine I.casesOn λ{lP c' h'} X' f ad cl=>?_
 have ht:t∈lP x:=X'.2▸es▸cD _ (.head _)
 refine o3 (p:=t∈lP B) (oy (xk rfl) (X'.1.fo rfl (xk rfl) hB) (X'.1.l hB) rfl) (λw=>?_) λw=>bf (tt.nx (.mk X' f ad λz u hu=>(bO.1 hu).elim (cl z u) λhu=>ad.no z▸a6.1 hu▸w) rfl)
 exact NS X'.1 rfl rfl rfl hB (ahT m hj hB he ((X'.1.good.nt x hx).2 t ht)) w λh2 X2 f2=>tt.nx (.mk (c':=true) ⟨X2,(tY λz:x=B=>w (z▸ht)).trans X'.2⟩ (f.trans f2) (ad.trans (.up (X'.1.gr.a7.mpr hB))) λz=>Bool.noConfusion z) rfl
theorem Yw(X:FX T R S F Fo h)(m:(x,b)∈R)(ei:(cY S R)[i]?=some (x,b))(hj:b[j]?=some B)(hB:B∈bL R)(el:h (.ay n)=some (.lst ((gN F [] (b.drop (j+1))).map sv)))(q:∀ks h',LF T R S F h Fo c (qS i) (zp F Fo x b j B) ks h'->Wf 12 ks h' P):Wk 12 (qR n i j B false c) PP h P:=by
 have bl:b.length<=100:=X.gr.len _ m
 refine a8 (Yz X m hj hB el λks h' I=>?_)
 refine I.casesOn λ{F1 c1 h1} X1 f1 lX qL=>?_
 refine bi ((aN (bV∈gN F [] (b.drop (j+1)))).elim (λhe=>?_) λhe=>?_)
 ·refine cX (Et (kC (xk (au (λe=>some (V.bool e)) (cE he))))) (YA X1 m ei hj hB (GU.mp he) λks h2 J=>?_)
  cases J with
  |mk X2 f2 hG pU=>
   refine(q _ _ (.mk X2 (f1.trans f2) (lX.trans hG) λz=>?_)).sub rfl
   have w:=pU z
   rw [lX.no (hG.off z)] at w
   exact⟨qL (hG.off z),λ_=>w⟩
 ·have nj:j+1≠b.length:=λz=>he (GU.mpr (by rw [z,List.drop_length];rfl))
  refine(X1.ps i x b ei).casesOn λep _=>dy (xe (kC (xk (au (λe=>some (V.bool e)) (cQ he)))) (xe (kD (x:=j) (xk rfl) (y9 (IL (ug (xk rfl) ep) (eP (aw bl (by decide))) (au _ (bx _))) bF rfl) (nF.2 λz=>nj (jJ ((au (·+1) z).trans (Int.sub_add_cancel _ 1))))) Ml)) (bf ((q _ _ (.mk X1 f1 lX λz=>⟨qL z,λw=>absurd (GU.mpr w) he⟩)).sub rfl))
theorem Yx(X:FX T R S F Fo h)(m:(x,b)∈R)(ei:(cY S R)[i]?=some (x,b))(hj:b[j]?=some B)(hB:B∈bL R)(q:∀ks h',LF T R S F h Fo c (qS i) (zp F Fo x b j B) ks h'->Wf 12 ks h' P):Wk 12 ((6,sv B)::(5,.int j)::qS i c) PQ h P:=by
 have bl:b.length<=100:=X.gr.len _ m
 refine(X.ps i x b ei).casesOn λep _=>X.G.g.casesOn λeg na=>dO (gU (Φ:=fO h ((gN F [] (b.drop (j+1))).map sv)) (xk rfl) eg ((nK (by kernel_rfl)).trans (na _ (by decide+kernel))) (iS (ajg (j:=j+1) (ug (xk rfl) ep) (rD (xk rfl) bF rfl) (rY _ _) (f5 (cm.1 hj).1 (bx _).symm) (eP (aw bl (by decide))))) λQ z=>?_) λv h1 z=>?_
 ·rw [<-List.map_drop]
  exact .mk X.G.g X.fh (λx hx=>X.xG.good.len X.gr hx) (λy hy=>(X.gr.syms _ m y (zL hy)).elim (λz=>bO.2 (.inl (bO.2 (.inl z)))) λz=>bO.2 (.inr (X.gr.a7.mpr z))) (aw (aL rW) (aw (wF _ _) bl)) λn hn=>z _ _ (.mk hn)
 ·cases z with
  | @mk n hn=>
   have f:aC [15,16] h (h.upd (.ay n) (.lst ((gN F [] (b.drop (j+1))).map sv))):=aC.refl.new hn
   exact dC jZ ((Yw (X.to f (X.tab.same bC.ay) X.good) m ei hj hB H.aJ λks h' I=>q ks h' (I.casesOn λX' f' ad cl=>.mk X' (f.trans f') ad cl)).sub rfl)
theorem YC(X:FX T R S F Fo h)(m:(x,b)∈R)(ei:(cY S R)[i]?=some (x,b))(q:∀ks h',LF T R S F h Fo c (qS i) (Ct R F Fo x b b.length) ks h'->Wf 12 ks h' P):
 Wk 12 (qS i c) P6 h P:=by
 refine(X.ps i x b ei).casesOn λep _=>aiP (Inv:=λa ks h'=>LF T R S F h Fo c (qS i) (Ct R F Fo x b a.length) ks h') (ug (xk rfl) ep) (.mk X .refl .refl λ_ _ _ z=>absurd z (m9 _)) (λa B r ks h' es I P' tt=>?_) λks h' I=>bf (q ks h' (I))
 refine I.casesOn λ{F1 c1 h'} X1 f1 lX qL=>?_
 have eB:=(mid es).1
 have end_:∀ks h2,LF T R S F h' F1 c1 (qS i) (B∈bL R->zp F F1 x b a.length B) ks h2->Wf 12 ks h2 P':=λks h2 J=>by
  cases J with
  |mk X2 f2 hG pU=>
   refine tt.nx (.mk X2 (f1.trans f2) (lX.trans hG) λz j B' hj ej hB=>(aN (j=a.length)).elim (λw=>?_) λw=>qL (hG.off z) j B' (rZ (ji (f5 hj cw)) w) ej hB) rfl
   subst w
   cases bc (eB.symm.trans ej)
   have w:=pU z hB
   rw [lX.no (hG.off z)] at w
   exact w
 refine X1.G.nt.elim λk en=>n6 (p:=B∈a7 T R) (uS (f:=λx=>.ref (Hh x)) (xk rfl) (mQ (xk rfl) X1.G.g) en rfl) (λhB=>?_) λhB=>bf ((end_ _ _ (.mk X1 .refl .refl λ_ z=>absurd (X1.gr.a7.mpr z) hB)).sub rfl)
 exact Yx X1 m ei eB (X1.gr.a7.mp hB) λks h2 J=>end_ ks h2 (J.casesOn λX f ad cl=>.mk X f ad λz _=>cl z)
theorem YB(X:FX T R S F Fo h)(q:∀ks h',LF T R S F h Fo c EZ (Jp R F Fo R.length) ks h'->Wf 12 ks h' P):Wk 12 (EZ c) P7 h P:=by
 have pl:((List.range (R.length+1)).map cq).drop 1=(List.range R.length).map λi=>cq (i+1):=by rw [List.range_succ_eq_map,List.map_cons,List.map_map];rfl
 refine yX (ajf (j:=1) (mS (xk rfl) X.G.g) bF X.G.nW (eP (aw (aL iw) (aw (cS X.gr.rl) (by decide))))) λv h1 z=>(pl▸z:fO h ((List.range R.length).map λi=>cq (i+1)) v h1).new.elim λn z=>?_
 have f:=z.2.2.of (ts:=[15,16])
 cases z.1
 refine fB (xs:=List.range R.length) (f:=λi=>cq (i+1)) (Inv:=λa ks h'=>LF T R S F h1 Fo c EZ (Jp R F Fo a.length) ks h') lH (λa ks h' I=>I.casesOn λ_ f _ _=>f.old z.2.1) (.mk (X.to f (X.tab.same (bC.of z.2.2)) X.good) .refl .refl λ_ _ _ _ z=>absurd z (m9 _)) (λa i r ks h' es I pD t2=>?_) λks h' I=>bf (q _ _ (I.casesOn λX1 f1 ad cl=>.mk X1 (f.trans f1) ad λz=>(iw (n:=R.length))▸cl z))
 refine I.casesOn λ{F1 c1 h1} X1 f1 lX qL=>?_
 have km:=HI es
 cases km.1
 have ex:∃x b,R[a.length]?=some (x,b):=⟨_,_,fu km.2⟩
 refine ex.elim λx ex=>ex.elim λb eR=>Wk.sub (bJ:=qS (a.length+1) c1) (YC X1 (cP eR) eR λFR h2 J=>?_) rfl
 cases J with
 |mk X2 f2 hG pU=>
  refine t2.nx (.mk X2 (f1.trans f2) (lX.trans hG) λz i x b hi ei=>(aN (i=a.length)).elim (λw=>?_) λw=>qL (hG.off z) i x b (rZ (ji (f5 hi cw)) w) ei) rfl
  subst w
  have w:=pU z
  rw [lX.no (hG.off z)] at w
  cases bc (eR.symm.trans ei)
  exact w
theorem Yy(X:FX T R S F Fo h)(f:aC [15,16] av h)(q:∀Fo h',mZ T R S F Fo->Tab 15 16 (a7 T R) Fo h'->aC [15,16] av h'->Q (.ref iH) h'):Wk 12 [(0,.ref gL)] PR h λfl _ h'=>Q (c7 fl) h':=by
 have bd:∀{Fo h},FX T R S F Fo h->kP Fo (a7 T R)<=(a7 T R).length*1000:=λX=>TD λx hx=>X.good.len X.gr (X.gr.a7.mp hx)
 refine a8 (rC (I:=FW T R S F av) _ (.mk X f (r0 (bd X))) λm ks h I=>.inr ⟨kC jZ,λP' tt=>?_⟩)
 refine I.casesOn λX f hm=>?_
 refine dC jZ (a8 (YB X λks h' J=>?_))
 cases J with
 | @mk F1 c1 h1 X1 f1 lX qL=>
  refine bi ?_
  cases c1 with
  |true=>exact dy (gb (kC (xk rfl)) rfl) (bf (tt.nx ⟨_,Q2 hm ((lX.lt rfl).resolve_left Bool.noConfusion) (bd X1),.mk X1 (f.trans f1) (r0 (bd X1))⟩ rfl))
  |false=>
   cases lX.no rfl
   exact cX (gb (kC (xk rfl)) rfl) (t5 (tt.brk (bi (il (rF (xk rfl) X1.G.g) λ_=>q _ _ ⟨X1.good,X1.good.st,λx b m j B hj hB=>(jL.1 m).elim λi ei=>qL rfl i x b (cm.1 ei).1 ei j B (cm.1 hj).1 hj hB⟩ X1.tab (f.trans f1)))))
end
noncomputable def vb(S:Sy):ah:=λx=>if x=S then [cH] else []
noncomputable def sM(S:Sy)(n:Nat)(x:Sy):V:=if x=S then .ref (.ay n) else .ref (gp x)
noncomputable def xI:Ks:=[(1,.none),(0,.ref gL)]
inductive CT(S:Sy)(av:H)(a:ai):Ks->H->Prop
 |mk{n m:Nat}{h:H}:h iH=some (.aF (rows a (sM S n)) m)->(∀x,h (gp x)=if x∈a/\x≠S then some (.lst []) else none)->aC [15,16] av h->CT S av a xI h
section
variable{R:List aH}{t:Sy}{a:ai}{av:H}{m:Nat}{us:aj}{l:L}{f f':Sy->V}{kk:EW}
theorem SE(nd:N.Nodup)(hx:x∈N)(w:∀y∈N,y≠x->f' y=f y):dS (rows N f) (sv x) (f' x)=rows N f':=by
 induction N with
 |nil=>cases hx
 |cons y N ih=>
  have c:=gX.1 nd
  refine(aN (y=x)).elim (λe=>?_) λe=>?_
  ·subst e
   exact(vN rfl).trans (au ((sv y,f' y)::·) (qy λz hz=>au (Prod.mk (sv z)) (w z (.tail _ hz) λe=>c.1 (e▸hz)).symm))
  ·exact(q6 λz=>e (oY z)).trans ((au ((sv y,f y)::·) (ih c.2 ((dP.1 hx).resolve_left (uF e)) λz hz=>w z (.tail _ hz))).trans (au (λv=>(sv y,v)::rows N f') (w y (.head _) e).symm))
theorem Fz{α:Type}{p q:Prop}[Decidable p][Decidable q]{a b c:α}(e:p↔q)(w:a=c):(if p then a else b)=if q then c else b:=(aN p).elim (λz=>(bz z).trans (w.trans (bz (e.mp z)).symm)) λz=>(bD z).trans (bD λy=>z (e.mpr y)).symm
theorem aal(e:x=S):sM S n x= .ref (.ay n):=bz e
theorem AR(e:x≠S):sM S n x= .ref (gp x):=bD e
theorem YD(hx:x∉a)(la:a.length<=1000)(e:h iH=some (.aF (rows a (sM S n)) m))(fl:∀x,h (gp x)=if x∈a/\x≠S then some (.lst []) else none)(fr:aC [15,16] av h)(po:∀{h'},bC [0] h h'->Ek ks o h' (.ref iH))(pk:∀{h'},Ek ks kk h' (sv x))(q:∀h',CT S av (a++[x]) xI h'->Wf 12 ks h' P):
 Wk 12 ks (aS (cu o kk) (cx aD)) h P:=λg K=>(aN (x=S)).elim (λz=>by
 subst z
 exact⟨bH _,gA λn' hn=>(yY (f:=sM x n') (m:=cV (.ref (.ay n'))) (aal (S:=x) (n:=n') rfl▸lH) (po bC.ay) pk (aW (e.trans (au (λr=>some (O.aF r m)) (qy λy hy=>au (Prod.mk (sv y)) ((AR λz:y=x=>hx (z▸hy)).trans (AR λz:y=x=>hx (z▸hy)).symm)))) dZ) (aw la (by decide)) λi=>q _ (.mk (H.aJ.trans (au (λr=>some (O.aF (rows r _) i)) (iD hx))) (λy=>(H.bp (bw rfl)).trans ((H.bp dZ).trans ((fl y).trans (Fz ⟨λz=>⟨eM _ z.1,z.2⟩,λz=>⟨(bO.1 z.1).resolve_right λw=>z.2 (a6.1 w),z.2⟩⟩ rfl)))) ((fr.new hn).upd rfl)):Wk 12 ks _ _ P) g K⟩) λz=>
 ⟨bH _,gO (gp x) ((fl x).trans (bD λw=>hx w.1)) ((yY (f:=sM S n) (m:=cV (.ref (gp x))) (AR (n:=n) z▸lH) (po (bC.upd rfl)) pk (aW e (bw rfl)) (aw la (by decide)) λi=>q _ (.mk (H.aJ.trans (au (λr=>some (O.aF (rows r _) i)) (iD hx))) (λy=>(H.bp (bw rfl)).trans ((aN (y=x)).elim (λw=>by
  subst w
  exact H.aJ.trans (bz ⟨cD _ (.head _),z⟩).symm) λw=>(H.bp λu=>w (A4 u)).trans ((fl y).trans (Fz ⟨λz=>⟨eM _ z.1,z.2⟩,λz=>⟨(bO.1 z.1).resolve_right λu=>w (a6.1 u),z.2⟩⟩ rfl)))) ((fr.upd rfl).upd rfl)):Wk 12 ks _ _ P) g K)⟩
theorem Xd(q:JV us h Q):A6 (us.map some++[none,none,none,none,none,none,none,none,none,none]) h λfl _ h'=>Q (c7 fl) h':=by
 have K0:Kn 12 xI ([V.ref gL,.none].map some++[none,none,none,none,none,none,none,none,none,none]):=.dA rfl rfl
 cases q with
 | @old ks F G D l0 l1 q=>
  refine D.d.elim λn e=>(a8 (cX (pQ (rF (xk rfl) G) e (nX (f:=λx=>.ref (gp x))▸aw l1 (by decide:1000<=1000000)) ?_) (il (rF (xk rfl) G) (y0 λ_=>q))):Wk 12 xI A6 h λfl _ h'=>Q (c7 fl) h') _ K0
  cases ks with
  |nil=>cases l0
  |cons=>rfl
 | @mk T R S F gr G ps fst fh xG fo free q=>
  refine fo.casesOn λ{n} ef=>fh.d.elim λk XR=>G.nt.elim λk' en=>fst.elim λb0 eR=>(io (pQ (rF (xk rfl) G.g) ef (bH _) rfl) (io (gb (b:=true) (pQ (rE (xk rfl) G.g) XR ?_ ?_) rfl) ?_):Wk 12 xI A6 h λfl _ h'=>Q (c7 fl) h') _ K0
  ·exact aw (aL nX) (aw (aL (cw.trans (au (·+_) cw))) (aw (fw (cS gr.tl) (aw gr.vI gr.rl)) (by decide)))
  ·cases T with
   |nil=>rfl
   |cons=>rfl
  have hS:S∈a7 T R:=gr.a7.mpr (iK.mpr ⟨_,cP eR,rfl⟩)
  refine a8 (v0 (xs:=a7 T R) (Inv:=CT S h) (mQ (xk rfl) G.g) en (λa ks h' I=>I.casesOn λ_ _ f=>f.at_ _ _ rfl) (.mk (n:=0) ef (λx=>(free x).trans (bD λz=>absurd z.1 a0).symm) .refl) (λa x r ks h' es I P' t=>?_) λks h' I=>?_)
  ·cases I with
   |mk e fl f=>exact YD (vH (es▸tC (T:=T) (R:=R))) (aw (cN (mid es).2) (aw gr.vI (aw gr.rl (by decide)))) e fl f (λs=>rF (xk rfl) ((G.g.same (f.same rfl)).same s)) (xk rfl) λh2 I=>t.nx I rfl
  ·cases I with
   | @mk n m h' e fl f=>
    have G1:=G.g.same (f.same rfl)
    have e1:((List.range (R.length+1)).map cq)[1]?=some (cq 1):=eL.trans (au (Option.map cq) (zJ (wG (cm.1 eR).1)))
    refine(ps 1 S b0 eR).casesOn λep _=>bf (bi (a8 (cX (gb (sB (xk rfl)) rfl) (lF (Ck (o9 (j:=1) (mS (xk rfl) G1) bF ((f.at_ _ _ rfl).trans G.nW) e1 (by decide)) ((f.at_ _ _ rfl).trans ep)) (bi (a8 ?_))))))
    refine λg K=>⟨eH rfl,gO (gp S) ((fl S).trans (bD λw=>w.2 rfl)) ((kR (m:=cV (.ref (gp S))) lH (rF (xk rfl) (G1.same (bC.upd rfl))) (xk (v:=sv S) rfl) (aW e (bw rfl)) (aw (aL nX) (aw gr.vI (aw gr.rl (by decide)))) (fm S) λi=>bi ?_:Wk 12 _ _ _ _) g K)⟩
    have er:dS (rows (a7 T R) (sM S n)) (sv S) (.ref (gp S))=rows (a7 T R) λy=>.ref (gp y):=SE (f':=λy=>.ref (gp y)) tC hS λy _ z=>(AR z).symm
    rw [er]
    have F2:aC [15,16] h ((h'.upd (gp S) (.lst [.str "$end"])).upd iH (.aF (rows (a7 T R) λy=>.ref (gp y)) i)):=(f.upd rfl).upd rfl
    refine Wk.sub (bJ:=[(0,.ref gL)]) (Yy (Fo:=vb S) ⟨gr,G.same (F2.same rfl),ps.same (F2.same rfl),fh.same (F2.same rfl),xG,⟨⟨_,H.aJ⟩,λy=>(H.bp (bw rfl)).trans ((aN (y=S)).elim (λz=>?_) λz=>(H.bp λu=>z (A4 u)).trans ((fl y).trans ?_))⟩,⟨?_,λy hy=>?_⟩⟩ F2 q) rfl
    ·subst z
     exact H.aJ.trans ((bz hS).trans (au (λl=>some (O.lst (l.map sv))) (bz rfl:vb y y=[cH]))).symm
    ·exact(Fz ⟨λw=>w.1,λw=>⟨w,z⟩⟩ (au (λl=>some (O.lst (l.map sv))) (bD z:vb S y=[])).symm)
    ·rw [show vb S S=[cH] from if_pos rfl];exact .head _
    ·refine(aN (y=S)).elim (λz=>?_) λz=>?_
     ·rw [show vb S y=[cH] from if_pos z]
      exact⟨gX.2 ⟨a0,jg⟩,λt ht=>a6.1 ht▸⟨.head _,λI cl=>z▸cl.1⟩⟩
     ·rw [show vb S y=[] from if_neg z]
      exact⟨jg,λ_ z=>absurd z a0⟩
end
noncomputable def gc(S:Sy)(R:List aH)(i:Nat):ai:=((cY S R)[i]?).elim [] (·.2)
noncomputable def gu(S:Sy)(R:List aH)(p:It):Option Sy:=(gc S R p.1)[p.2]?
noncomputable def ga(S:Sy)(R:List aH)(p:It):List Nat:=(gu S R p).elim [] λy=>ig y R
noncomputable def su(m:List Nat)(i:Nat):List Nat:=if i∈m then m else m++[i]
noncomputable def iE(m ps:List Nat):List Nat:=ps.foldl su m
noncomputable abbrev fresh(m:List Nat):ak:=m.map λi=>(i,0)
noncomputable def lh(S:Sy)(R:List aH)(I:ak):Nat->Nat->List Nat->List Nat
 |0,_,m=>m
 |f+1,k,m=>((I++fresh m)[k]?).elim m λp=>lh S R I f (k+1) (iE m (ga S R p))
noncomputable def l9(S:Sy)(R:List aH)(I:ak):List Nat:=lh S R I (I.length+R.length+1) 0 []
noncomputable def di(S:Sy)(R:List aH)(I:ak):ak:=I++fresh (l9 S R I)
noncomputable def uw(R:List aH)(i:Nat):Prop:=1<=i/\i<=R.length
structure lS(R:List aH)(m:List Nat):Prop where
 nodup:m.Nodup
 r:∀i∈m,uw R i
structure Cu(S:Sy)(R:List aH)(I:ak)(J:It->Prop):Prop where
 i:∀p∈I,J p
 s:∀p,J p->∀i∈ga S R p,J (i,0)
structure zq(S:Sy)(R:List aH)(I:ak)(m:List Nat):Prop where
 ok:lS R m
 ff:∀p∈I++fresh m,∀i∈ga S R p,i∈m
 least:∀J,Cu S R I J->∀i∈m,J (i,0)
section
variable{R:List aH}{m m' ps:List Nat}{f:Nat}
theorem l6(e:(cY S R)[i]?=some (x,b)):gc S R i=b:=au (Option.elim · [] λr:aH=>r.2) e
theorem w0(h:i∈m):su m i=m:=bz h
theorem w5(h:i∉m):su m i=m++[i]:=bD h
theorem aeh:i∈su m j↔i∈m\/i=j:=(aN (j∈m)).elim (λh=>by rw [w0 h];exact⟨.inl,λz=>z.elim id λe=>e▸h⟩) λh=>by rw [w5 h];exact bO.trans (fH a6)
theorem Q5:i∈iE m ps↔i∈m\/i∈ps:=by
 induction ps generalizing m with
 |nil=>exact⟨.inl,λz=>z.elim id λz=>absurd z a0⟩
 |cons j ps ih=>exact ih.trans ((qZ aeh).trans (tD.trans (fH dP.symm)))
theorem L7:iE m (ps++[i])=su (iE m ps) i:=wq
theorem VQ:∃r,iE m ps=m++r:=by
 induction ps generalizing m with
 |nil=>exact⟨[],(gy _).symm⟩
 |cons j ps ih=>exact(ih (m:=su m j)).elim λr e=>(aN (j∈m)).elim (λh=>⟨r,e.trans (au (·++r) (w0 h))⟩) λh=>⟨j::r,e.trans ((au (·++r) (w5 h)).trans (kY ..))⟩
theorem VP(w:∀i∈ps,i∈m):iE m ps=m:=by
 induction ps with
 |nil=>rfl
 |cons j ps ih=>exact(au (iE · ps) (w0 (w j (.head _)))).trans (ih λi hi=>w i (.tail _ hi))
theorem afN(h:i∈ig x R):uw R i:=(bg.1 h).elim λp z=>by
 have q:=zM.1 (fC.1 z.1).1
 cases z.2
 exact⟨q.1,Nat.le_of_pred_lt (cm.1 q.2).1⟩
theorem Mc(h:i∈ga S R p):uw R i:=by
 unfold ga at h
 cases e:gu S R p with
 |none=>rw [e] at h;exact absurd h a0
 |some y=>rw [e] at h;exact afN h
theorem lS.one(N:lS R m)(w:uw R i):lS R (su m i):=(aN (i∈m)).elim (λh=>(w0 h).symm▸N) λh=>(w5 h).symm▸⟨nV N.nodup h,λj hj=>(bO.1 hj).elim (N.r j) λz=>a6.1 z▸w⟩
theorem lS.add(N:lS R m)(w:∀i∈ps,uw R i):lS R (iE m ps):=by
 induction ps generalizing m with
 |nil=>exact N
 |cons j ps ih=>exact ih (N.one (w j (.head _))) λi hi=>w i (.tail _ hi)
theorem lS.len(N:lS R m):m.length<=R.length:=aw (mH (U:=List.range' 1 R.length) N.nodup λi hi=>List.mem_range'_1.mpr ⟨(N.r i hi).1,b7 (N.r i hi).2 (f5 (jM _) (wz R.length 1))⟩) (aL List.length_range')
theorem EC(h:(I++fresh m)[k]?=some p):lh S R I (f+1) k m=lh S R I f (k+1) (iE m (ga S R p)):=au (Option.elim · m λp=>lh S R I f (k+1) (iE m (ga S R p))) h
theorem Am(h:(I++fresh m)[k]?=none):lh S R I f k m=m:=by
 cases f with
 |zero=>rfl
 |succ f=>exact au (Option.elim · m λp=>lh S R I f (k+1) (iE m (ga S R p))) h
theorem yF(N:lS R m):(I++fresh m).length<=I.length+R.length:=aw (aL (cw.trans (au (I.length+·) (bx _)))) (eV N.len _)
theorem Xh(hk:I.length+R.length+1<=f+k)(N:lS R m)(dn:∀q p,q<k->(I++fresh m)[q]?=some p->∀i∈ga S R p,i∈m)(ls:∀J,Cu S R I J->∀i∈m,J (i,0)):zq S R I (lh S R I f k m):=by
 have fin:(I++fresh m)[k]?=none->zq S R I m:=λe=>⟨N,λp hp i hi=>(jL.1 hp).elim λq z=>dn q p (dD (cm.1 z).1 (lQ.1 e)) z i hi,ls⟩
 induction f generalizing k m with
 |zero=>exact fin (Dk (aw (yF N) (qA (aw hk (aL (og k))))))
 |succ f ih=>
  cases e:(I++fresh m)[k]? with
  |none=>exact(Am e).symm▸fin e
  |some p=>
   have M5:∀q p',q<k+1->(I++fresh (iE m (ga S R p)))[q]?=some p'->∀i∈ga S R p',i∈iE m (ga S R p):=λq p' hq z i hi=>(VQ (m:=m) (ps:=ga S R p)).elim λr er=>by
    have lt:=dD hq (cm.1 e).1
    rw [er,show fresh (m++r)=fresh m++fresh r from List.map_append,<-List.append_assoc,List.getElem?_append_left lt] at z
    refine Q5.mpr ((lR q k).elim (λh=>.inl (dn q p' h z i hi)) λh=>.inr ?_)
    cases iz (ji hq) h
    cases bc (e.symm.trans z)
    exact hi
   have N':=N.add (ps:=ga S R p) λi hi=>Mc hi
   have Ph:∀J,Cu S R I J->∀i∈iE m (ga S R p),J (i,0):=λJ h i hi=>(Q5.mp hi).elim (ls J h i) (h.s p ((bO.1 (cP e)).elim (h.i p) λz=>(bg.1 z).elim λi z=>z.2▸ls J h i z.1) i)
   rw [EC e]
   exact ih (aw hk (aL (uD f k))) N' M5 Ph λe=>⟨N',λp hp i hi=>(jL.1 hp).elim λq z=>M5 q p (dD (cm.1 z).1 (lQ.1 e)) z i hi,Ph⟩
theorem nG:zq S R I (l9 S R I):=Xh (cB _) ⟨jg,λ_ z=>absurd z a0⟩ (λ_ _ z=>absurd z (m9 _)) λ_ _ _ z=>absurd z a0
theorem ED:(di S R I).length<=I.length+R.length:=yF (nG (S:=S)).ok
theorem EB(C:zq S R I m):lh S R I f k m=m:=by
 induction f generalizing k with
 |zero=>rfl
 |succ f ih=>
  cases e:(I++fresh m)[k]? with
  |none=>exact Am e
  |some p=>exact(EC e).trans ((au (lh S R I f (k+1)) (VP (C.ff p (cP e)))).trans ih)
end
noncomputable abbrev bN:L:=lb 30
noncomputable abbrev BY:List Str:=["lr0_closure","lr0_goto","lr0_items","lr_parse_table","compute_nullable_nonterminals","find_nonterminal_transitions","dr_relation","reads_relation"]
noncomputable def tS(c:Nat):List (Str×V):=[("_add_count",.int c),("grammar",.ref gL),("lr_method",.str "SLR"),("lr_action",.ref (lb 31)),("lr_goto",.ref (lb 32)),("lr_goto_cache",.ref (lb 33)),("lr0_cidhash",.ref (lb 34)),("sr_conflicts",.ref (lb 35)),("rr_conflicts",.ref (lb 36))]
noncomputable abbrev H5(c:Nat):(ac)->ac:=eX (tS c)
inductive ld(c:Nat)(h:H):Prop
 |mk{ext:ac}:h bN=some (.inst .table (H5 c ext))->(∀n∈BY,ext n=none)->ld c h
noncomputable def Sc(i:Nat)(x:Sy)(b:ai):List (Str×V):=Bo i x b++([("lr_next",.ref (iL (i,0))),("lr_items",.ref (nP i))]:List (Str×V))
noncomputable abbrev Bq(i:Nat)(x:Sy)(b:ai):(ac)->ac:=eX (Sc i x b)
inductive MarkA(as:ac):Nat->Prop
 |no:as "lr0_added"=none->MarkA as 0
 |yes{v:Nat}:as "lr0_added"=some (.int v)->MarkA as v
inductive wP(as:ac):Prop
 |no:as "reduced"=none->wP as
 |yes{w:Int}:as "reduced"=some (.int w)->wP as
inductive wL(c:Nat)(m:Prop)(i:Nat)(x:Sy)(b:ai)(h:H):Prop
 |mk{ext:ac}{v:Nat}:h (pL i)=some (.inst .dg (Bq i x b ext))->ext "__len__"=none->MarkA ext v->v<=c->(v=c↔m)->wP ext->wL c m i x b h
noncomputable def pE(S:Sy)(R:List aH)(c:Nat)(m:Nat->Prop)(h:H):Prop:=∀i x b,(cY S R)[i]?=some (x,b)->wL c (m i) i x b h
noncomputable def wM(S:Sy)(R:List aH)(c:Nat)(h:H):Prop:=∃m,pE S R c m h
structure LB(T:ai)(R:List aH)(S:Sy)(h:H):Prop where
 gr:Gr T R
 sl:S∈bL R
 G:GP T R S h
 bS:∀i x b,(cY S R)[i]?=some (x,b)->h (nP i)=some (.lst ((List.range (b.length+1)).map λj=>a4 (i,j)))
 it:∀i x b,(cY S R)[i]?=some (x,b)->∀j,j<=b.length->m7 R i j x b true h
noncomputable abbrev s6:List Nat:=[0,4,5,6,7,9,11,17,3,19,20,21]
inductive d4(S:Sy)(R:List aH):It->Prop
 |mk{i j:Nat}{x:Sy}{b:ai}:(cY S R)[i]?=some (x,b)->j<=b.length->d4 S R (i,j)
inductive Js(h:H)(Q:ab):aj->Prop
 |mk{T:ai}{R:List aH}{S:Sy}{c n:Nat}{I:ak}:LB T R S h->ld c h->wM S R c h->h (.ay n)=some (.lst (I.map a4))->(∀p∈I,d4 S R p)->I.length<=1000->
  (∀n' h',h' (.ay n')=some (.lst ((di S R I).map a4))->ld (c+1) h'->wM S R (c+1) h'->aC [2,30] h h'->Q (.ref (.ay n')) h')->Js h Q [.ref bN,.ref (.ay n)]
noncomputable def rO:b6:=λus h Q=>Js h Q us
noncomputable def ac0:SW:=aB (aS (b5 (an 5) "lr0_added") (aE (an 0) "_add_count")) (aZ 3 (hX true))
noncomputable def ac1:SW:=aB (cM (bY (an 2) "list" de (aA (aE (an 5) "lr_next") aD))) ac0
noncomputable def ac2:SW:=aB (a9 (aT .Eq (aE (an 5) "lr0_added") (aE (an 0) "_add_count")) BD aO) ac1
noncomputable def Gq:SW:=bX (bB (aE (an 4) "lr_after")) false (a5 5) ac2 aO
noncomputable def Qt:SW:=aB (aZ 3 (hX false)) (bX (bB (an 2)) false (a5 4) Gq aO)
noncomputable def ac3:SW:=aB (o5 (bE (an 3)) Qt aO) (eA (an 2))
noncomputable def ac4:SW:=aB (aZ 3 (hX true)) ac3
noncomputable def ac5:SW:=aB (aZ 2 (Na (an 1))) ac4
noncomputable def ac6:SW:=aB (q9 .Add (an 0) "_add_count" (aM 1)) ac5
noncomputable def GD:SW:=ac6
structure Dd(d:Bool)(m:List Nat)(d':Bool)(m':List Nat):Prop where
 no:d'=false->d=false/\m'=m
 le:m.length<=m'.length
 yes:d'=true->d=true\/m.length<m'.length
structure CS(R:List aH)(S:Sy)(c n:Nat)(I:ak)(av:H)(m:List Nat)(h:H):Prop where
 lst:h (.ay n)=some (.lst ((I++fresh m).map a4))
 tab:ld c h
 pr:pE S R c (·∈m) h
 ok:lS R m
 fr:aC [2,30] av h
noncomputable def pV(n:Nat)(d:Bool):Ks:=[(3,.bool d),(2,.ref (.ay n)),(0,.ref bN)]
inductive CI(R:List aH)(S:Sy)(c n:Nat)(I:ak)(av:H)(d:Bool)(m:List Nat)(a:List Nat):Ks->H->Prop
 |mk{d':Bool}{h:H}:CS R S c n I av (iE m a) h->Dd d m d' (iE m a)->CI R S c n I av d m a (pV n d') h
section
variable{R:List aH}{av:H}{v:Nat}{m m' Pk:List Nat}{d d' MU:Bool}{w:EW}{fs:List (Str×V)}{ext:ac}{nm:Str}{u':V}{l:L}{mm:Nat->Prop}{C:CN}{A:L}
theorem Ys:bT (eX ((nm,u)::fs) ext) nm u'=eX ((nm,u')::fs) ext:=vc λx=>by
 unfold eX
 refine(aN (x=nm)).elim (λz=>?_) λz=>?_
 ·rw [z,kA,List.lookup_cons_self];rfl
 ·rw [i4 z,List.lookup_cons,List.lookup_cons,beq_eq_false_iff_ne.mpr z]
theorem ld.same(t:ld c h)(e:bC [30] h h'):ld c h':=t.casesOn λz w=>.mk ((e _ _ _ rfl).trans z) w
theorem pE.same(p:pE S R c mm h)(e:bC [2] h h'):pE S R c mm h':=λi x b z=>(p i x b z).casesOn λa b c d f g=>.mk ((e _ _ _ rfl).trans a) b c d f g
theorem wM.next(p:wM S R c h):pE S R (c+1) (λ_=>False) h:=λi x b z=>p.elim λm p=>(p i x b z).casesOn λa b c d f g=>.mk a b c (uC d) ⟨λe=>DC _ (e▸d),False.elim⟩ g
theorem LB.same(b:LB T R S h)(e:bC s6 h h'):LB T R S h':=⟨b.gr,b.sl,b.G.same (e.sub rfl),λi x b' z=>(e _ _ _ rfl).trans (b.bS i x b' z),λi x b' z j hj=>(b.it i x b' z j hj).to λt m=>e _ _ _ (jC (fq:=s6) rfl m)⟩
theorem w7(hi:i<=R.length):∃x b,(cY S R)[i]?=some (x,b):=⟨_,_,fu (KM hi)⟩
theorem Ax(hi:i<=R.length):d4 S R (i,0):=(w7 (S:=S) hi).elim λx z=>z.elim λb e=>.mk e (bH _)
theorem LB.V5(L:LB T R S h)(e:(cY S R)[i]?=some (x,b))(hj:j<=b.length):h (ou R (i,j) b)=some (.lst ((ga S R (i,j)).map cq)):=(L.it i x b e j hj).casesOn λ_ _ f=>by
 unfold ga gu
 rw [l6 e]
 cases ey:b[j]? with
 |none=>
  have q:=Ea (i:=i) (R:=R) λy z=>cK z ey
  exact(au h q).trans (f q)
 |some y=>
  refine(aN (y∈bL R)).elim (λm=>(au h (Md ey m)).trans (L.G.pn.get m)) λm=>?_
  ·have q:=Ea (i:=i) (R:=R) λz w=>bc (ey.symm.trans w)▸m
   exact(au h q).trans ((f q).trans (au (λl=>some (O.lst (l.map cq))) (Sm m).symm))
theorem ajj(pe:Ek ks w h (.ref A))(ae:h A=some (.inst C (eX (Fv R i j x b) ext))):Ek ks (aE w "lr_after") h (.ref (ou R (i,j) b)):=jF pe ae (by kernel_rfl)
theorem IH(pe:Ek ks w h (.ref bN))(t:ld c h):Ek ks (aE w "_add_count") h (.int c):=t.casesOn λz _=>jF pe z (by kernel_rfl)
theorem UJ(pe:Ek ks w h (.ref A))(ae:h A=some (.inst .dg (Bq i x b ext)))(k:MarkA ext v):Ek ks (aE w "lr0_added") h (.int v):=by
 cases k with
 |no z=>exact λg K _ q=>pe g K _ (.cls ae ((nK (by kernel_rfl)).trans z) (.inr rfl) q)
 |yes z=>exact ub pe ae ((nK (by kernel_rfl)).trans z)
theorem Dd.refl:Dd d m d m:=⟨λz=>⟨z,rfl⟩,cB _,.inl⟩
theorem Dd.trans(a:Dd d m d' m')(b:Dd d' m' MU Pk):Dd d m MU Pk:=⟨λz=>⟨(a.no (b.no z).1).1,(b.no z).2.trans (a.no (b.no z).1).2⟩,aw a.le b.le,λz=>(b.yes z).elim (λz=>(a.yes z).imp_right λq=>dD q b.le) λz=>.inr (b7 a.le z)⟩
end
inductive CP(R:List aH)(S:Sy)(c n:Nat)(I:ak)(av:H)(tz:List Nat)(k:Nat):Ks->H->Prop
 |mk{m:List Nat}{d:Bool}{h:H}:CS R S c n I av m h->lh S R I (I.length+R.length+1 - k) k m=l9 S R I->Dd false tz d m->k<=(I++fresh m).length->CP R S c n I av tz k (pV n d) h
inductive zk(M:List Nat):List Nat->Bool->Nat->Prop
 |a{m:List Nat}:zk M m true 2
 |b:zk M M true 1
 |c:zk M M false 0
inductive CL(R:List aH)(S:Sy)(c n:Nat)(I:ak)(av:H)(k:Nat):Ks->H->Prop
 |mk{m:List Nat}{d:Bool}{h:H}:CS R S c n I av m h->lh S R I (I.length+R.length+1) 0 m=l9 S R I->zk (l9 S R I) m d k->CL R S c n I av k (pV n d) h
section
variable{R:List aH}{av:H}{v:Nat}{m m' tz:List Nat}{d d':Bool}{w:EW}{ext:ac}{l:L}{us:aj}
theorem CS.push(A:CS R S c n I av m h)(hn:av (.ay n)=none)(hm:i∉m)(hi:uw R i)(e:(cY S R)[i]?=some (x,b))(ln:ext "__len__"=none)(rd:wP ext):CS R S c n I av (m++[i]) ((h.upd (.ay n) (.lst ((I++fresh m).map a4++[a4 (i,0)]))).upd (pL i) (.inst .dg (bT (Bq i x b ext) "lr0_added" (.int c)))):=by
 refine⟨?_,A.tab.same (bC.trans bC.ay (bC.upd rfl)),λi' x' b' e'=>(aN (i'=i)).elim (λz=>?_) λz=>?_,w5 hm▸A.ok.one hi,(A.fr.ay hn).upd rfl⟩
 ·rw [H.bp dB,H.aJ,show fresh (m++[i])=fresh m++[(i,0)] from List.map_append,<-List.append_assoc,List.map_append (l₁:=I++fresh m)];rfl
 ·subst z
  cases bc (e.symm.trans e')
  exact .mk (ext:=bT ext "lr0_added" (.int c)) (v:=c) (H.aJ.trans (au (λa=>some (O.inst .dg a)) (qQ (by kernel_rfl)))) ((i4 (by decide+kernel)).trans ln) (.yes kA) (cB _) ⟨λ_=>cD _ (.head _),λ_=>rfl⟩ (rd.casesOn (λz=>.no ((i4 (by decide+kernel)).trans z)) λz=>.yes ((i4 (by decide+kernel)).trans z))
 ·exact(A.pr i' x' b' e').casesOn λe1 l1 k1 le mm r1=>.mk (aW (aW e1 dZ) (kK z)) l1 k1 le (mm.trans ⟨λy=>eM _ y,λy=>(bO.1 y).resolve_right λy=>z (a6.1 y)⟩) r1
theorem agt(l:m.length<=m'.length):(I++fresh m).length<=(I++fresh m').length:=by
 rw [List.length_append,List.length_append,List.length_map,List.length_map]
 exact eV l _
theorem Xi(L:LB T R S av)(A:CS R S c n I av m h)(hn:av (.ay n)=none)(e:(cY S R)[i]?=some (x,b))(hj:j<=b.length)(hI:I.length<=1000)(q:∀ks h',CI R S c n I av d m (ga S R (i,j)) ks h'->Wf 6 ks h' P):Wk 6 ((4,a4 (i,j))::pV n d) Gq h P:=by
 refine((L.same (A.fr.same rfl)).it i x b e j hj).casesOn λae _ _=>fB (xs:=ga S R (i,j)) (f:=cq) (Inv:=CI R S c n I av d m) (ajj (xk rfl) ae) (λa ks h' J=>J.casesOn λA' _=>(L.same (A'.fr.same rfl)).V5 e hj) (.mk A .refl) (λa i' r ks h' es J P' t=>?_) λks h' J=>bf (q ks h' J)
 refine J.casesOn λ{d' h'} A' D=>?_
 have hi:=Mc (es▸cD _ (.head _):i'∈ga S R (i,j))
 refine(w7 (S:=S) hi.2).elim λx' z=>z.elim λb' e'=>(A'.pr i' x' b' e').casesOn λ{ext v} ep ln mk le mm rd=>(aN (i'∈iE m a)).elim (λhm=>?_) λhm=>?_
 ·have en:=(L7 (m:=m) (ps:=a) (i:=i')).trans (w0 hm)
  exact a8 (cX (kD (UJ (xk rfl) ep mk) (IH (xk rfl) A'.tab) (by rw [mm.mpr hm];exact iF _)) (B7 (Ix (t.ct (.mk (d':=d') (en▸A') (en▸D)) rfl))))
 ·have en:=(L7 (m:=m) (ps:=a) (i:=i')).trans (w5 hm)
  have A2:=A'.push hn hm hi e' ln rd
  have ll:(I++fresh (iE m a)).length<1000000:=b7 (yF A'.ok) (b7 (fw hI L.gr.rl) (by decide))
  refine io (kD (UJ (xk rfl) ep mk) (IH (xk rfl) A'.tab) (nF.2 λz=>hm (mm.mp (jJ z)))) (a8 (kQ (xk rfl) A'.lst (map_lt ll) (jF (v:=a4 (i',0)) (xk rfl) ep (by kernel_rfl)) (bi (im (IH (xk rfl) (A'.tab.same bC.ay)) (xk rfl) (aW ep dZ) (lF jZ (t.nx (.mk (d':=true) (en▸A2) (en▸⟨λz=>Bool.noConfusion z,?_,λ_=>.inr ?_⟩)) rfl))))))
  ·exact aw D.le (aw (jh _ _) (aL cw.symm))
  ·exact b7 D.le (f5 (jM _) (cw (bs:=[i'])).symm)
theorem aja(p:Ek ks w h (.ref l))(e:h l=some (.lst vs))(hl:vs.length<=1000000):Ex ks (Na w) h (fO h vs):=λg K Q z=>p g K _ (.mk (.inl e) hl (gA λn hn=>z _ _ (.mk hn)))
theorem ML(L:LB T R S av)(A:CS R S c n I av tz h)(hn:av (.ay n)=none)(ok:∀p∈I,d4 S R p)(hI:I.length<=1000)(e:lh S R I (I.length+R.length+1) 0 tz=l9 S R I)(q:∀d' h',CS R S c n I av (l9 S R I) h'->Dd false tz d' (l9 S R I)->Wf 6 (pV n d') h' P):Wk 6 (pV n d) Qt h P:=by
 refine dC jZ (Im (I:=CP R S c n I av tz) (bJ:=pV n false) (I.length+R.length) (xk rfl) (λk ks h' J=>J.casesOn λA _ _ le=>⟨_,A.lst,aw le (aL (bx _).symm),eP (yF A.ok)⟩) (.mk A e .refl (bH _)) (λk vs v ks h' el ev J P' t=>?_) λk vs ks h' el ek J=>?_)
 ·refine J.casesOn (motive:=λks h' _=>h' (.ay n)=some (.lst vs)->Wk 6 ((4,v)::ks) Gq h' P') (λ{m d' h'} A' e' D le el=>?_) el
  cases bc (el.symm.trans A'.lst)
  refine(zV.1 (eL.symm.trans ev)).elim λp z=>?_
  have lt:=dD (cm.1 z.1).1 (yF A'.ok)
  have op:d4 S R p:=(bO.1 (cP z.1)).elim (ok p) λz=>(bg.1 z).elim λi z=>z.2▸Ax (A'.ok.r i z.1).2
  have ef:I.length+R.length+1 - k=I.length+R.length - k+1:=Nat.succ_sub (cN lt)
  rw [ef,EC z.1] at e'
  cases z.2
  cases op with
  |mk eb hj=>exact Xi L A' hn eb hj hI λFR h2 K=>K.casesOn λA2 D2=>t.nx (.mk A2 (BR ef▸e') (D.trans D2) (aw (cm.1 z.1).1 (agt D2.le))) rfl
 ·refine J.casesOn (motive:=λks h' _=>h' (.ay n)=some (.lst vs)->Wk 6 ks aO h' P) (λ{m d' h'} A' e' D le el=>?_) el
  cases bc (el.symm.trans A'.lst)
  rw [Am (List.getElem?_eq_none (Nat.le_of_eq ((List.length_map _).symm.trans ek.symm)))] at e'
  subst e'
  exact bf (q _ _ A' D)
theorem Xk(q:rO us h Q):GD (us.map some++[none,none,none,none]) h λfl _ h'=>Q (c7 fl) h':=by
 cases q with
 | @mk T R S c n0 I L tab pr lst ok hI q=>
  have lI:I.length<=1000000:=aw hI (by decide)
  refine tab.casesOn λ{ext} et tm=>(a8 (aiS (x:=(c:Int)) (y:=1) (z:=((c+1:Nat):Int)) (xk rfl) et (λ_ k=>.own et (NP (by kernel_rfl)) k) bF rfl (bi (dO (aja (xk rfl) (aW lst dB) (eP lI)) λv h1 z=>?_))):Wk 6 [(1,.ref (.ay n0)),(0,.ref bN)] GD h λfl _ h'=>Q (c7 fl) h') _ (.dA rfl rfl)
  cases z with
  | @mk n Zt=>
   have hn:h (.ay n)=none:=(H.bp dB).symm.trans Zt
   have A:CS R S (c+1) n I h [] ((h.upd bN (.inst .table (bT (H5 c ext) "_add_count" (.int ((c+1:Nat):Int))))).upd (.ay n) (.lst (I.map a4))):=⟨H.aJ.trans (au (λl=>some (O.lst (l.map a4))) (gy I).symm),.mk (ext:=ext) (aW (H.aJ.trans (au (λa=>some (O.inst .table a)) Ys)) dZ) tm,λi x b e=>(pr.next i x b e).casesOn λa b c d f g=>.mk (aW (aW a (bw rfl)) dZ) b c d (f.trans ⟨False.elim,λz=>absurd z a0⟩) g,⟨jg,λ_ z=>absurd z a0⟩,(aC.refl.upd rfl).ay hn⟩
   generalize (h.upd bN (.inst .table (bT (H5 c ext) "_add_count" (.int ((c+1:Nat):Int))))).upd (.ay n) (.lst (I.map a4))=h1 at A⊢
   refine dC jZ (a8 (rC (I:=CL R S (c+1) n I h) (bJ:=pV n true) 2 (.mk A rfl .a) λk ks h' J=>?_))
   refine J.casesOn λ{m d h'} A e C=>?_
   cases C with
   |a=>exact .inr ⟨kC (xk rfl),λP' t=>ML L A hn ok hI e λd' h2 A2 D=>d'.casesOn (t.nx ⟨0,by decide,.mk A2 (EB nG) .c⟩ rfl) (t.nx ⟨1,by decide,.mk A2 (EB nG) .b⟩ rfl)⟩
   |b=>exact .inr ⟨kC (xk rfl),λP' t=>ML L A hn ok hI e λd' h2 A2 D=>(d'.casesOn (motive:=λd'=>Dd false _ d' _->Wf 6 (pV n d') h2 P') (λ_=>t.nx ⟨0,by decide,.mk A2 (EB nG) .c⟩ rfl) (λD=>(D.yes rfl).elim (λz=>Bool.noConfusion z) λz=>absurd z (kh _))) D⟩
   |c=>exact .inl ⟨kC (xk rfl),bf (bi (il (xk rfl) λ_=>q n _ A.lst A.tab ⟨_,A.pr⟩ A.fr))⟩
end
structure pi(es:af)(U:aj):Prop where
 nodup:(es.map (·.1)).Nodup
 sub:∀k∈es.map (·.1),k∈U
noncomputable def fj(S:Sy)(R:List aH)(I:ak)(x:Sy):ak:=(I.filter λp=>decide (gu S R p=some x)).map λp=>(p.1,p.2+1)
noncomputable def bQ(S:Sy)(R:List aH)(I:ak)(x:Sy):ak:=di S R (fj S R I x)
inductive GV(h:H):V->ak->Prop
 |no:GV h .none []
 |lst{n:Nat}{J:ak}:h (.ay n)=some (.lst (J.map a4))->GV h (.ref (.ay n)) J
inductive GJ(h:H)(D:ak)(v:V):Prop
 |mk{J:ak}:GV h v J->J=[]\/J=D->GJ h D v
noncomputable abbrev fV(k:Nat):L:=li 43 k
noncomputable abbrev Ap:V:=.str "$end"
noncomputable abbrev d7(I:ak):V:=.tup (I.map jB)
noncomputable def Bb:aj:=Ap::(List.range 20000).map λk=>jB (k/200,k%200)
inductive uE(τ:List ak)(p:ak):V->Prop
 |mk{k:Nat}:τ[k]?=some p->uE τ p (.ref (fV k))
structure jl(S:Sy)(R:List aH)(τ:List ak)(ht:H)(p:ak)(es:af):Prop where
 ch:∀q v,cg es (jB q)=some v->uE τ (p++[q]) v
 en:∀v,cg es Ap=some v->GJ ht (di S R p) v
 ks:pi es Bb
inductive KR(S:Sy)(R:List aH)(τ:List ak)(ht h:H)(k:Nat)(p:ak):Prop
 |mk{es:af}{n:Nat}:h (fV k)=some (.aF es n)->jl S R τ ht p es->KR S R τ ht h k p
structure mV(S:Sy)(R:List aH)(U:aj)(τ:List ak)(ht:H)(es:af):Prop where
 ks:pi es U
 rt:∀x v,cg es (sv x)=some v->uE τ [] v
 gt:∀I x v,cg es (.tup [d7 I,sv x])=some v->GJ ht (bQ S R I x) v
structure fe(S:Sy)(R:List aH)(U:aj)(τ:List ak)(ht h:H):Prop where
 node:∀k p,τ[k]?=some p->KR S R τ ht h k p
 free:∀k,τ.length<=k->h (fV k)=none
 cache:∃es n,h (lb 33)=some (.aF es n)/\mV S R U τ ht es
section
variable{R:List aH}{τ IU:List ak}{ht ht':H}{p D:ak}
theorem A0:cg (dS es u v) u=some v:=by
 induction es with
 |nil=>exact vu rfl
 |cons a r ih=>exact(aN (a.1=u)).elim (λe=>(au (cg · u) (vN e)).trans (vu e)) λe=>(au (cg · u) (q6 e)).trans ((p7 e).trans ih)
theorem s8(n:w≠u):cg (dS es u v) w=cg es w:=by
 induction es with
 |nil=>exact p7 λe=>n e.symm
 |cons a r ih=>
  refine(aN (a.1=u)).elim (λe=>?_) λe=>(au (cg · w) (q6 e)).trans ((aN (a.1=w)).elim (λz=>(vu z).trans (vu z).symm) λz=>(p7 z).trans (ih.trans (p7 z).symm))
  have z:¬a.1=w:=λz=>n (z.symm.trans e)
  exact(au (cg · w) (vN e)).trans ((p7 (p:=(a.1,v)) z).trans (p7 z).symm)
theorem aah:(u∈es.map (·.1)/\(dS es u v).map (·.1)=es.map (·.1))\/(u∉es.map (·.1)/\(dS es u v).map (·.1)=es.map (·.1)++[u]):=by
 induction es with
 |nil=>exact .inr ⟨a0,rfl⟩
 |cons a r ih=>exact(aN (a.1=u)).elim (λe=>.inl ⟨e▸.head _,(au (List.map λp:V×V=>p.1) (vN e)).trans rfl⟩) λe=>ih.imp (λz=>⟨.tail _ z.1,(au (List.map λp:V×V=>p.1) (q6 e)).trans (au (a.1::·) z.2)⟩) λz=>⟨λw=>(dP.1 w).elim (λw=>e w.symm) z.1,(au (List.map λp:V×V=>p.1) (q6 e)).trans (au (a.1::·) z.2)⟩
theorem pi.nil:pi [] U:=⟨jg,λ_ z=>absurd z a0⟩
theorem gP{α:Type}{l U:List α}(n:l.Nodup)(w:∀x∈l,x∈U):l.length<=U.length:=by classical exact mH n w
theorem pi.len(K:pi es U):es.length<=U.length:=aw (aL (bx _).symm) (gP K.nodup K.sub)
theorem pi.put(K:pi es U)(m:u∈U):pi (dS es u v) U:=(aah (es:=es) (u:=u) (v:=v)).elim (λz=>⟨z.2▸K.nodup,z.2▸K.sub⟩) λz=>⟨by
 rw [z.2];exact nV K.nodup z.1,by
 rw [z.2];exact λy hy=>(bO.1 hy).elim (K.sub y) λz=>a6.1 z▸m⟩
theorem EF:di S R []=[]:=au (λm=>[]++fresh m) (Am (S:=S) (R:=R) (I:=[]) (m:=[]) (k:=0) (f:=[].length+R.length+1) rfl)
theorem GV.old(g:GV h v J)(e:∀{n o},h (.ay n)=some o->h' (.ay n)=some o):GV h' v J:=g.casesOn .no λz=>.lst (e z)
theorem GJ.old(g:GJ h D v)(e:∀{n o},h (.ay n)=some o->h' (.ay n)=some o):GJ h' D v:=g.casesOn λa b=>.mk (a.old e) b
theorem Sd{p q:It}(e:jB p=jB q):p=q:=by
 have e:=gE (V.tup.inj e)
 exact ni (jJ (V.int.inj e.1)) (jJ (V.int.inj (gE e.2).1))
theorem Hv(e:d7 I=d7 J):I=J:=(Kx λp q z=>Sd z).mp (V.tup.inj e)
theorem aeD:Bb.length=20001:=by unfold Bb;rw [List.length_cons,List.length_map,List.length_range]
theorem aek(h1:i<100)(h2:j<200):jB (i,j)∈Bb:=by
 have e:jB ((200*i+j)/200,(200*i+j)%200)=jB (i,j):=au jB (ni ((Nat.mul_add_div (by decide) i j).trans (au (i+·) (Nat.div_eq_of_lt h2))) ((Nat.mul_add_mod 200 i j).trans (Nat.mod_eq_of_lt h2)))
 have l:200*i+j<200*100:=dD (KH h2 _) (aw (aL (KN 200 i).symm) (wC 200 h1))
 exact iy _ (bg.2 ⟨_,kZ.2 l,e⟩)
theorem uE.more(m:uE τ p v):uE (τ++IU) p v:=m.casesOn λe=>.mk ((uz (cm.1 e).1).trans e)
theorem jl.old(N:jl S R τ h p es)(e:∀{n o},h (.ay n)=some o->h' (.ay n)=some o):jl S R τ h' p es:=⟨N.ch,λv z=>(N.en v z).old e,N.ks⟩
theorem jl.more(N:jl S R τ h p es):jl S R (τ++IU) h p es:=⟨λq v z=>(N.ch q v z).more,N.en,N.ks⟩
theorem mV.more(N:mV S R U τ h es):mV S R U (τ++IU) h es:=⟨N.ks,λx v z=>(N.rt x v z).more,N.gt⟩
theorem fe.old(t:fe S R U τ ht h)(e:∀{n o},ht (.ay n)=some o->ht' (.ay n)=some o):fe S R U τ ht' h:=⟨λk p z=>(t.node k p z).casesOn λa b=>.mk a (b.old e),t.free,t.cache.imp λes z=>z.imp λn z=>⟨z.1,z.2.ks,z.2.rt,λI x v y=>(z.2.gt I x v y).old e⟩⟩
theorem fe.same(t:fe S R U τ ht h)(s:bC [33,43] h h'):fe S R U τ ht h':=⟨λk p z=>(t.node k p z).casesOn λa b=>.mk ((s _ _ _ rfl).trans a) b,λk z=>(s _ _ _ rfl).trans (t.free k z),t.cache.imp λes z=>z.imp λn z=>⟨(s _ _ _ rfl).trans z.1,z.2⟩⟩
theorem fe.cO{ts:List Nat}(t:fe S R U τ h h)(F:aC ts h h')(n:jS [33,43] ts=true):fe S R U τ h' h':=(t.old F.old).same (F.same n)
theorem fe.new(t:fe S R U τ ht h):fe S R U (τ++[p]) ht (h.upd (fV τ.length) (.aF [] 0)):=⟨λk p' z=>(aN (k=τ.length)).elim (λe=>by
 subst e;exact .mk H.aJ ⟨λ_ _ z=>cK z rfl,λ_ z=>cK z rfl,.nil⟩) λe=>by
 have lt:=rZ (ji (f5 (cm.1 z).1 cw)) e
 rw [List.getElem?_append_left lt] at z
 exact(t.node k p' z).casesOn λa b=>.mk (aW a (kK e)) b.more,λk z=>by
 have lt:=aw (aL (cw (as:=τ) (bs:=[p])).symm) z
 exact(H.bp (kK (jk lt))).trans (t.free k (qA lt)),t.cache.imp λes z=>z.imp λn z=>⟨aW z.1 (bw rfl),z.2.more⟩⟩
theorem fe.turn(t:fe S R U τ ht h)(e:τ[k]?=some p)(N:jl S R τ ht p es)(n:Nat):fe S R U τ ht (h.upd (fV k) (.aF es n)):=⟨λk' p' z=>(aN (k'=k)).elim (λw=>by
 subst w;cases bc (e.symm.trans z);exact .mk H.aJ N) λw=>(t.node k' p' z).casesOn λa b=>.mk (aW a (kK w)) b,λk' z=>(H.bp (kK (jk (dD (cm.1 e).1 z)))).trans (t.free k' z),t.cache.imp λes z=>z.imp λn z=>⟨aW z.1 (bw rfl),z.2⟩⟩
theorem jl.child(N:jl S R τ h p es)(e:τ[k]?=some (p++[q]))(h1:q.1<100)(h2:q.2<200):jl S R τ h p (dS es (jB q) (.ref (fV k))):=⟨λq' v z=>(aN (q'=q)).elim (λw=>by
 subst w;cases bc (A0.symm.trans z);exact .mk e) λw=>N.ch q' v ((s8 λw'=>w (Sd w')).symm.trans z),λv z=>N.en v ((s8 V.noConfusion).symm.trans z),N.ks.put (aek h1 h2)⟩
theorem jl.fin(N:jl S R τ h p es)(g:GJ h (di S R p) v):jl S R τ h p (dS es Ap v):=⟨λq' v z=>N.ch q' v ((s8 V.noConfusion).symm.trans z),λw z=>bc (A0.symm.trans z)▸g,N.ks.put (.head _)⟩
theorem fe.put(t:fe S R U τ ht h)(C:mV S R U τ ht es)(n:Nat):fe S R U τ ht (h.upd (lb 33) (.aF es n)):=⟨λk p z=>(t.node k p z).casesOn λa b=>.mk (aW a (bw rfl)) b,λk z=>(H.bp (bw rfl)).trans (t.free k z),_,_,H.aJ,C⟩
theorem mV.root(C:mV S R U τ ht es)(e:τ[k]?=some [])(m:sv x∈U):mV S R U τ ht (dS es (sv x) (.ref (fV k))):=⟨C.ks.put m,λy v z=>(aN (y=x)).elim (λw=>by
 subst w;cases bc (A0.symm.trans z);exact .mk e) λw=>C.rt y v ((s8 λw'=>w (oY w')).symm.trans z),λI y v z=>C.gt I y v ((s8 V.noConfusion).symm.trans z)⟩
theorem mV.store(C:mV S R U τ ht es)(g:GJ ht (bQ S R I x) v)(m: .tup [d7 I,sv x]∈U):mV S R U τ ht (dS es (.tup [d7 I,sv x]) v):=⟨C.ks.put m,λy v z=>C.rt y v ((s8 V.noConfusion).symm.trans z),λI' y w z=>(aN (I'=I/\y=x)).elim (λq=>by
 cases q.1;cases q.2;cases bc (A0.symm.trans z);exact g) λq=>C.gt I' y w ((s8 λw'=>q ⟨Hv (gE (V.tup.inj w')).1,oY (gE (gE (V.tup.inj w')).2).1⟩).symm.trans z)⟩
end
inductive fR(h:H):Prop
 |mk{c:Nat}:ld c h->fR h
section
variable{R:List aH}{c:Bool}{nm:Str}
theorem Aj(L:LB T R S h):(gc S R i).length<=100:=by
 unfold gc
 cases e:(cY S R)[i]? with
 |none=>exact bH _
 |some r=>
  cases i with
  |zero=>cases e;exact eH rfl
  |succ i=>exact L.gr.len _ (cP e)
theorem d4.le(o:d4 S R p):p.1<=R.length:=o.casesOn λe _=>ji (cm.1 e).1
theorem LB.rH(L:LB T R S h)(q:Ek ks m h (a4 (i,j)))(e:(cY S R)[i]?=some (x,b))(hj:j<=b.length)(w:(Fv R i j x b).lookup nm=some v):Ek ks (aE m nm) h v:=(L.it i x b e j hj).casesOn λz _ _=>jF q z w
theorem LB.Cj(L:LB T R S h)(q:Ek ks m h (a4 p))(o:d4 S R p):Ek ks (aE m "number") h (.int p.1):=by cases o with|mk e hj=>exact L.rH q e hj (by kernel_rfl)
theorem LB.ue(L:LB T R S h)(q:Ek ks m h (a4 p))(o:d4 S R p):Ek ks (aE m "lr_index") h (.int p.2):=by cases o with|mk e hj=>exact L.rH q e hj (by kernel_rfl)
theorem LB.UV(L:LB T R S h)(q:Ek ks m h (a4 p))(o:d4 S R p):Ek ks (aE m "usyms") h (.ref (uL p.1)):=by cases o with|mk e hj=>exact L.rH q e hj (by kernel_rfl)
theorem LB.UM(L:LB T R S h)(q:Ek ks m h (a4 (i,j)))(e:(cY S R)[i]?=some (x,b))(hj:j<=b.length):Ek ks (aE m "name") h (sv x):=L.rH q e hj (by kernel_rfl)
theorem LB.UF(L:LB T R S h)(q:Ek ks m h (a4 (i,j)))(e:(cY S R)[i]?=some (x,b))(hj:j<=b.length):Ek ks (aE m "len") h (.int ((b.length:Int)+1)):=L.rH q e hj (by kernel_rfl)
theorem LB.ajz(L:LB T R S h)(q:Ek ks m h (a4 (i,j)))(e:(cY S R)[i]?=some (x,b))(hj:j<=b.length):Ek ks (aE m "lr_next") h (yq i j b):=L.rH q e hj (by kernel_rfl)
theorem mF(e:(cY S R)[i]?=some (x,b)):gu S R (i,j)=b[j]?:=au (·[j]?) (l6 e)
theorem LB.Uv(L:LB T R S h)(q:Ek ks m h (a4 (i,j+1)))(o:d4 S R (i,j+1))(e:gu S R (i,j)=some y):Ek ks (aE m "lr_before") h (sv y):=by
 cases o with
 |mk eb hj=>exact Ws hj ((mF eb).symm.trans e)▸L.rH q eb hj (by kernel_rfl)
theorem LB.UC(L:LB T R S h)(q:Ek ks m h (a4 (i,j)))(e:(cY S R)[i]?=some (x,b))(hj:j<=b.length):Ek ks (aE m "prod") h (.tup ((jt b j).map sv)):=L.rH q e hj (by kernel_rfl)
theorem LB.UO(L:LB T R S h)(q:Ek ks m h (a4 p))(r:Ek ks m' h (.int ((p.2+1:Nat):Int)))(o:d4 S R p)(e:gu S R p=some y):Ek ks (a3 (aE m "prod") m') h (sv y):=by
 cases o with
 | @mk i j x b eb hj=>exact IJ (L.UC q eb hj) r (eL.trans (au (Option.map sv) ((M6 hj).trans ((mF eb).symm.trans e)))) (aw (cS (aw hj (l6 eb▸Aj (i:=i) L))) (by decide))
theorem LB.wb(L:LB T R S h)(p:Ek ks m h (.ref gw))(q:Ek ks m' h (.int (i:Nat)))(hi:i<=R.length):Ek ks (a3 m m') h (cq i):=o9 p q L.G.nW (eL.trans (au (Option.map cq) (zJ (KM hi)))) (aw hi (aw L.gr.rl (by decide)))
theorem LB.Ev(L:LB T R S h)(q:Ek ks m h (sv y))(r:Ek ks m' h (.ref gL))(e:decide (y∈T)=c):Eb ks (aT .In m (aE m' "Terminals")) h c:=L.G.tm.elim λk et=>uS (f:=λx=>.ref (H9 x)) q (wc r L.G.g) et e
theorem LB.Mq(L:LB T R S h)(q:Ek ks m h (sv y))(r:Ek ks m' h (.ref gL))(e:decide (y∈a7 T R)=c):Eb ks (aT .In m (aE m' "Nonterminals")) h c:=L.G.nt.elim λk et=>uS (f:=λx=>.ref (Hh x)) q (mQ r L.G.g) et e
theorem LB.xd(L:LB T R S h)(q:Ek ks m h (a4 p))(o:d4 S R p):Eb ks (bE m) h true:=by
 cases o with
 |mk e hj=>exact(L.it _ _ _ e _ hj).casesOn λz _ _=>Mine.xd q z
theorem LB.us(L:LB T R S h)(o:d4 S R p):h (uL p.1)=some (.lst ((once [] (gc S R p.1)).map sv)):=by
 cases o with
 |mk e hj=>exact(l6 e).symm▸L.G.us _ _ _ e
theorem ld.tb{c:Nat}(t:ld c h):fR h:=.mk t
theorem fR.qp(t:fR h)(q:Ek ks m h (.ref bN))(e:∀c,(tS c).lookup nm=some v):Ek ks (aE m nm) h v:=t.casesOn λt=>t.casesOn λz _=>jF q z (e _)
theorem fR.mP(t:fR h)(q:Ek ks m h (.ref bN)):Ek ks (aE m "grammar") h (.ref gL):=t.qp q λc=>by kernel_rfl
theorem fR.Cg(t:fR h)(q:Ek ks m h (.ref bN)):Ek ks (aE m "lr_goto_cache") h (.ref (lb 33)):=t.qp q λc=>by kernel_rfl
theorem fR.Mo(t:fR h)(q:Ek ks m h (.ref bN)):Eb ks (aT .Eq (aE m "lr_method") (bR "LALR")) h false:=fS (t.qp (v:=.str "SLR") q λc=>by kernel_rfl) df λQ k=>.inl (.str ((by decide+kernel:(("SLR":Str)==("LALR":Str))=false).symm▸k))
theorem fR.gU(t:fR h){F:b6}{Φ:ab}{vs:aj}(q:Ek ks m h (.ref bN))(hn:BY.contains nm=true)(n2:∀c,(tS c).lookup nm=none)(pa:gC ks ms h vs)(z:∀Q:ab,(∀v h',Φ v h'->Q v h')->F (.ref bN::vs) h Q):Ex ks (dw m nm .table F ms) h Φ:=t.casesOn λt=>t.casesOn λe w=>Mine.gU q e ((nK (n2 _)).trans (w _ (Dj.1 hn))) pa z
end
structure d8(T:ai)(R:List aH)(S:Sy)(U:aj)(h:H):Prop where
 L:LB T R S h
 cnt:∃c,ld c h/\wM S R c h
 tr:∃τ,fe S R U τ h h
noncomputable abbrev d6:List Nat:=[2,30,33,43]
structure GC(T:ai)(R:List aH)(S:Sy)(U:aj)(n:Nat)(I:ak)(x:Sy)(h:H):Prop where
 A:d8 T R S U h
 lst:h (.ay n)=some (.lst (I.map a4))
 ok:∀p∈I,d4 S R p
 len:I.length<=1000
 u1:sv x∈U
 u2: .tup [d7 I,sv x]∈U
 ul:U.length<=900000
noncomputable abbrev GQ(T:ai)(R:List aH)(S:Sy)(U:aj)(I:ak)(x:Sy)(h:H)(Q:ab):Prop:=∀v h',GV h' v (bQ S R I x)->d8 T R S U h'->aC d6 h h'->Q v h'
inductive J3(h:H)(Q:ab):aj->Prop
 |mk{T:ai}{R:List aH}{S:Sy}{U:aj}{n:Nat}{I:ak}{x:Sy}:GC T R S U n I x h->GQ T R S U I x h Q->J3 h Q [.ref bN,.ref (.ay n),sv x]
noncomputable def mY:b6:=λus h Q=>J3 h Q us
noncomputable def Qu:SW:=aB (aZ 4 fz) (aS (cu (aE (an 0) "lr_goto_cache") (an 2)) (an 4))
noncomputable def GG:SW:=aB (aZ 8 fz) (aS (cu (an 4) (eO (aA (aE (an 7) "number") (aA (aE (an 7) "lr_index") aD)))) (an 8))
noncomputable def GH:SW:=aB (cM (bY (an 5) "list" de (aA (an 7) aD))) (aZ 4 (an 8))
noncomputable def GK:SW:=aB (a9 (gm (bE (an 8))) GG aO) GH
noncomputable def ada:SW:=aB (aZ 8 (bY (an 4) "dict" eY (aA (eO (aA (aE (an 7) "number") (aA (aE (an 7) "lr_index") aD))) aD))) GK
noncomputable def Qx:SW:=aB (aZ 7 (aE (an 6) "lr_next")) (a9 (du (bE (an 7)) (du (aT .Eq (aE (an 7) "lr_before") (an 2)) dI)) ada aO)
noncomputable def adb:SW:=aB (aZ 3 (dw (an 0) "lr0_closure" .table rO (aA (an 5) aD))) (aS (cu (an 4) (bR "$end")) (an 3))
noncomputable def Qy:SW:=aB (aS (cu (aE (an 0) "lr_goto_cache") (eO (aA (bv jG (aA (an 1) aD)) (aA (an 2) aD)))) (an 3)) (eA (an 3))
noncomputable def Qz:SW:=aB (a9 (gm (bE (an 3))) (a9 (bE (an 5)) adb (aS (cu (an 4) (bR "$end")) (an 5))) aO) Qy
noncomputable def ac7:SW:=aB (aZ 3 (bY (an 4) "dict" eY (aA (bR "$end") aD))) Qz
noncomputable def ac8:SW:=aB (bX (bB (an 1)) false (a5 6) Qx aO) ac7
noncomputable def GF:SW:=aB (aZ 5 (cx aD)) ac8
noncomputable def Qv:SW:=aB (a9 (gm (bE (an 4))) Qu aO) GF
noncomputable def Qw:SW:=aB (aZ 4 (bY (aE (an 0) "lr_goto_cache") "dict" eY (aA (an 2) aD))) Qv
noncomputable def ac9:SW:=aB (a9 (bE (an 3)) (eA (an 3)) aO) Qw
noncomputable def ac':SW:=aB (aZ 3 (bY (aE (an 0) "lr_goto_cache") "dict" eY (aA (eO (aA (bv jG (aA (an 1) aD)) (aA (an 2) aD))) aD))) ac9
noncomputable def GE:SW:=ac'
noncomputable def p3(n:Nat)(x:Sy):Ks:=[(2,sv x),(1,.ref (.ay n)),(0,.ref bN)]
noncomputable def lq(n m k:Nat)(x:Sy):Ks:=[(5,.ref (.ay m)),(4,.ref (fV k)),(2,sv x),(1,.ref (.ay n)),(0,.ref bN)]
structure GW(S:Sy)(R:List aH)(U:aj)(m:Nat)(ht:H)(K:ak)(τ:List ak)(k:Nat)(h:H):Prop where
 tr:fe S R U τ ht h
 nd:τ[k]?=some K
 gs:h (.ay m)=some (.lst (K.map a4))
 fr:aC [33,43] ht h
inductive KS(S:Sy)(R:List aH)(τ:List ak)(ht h:H)(k:Nat)(p:ak):Prop
 |mk{es:af}{n:Nat}:h (fV k)=some (.aF es n)->jl S R τ ht p es->es.length<=1000000->KS S R τ ht h k p
section
variable{av ht:H}{R:List aH}{m:Nat}{τ:List ak}
theorem d8.tb(A:d8 T R S U h):fR h:=A.cnt.elim λc z=>z.1.tb
theorem d8.turn(A:d8 T R S U h)(s:bC ([2,30]++s6) h h')(tr:∃τ,fe S R U τ h' h'):d8 T R S U h':=⟨A.L.same (s.sub rfl),A.cnt.imp λc z=>⟨z.1.same (s.sub rfl),z.2.imp λmm pr=>pr.same (s.sub rfl)⟩,tr⟩
theorem d8.cO(A:d8 T R S U h)(F:aC ts h h')(w:jS ([2,30,33,43]++s6) ts=true):d8 T R S U h':=
 have s:=F.same w
 A.turn (s.sub rfl) (A.tr.imp λτ t=>(t.old F.old).same (s.sub rfl))
theorem EV{fs:List (Str×V)}{ext:ac}{nm:Str}(e:fs.lookup nm=none):eX (fs++[(nm,v)]) ext=eX fs (bT ext nm v):=(Au e).symm.trans (qQ e)
theorem LB.itemAt(L:LB T R S h)(o:d4 S R p):Kj h p:=by
 cases o with
 | @mk i j x b e hj=>exact(L.it i x b e j hj).casesOn λ{ext} z _ _=>⟨x,b,_,z.trans (au (λa=>some (O.inst .item a)) ((EV (fs:=Ft R i j x b) (by kernel_rfl)).trans ((EV (fs:=x4 i j x b++_) (by kernel_rfl)).trans (EV (fs:=x4 i j x b) (by kernel_rfl)))))⟩
theorem uR(q:Ek ks e h v)(w:GV h v J)(hl:J.length<=1000000)(eb:(!J.isEmpty)=bb):Eb ks (bE e) h bb:=by
 cases w with
 |no=>exact eb▸sB q
 |lst z=>exact Ae q z (eP hl) (by rw [List.isEmpty_map];exact eb)
theorem OW:cz 8 (jB p):=.tup (bq.2 ⟨.int,bq.2 ⟨.int,λ_ z=>absurd z a0⟩⟩)
theorem OU:cz 8 (.tup [d7 I,sv x]):=.tup (bq.2 ⟨.tup λu hu=>(bg.1 hu).elim λp z=>z.2▸.tup (bq.2 ⟨.int,bq.2 ⟨.int,λ_ z=>absurd z a0⟩⟩),bq.2 ⟨.str x.2,λ_ z=>absurd z a0⟩⟩)
theorem LB.IN(L:LB T R S h)(q:Ek ks e h (.ref (.ay n)))(el:h (.ay n)=some (.lst (I.map a4)))(ok:∀p∈I,d4 S R p)(hl:I.length<=10000):Ex ks (bv jG (aA e aD)) h λv h'=>v=d7 I/\Ext h h':=x_call (iS q) λQ z=>.mk el (λp hp=>L.itemAt (ok p hp)) hl λh' X=>z _ _ ⟨rfl,X⟩
theorem LB.UP(L:LB T R S h)(q:Ek ks e h (a4 p))(o:d4 S R p):Ek ks (eO (aA (aE e "number") (aA (aE e "lr_index") aD))) h (jB p):=j4 (eE (L.Cj q o) (L.ue q o))
theorem aag(ok:∀p∈I,d4 S R p):∀p∈fj S R I x,d4 S R p:=λp hp=>(bg.1 hp).elim λq z=>by
 have w:=fC.1 z.1
 have o:=ok q w.1
 cases z.2
 cases o with
 |mk e hj=>exact .mk e (cm.1 ((mF e).symm.trans (cU w.2))).1
theorem FG:(fj S R I x).length<=I.length:=aw (aL (bx _)) (rX ..)
theorem aaf(e:gu S R (i,j)=some x):fj S R (a++[(i,j)]) x=fj S R a x++[(i,j+1)]:=by
 unfold fj;rw [List.filter_append,List.map_append,List.filter_cons_of_pos (p:=λp=>decide (gu S R p=some x)) (a:=(i,j)) (decide_eq_true e)];rfl
theorem OR(e:gu S R p≠some x):fj S R (a++[p]) x=fj S R a x:=by
 unfold fj;rw [List.filter_append,List.filter_cons_of_neg (p:=λp=>decide (gu S R p=some x)) (a:=p) (λz=>e (of_decide_eq_true z)),List.filter_nil,List.append_nil]
theorem N9(L:LB T R S h)(hl:I.length<=1000):(bQ S R I x).length<=1000000:=aw (ED (S:=S) (R:=R) (I:=fj S R I x)) (aw (fw (aw FG hl) L.gr.rl) (by decide))
theorem LB.UE(L:LB T R S h)(el:h (.ay n)=some (.lst (I.map a4)))(ok:∀p∈I,d4 S R p)(hl:I.length<=1000)(e1:bj ks 1=some (.ref (.ay n)))(e2:bj ks 2=some (sv x)):Ex ks (eO (aA (bv jG (aA (an 1) aD)) (aA (an 2) aD))) h λv h'=>v= .tup [d7 I,sv x]/\Ext h h':=
 λg K Q z=>L.IN (xk e1) el ok (aw hl (by decide)) g K _ λv h' w=>iS (xk e2) g K _ ⟨eH rfl,z _ _ ⟨au (λv=>V.tup [v,sv x]) w.1,w.2⟩⟩
theorem T8{l:L}{m m' o:EW}{Φ:ab}(p:Ek ks m h v)(po:Ek ks o h (.ref l))(pk:Ex ks m' h Φ)(q:∀u h',Φ u h'->∀g,Kn n ks g->wR v h' (λbP=>P .next g bP) (.ref l) u):Wk n ks (aS (cu o m') m) h P:=λg K=>p g K.at_ _ (po g K.at_ _ (pk g K.at_ _ λu h' z=>q u h' z g K))
theorem Fb(C:GC T R S U n I x av)(q:GQ T R S U I x av Q)(A:d8 T R S U h)(F:aC d6 av h)(w:GV h v (bQ S R I x)):Wk 10 ((3,v)::p3 n x) Qy h λfl _ h'=>Q (c7 fl) h':=a8 (T8 (v:=v) (xk rfl) (A.tb.Cg (xk rfl)) (A.L.UE (F.old C.lst) C.ok C.len rfl rfl) λu h' z g K=>by
 cases z.1
 have A':=A.cO (aC.of (ts:=[]) z.2) rfl
 have w':=w.old z.2.old
 exact A'.tr.elim λτ tr=>tr.cache.elim λes y=>y.elim λn' y=>.aF y.1 (aw y.2.ks.len (aw C.ul (by decide))) OU ((bi (il (xk (v:=v) rfl) λ_=>q v _ (w'.old λz=>(H.bp dB).trans z) (A'.turn (bC.upd rfl) ⟨τ,(tr.put (y.2.store (.mk w' (.inr rfl)) C.u2) _).old λz=>(H.bp dB).trans z⟩) ((F.trans (.of z.2)).upd rfl)):Wf 10 ((3,v)::p3 n x) _ _) g K))
theorem fe.vD(tr:fe S R U τ ht h)(nd:τ[k]?=some J):KS S R τ ht h k J:=(tr.node k J nd).casesOn λed N=>.mk ed N (aw N.ks.len (aw (aL aeD) (by decide)))
theorem N6(tr:fe S R U τ ht h)(nd:τ[k]?=some (J++[q]))(gs:h (.ay m)=some (.lst (J.map a4)))(fr:aC [33,43] ht h)(hm:ht (.ay m)=none)(hl:J.length<=1000)(w:∀h',GW S R U m ht (J++[q]) τ k h'->Wf 10 (lq n m k x) h' P):Wk 10 ((8,.ref (fV k))::(7,a4 q)::lq n m c x) GH h P:=
 a8 (kQ (xk rfl) gs (map_lt (b7 hl (by decide))) (xk (v:=a4 q) rfl) (bi (lF (xk rfl) ((w _ ⟨tr.same bC.ay,nd,H.aJ.trans (au (λl=>some (O.lst l)) (gF (f:=a4) (l₁:=J) (l₂:=[q])).symm),fr.ay hm⟩).sub rfl))))
theorem OL(L:LB T R S ht)(o:d4 S R q):q.1<100/\q.2<200:=⟨b7 (aw o.le L.gr.rl) (by decide),o.casesOn λ{i j x b} e hj=>b7 (aw hj (l6 e▸Aj (i:=i) L)) (by decide)⟩
end
noncomputable abbrev Rt(Q:ab):Pt:=λfl _ h'=>Q (c7 fl) h'
inductive GL(S:Sy)(R:List aH)(U:aj)(n m:Nat)(ht:H)(x:Sy)(a:ak):Ks->H->Prop
 |mk{τ:List ak}{k:Nat}{h:H}:GW S R U m ht (fj S R a x) τ k h->GL S R U n m ht x a (lq n m k x) h
inductive zr(T:ai)(R:List aH)(S:Sy)(U:aj)(I:ak)(h:H):ab
 |mk{n:Nat}{h':H}:d8 T R S U h'->aC [2,30] h h'->h' (.ay n)=some (.lst ((di S R I).map a4))->zr T R S U I h (.ref (.ay n)) h'
section
variable{av ht:H}{R:List aH}{m:Nat}{τ:List ak}{us:aj}{z:V}
theorem yo{α:Type}{τ:List α}{J:α}:(τ++[J])[τ.length]?=some J:=(Ku (cB _)).trans (au ([J][·]?) (KP _))
theorem YU(L:LB T R S ht)(A:GW S R U m ht J τ k h)(oq:d4 S R q)(w:∀h',fe S R U (τ++[J++[q]]) ht h'->h' (.ay m)=some (.lst (J.map a4))->aC [33,43] ht h'->Wf 10 ((8,.ref (fV τ.length))::(7,a4 q)::lq n m k x) h' P):Wk 10 ((8,v)::(7,a4 q)::lq n m k x) GG h P:=by
 have nk:k<τ.length:=(cm.1 A.nd).1
 refine(A.tr.vD A.nd).casesOn λed N nl=>rB (fV τ.length) (A.tr.free _ (cB _)) (kR (v:=.ref (fV τ.length)) (xk rfl) (xk rfl) (((L.same (A.fr.same rfl)).same (bC.upd rfl)).UP (xk rfl) oq) (aW ed (kK (m8 nk))) nl OW λi=>?_)
 exact(w _ ((A.tr.new (p:=J++[q])).turn ((uz nk).trans A.nd) (N.more.child yo (OL L oq).1 (OL L oq).2) i) (aW (aW A.gs dB) dB) ((A.fr.upd rfl).upd rfl)).sub rfl
theorem YV(L:LB T R S ht)(A:GW S R U m ht J τ k h)(oq:d4 S R q)(hm:ht (.ay m)=none)(hl:J.length<=1000)(N:jl S R τ ht J es)(w:∀τ k h',GW S R U m ht (J++[q]) τ k h'->Wf 10 (lq n m k x) h' P):Wk 10 ((8,(cg es (jB q)).getD .none)::(7,a4 q)::lq n m k x) GK h P:=by
 have new:∀{v:V},Wk 10 ((8,v)::(7,a4 q)::lq n m k x) GG h (ij GH P):=YU L A oq λh' t gs fr=>bi (N6 t yo gs fr hm hl λh2 W=>w _ _ h2 W)
 cases e:cg es (jB q) with
 |none=>exact a8 (cX (gb (sB (xk rfl)) rfl) new)
 |some v'=>
  refine(N.ch q v' e).casesOn (motive:=λv' _=>Wk 10 ((8,v')::(7,a4 q)::lq n m k x) GK h P) λ{k'} vC=>(A.tr.vD vC).casesOn λ{cG i'} xx N' ln=>?_
  cases cG with
  |nil=>exact a8 (cX (gb (pQ (l:=fV k') (xk rfl) xx ln rfl) rfl) new)
  |cons a b=>exact io (gb (pQ (l:=fV k') (xk rfl) xx ln rfl) rfl) (N6 A.tr vC A.gs A.fr hm hl λh' A'=>w _ _ h' A')
theorem YW(L:LB T R S ht)(A:GW S R U m ht (fj S R a x) τ k h)(eb:(cY S R)[i]?=some (y,b))(hj:j<=b.length)(hm:ht (.ay m)=none)(hl:a.length<=1000)(w:∀τ k h',GW S R U m ht (fj S R (a++[(i,j)]) x) τ k h'->Wf 10 (lq n m k x) h' P):Wk 10 ((6,a4 (i,j))::lq n m k x) Qx h P:=by
 have L':=L.same (A.fr.same rfl)
 refine dC (L'.ajz (xk rfl) eb hj) ((lR j b.length).elim (λz=>?_) λz=>?_)
 ·rw [show yq i j b=a4 (i,j+1) from if_pos z]
  have oq:d4 S R (i,j+1):=.mk eb z
  have ey:gu S R (i,j)=some b[j]:=(mF eb).trans (fu z)
  refine(aN (b[j]=x)).elim (λex=>?_) λex=>?_
  ·rw [aaf (ey.trans (congrArg some ex))] at w
   exact(A.tr.vD A.nd).casesOn λed N ln=>cX (hV (L'.xd (xk rfl) oq) (hV (ow (x:=b[j]) (L'.Uv (xk rfl) oq ey) (xk rfl) (cE ex)) kE)) (dC (qm (xk rfl) (L'.UP (xk rfl) oq) ed OW rfl) ((YV L A oq hm (aw FG hl) N w).sub rfl))
  ·rw [OR λq=>ex (Option.some.inj (ey.symm.trans q))] at w
   exact dy (hV (L'.xd (xk rfl) oq) (lZ (ow (x:=b[j]) (L'.Uv (xk rfl) oq ey) (xk rfl) (cQ ex)))) (bf ((w τ k h A).sub rfl))
 ·rw [show yq i j b= .none from if_neg (Nat.not_lt.mpr z)]
  rw [OR λq=>cK q ((mF eb).trans (List.getElem?_eq_none z))] at w
  exact dy (lZ (sB (xk rfl))) (bf ((w τ k h A).sub rfl))
theorem d8.TZ(A:d8 T R S U h)(nd:τ[k]?=some J)(tr:fe S R U τ h h)(w:GJ h (di S R J) v)(pv:Ek ks e h v)(po:Ek ks e' h (.ref (fV k)))(r:∀h',d8 T R S U h'->aC [43] h h'->Wf n ks h' P):Wk n ks (aS (cu e' (bR "$end")) e) h P:=(tr.vD nd).casesOn λed N ln=>
 kR pv po df ed ln (fm cH) λn'=>r _ (A.turn (bC.upd rfl) ⟨τ,(tr.turn nd (N.fin w) n').old λz=>aW z dB⟩) (aC.refl.upd rfl)
theorem d8.ajd(A:d8 T R S U h)(q:Ek ks e h (.ref bN))(pa:Ek ks e' h (.ref (.ay m)))(el:h (.ay m)=some (.lst (I.map a4)))(ok:∀p∈I,d4 S R p)(hl:I.length<=1000):Ex ks (dw e "lr0_closure" .table rO (aA e' aD)) h (zr T R S U I h):=A.cnt.elim λc z=>
 A.tb.gU q (by decide+kernel) (λc=>by kernel_rfl) (iS pa) λQ y=>.mk A.L z.1 z.2 el ok hl λn' h' e2 H4 Hx F=>y _ _ (.mk ⟨A.L.same (F.same rfl),⟨_,H4,Hx⟩,A.tr.imp λτ tr=>tr.cO F rfl⟩ F e2)
theorem XU{f:It->V}(e:a.isEmpty=bb):(!(a.map f).isEmpty)= !bb:=au _ (List.isEmpty_map.trans e)
theorem ne_nil(hJ:J=[]\/J=a)(e:J.isEmpty=false):J=a:=hJ.resolve_left λz=>Bool.noConfusion ((au List.isEmpty z).symm.trans e)
theorem N7(C:GC T R S U n I x av)(q:GQ T R S U I x av Q)(A:d8 T R S U ht)(F:aC d6 av ht)(W:GW S R U m ht (fj S R I x) τ k h)(w:GJ ht (bQ S R I x) v):Wk 10 ((3,v)::lq n m k x) Qz h (Rt Q):=by
 have kl:(fj S R I x).length<=1000:=aw FG C.len
 have tr:=W.tr.old W.fr.old
 have A1:d8 T R S U h:=A.turn (W.fr.same rfl) ⟨τ,tr⟩
 have F1:aC d6 av h:=F.trans (W.fr.wide rfl)
 refine(w.old W.fr.old).casesOn λ{J} w1 hJ=>?_
 cases sQ:J.isEmpty with
 |false=>
  cases ne_nil hJ sQ
  exact io (gb (uR (xk rfl) w1 (N9 A.L C.len) (au Bool.not sQ)) rfl) ((Fb C q A1 F1 w1).sub rfl)
 |true=>
  cases zK.1 sQ
  refine a8 (cX (gb (uR (xk rfl) w1 (bH _) rfl) rfl) ?_)
  cases hK:(fj S R I x).isEmpty with
  |false=>
   refine cX (Ae (xk rfl) W.gs (eP (aw kl (by decide))) (XU hK)) (dO (A1.ajd (xk rfl) (xk rfl) W.gs (aag C.ok) kl) λv2 h2 z=>z.casesOn λ{n2 h2} A2 F2 e2=>?_)
   have w2:GV h2 (.ref (.ay n2)) (bQ S R I x):=.lst e2
   exact A2.TZ W.nd (tr.cO F2 rfl) (.mk w2 (.inr rfl)) (xk rfl) (xk rfl) λh3 A3 F3=>bi ((Fb C q A3 ((F1.trans (F2.wide rfl)).trans (F3.wide rfl)) (w2.old F3.old)).sub rfl)
  |true=>
   have hk:=zK.1 hK
   have gs:=W.gs
   rw [hk] at gs
   have g0:bQ S R I x=[]:=(au (di S R) hk).trans EF
   exact dy (Ae (xk rfl) gs (bH _) rfl) (A1.TZ W.nd tr (.mk (J:=[]) (.lst gs) (.inl rfl)) (xk rfl) (xk rfl) λh3 A3 F3=>bi ((Fb C q A3 (F1.trans (F3.wide rfl)) (g0.symm▸w1.old F3.old)).sub rfl))
theorem N5(C:GC T R S U n I x av)(q:GQ T R S U I x av Q)(A:d8 T R S U h)(F:aC d6 av h)(tr:fe S R U τ h h)(nd:τ[k]?=some []):Wk 10 ((4,.ref (fV k))::p3 n x) GF h (Rt Q):=by
 have el:=F.old C.lst
 refine v4 e7 (bH _) λm hm=>a8 (fB (bJ:=lq n m k x) (xs:=I) (f:=a4) (Inv:=GL S R U n m h x) (xk rfl) (λa ks h' J=>J.casesOn λW=>W.fr.old el) (.mk ⟨tr.same bC.ay,nd,H.aJ,aC.refl.new hm⟩) (λa p r ks h' es J P' t=>?_) λks h' J=>?_)
 ·have hl:a.length<=1000:=aw (cN (mid es).2) C.len
  refine J.casesOn λW=>?_
  have o:=C.ok p (es▸cD _ (.head _))
  cases o with
  |mk eb hj=>exact YW A.L W eb hj hm hl λ_ _ bP W'=>t.nx (.mk W') rfl
 ·refine J.casesOn λ{τ k h'} W=>bf (bi ((W.tr.vD W.nd).casesOn λ{es i} ed N ln=>dC (qm (xk rfl) df ed (fm cH) rfl) ?_))
  cases e:cg es Ap with
  |none=>exact N7 C q A F W (.mk .no (.inl rfl))
  |some v=>exact N7 C q A F W (N.en v e)
theorem YT(C:GC T R S U n I x av)(q:GQ T R S U I x av Q)(A:d8 T R S U h)(F:aC d6 av h):Wk 10 ((3,v)::p3 n x) Qw h (Rt Q):=by
 refine A.tr.elim λτ tr=>tr.cache.elim λes z=>z.elim λi z=>?_
 have new:∀{v v2:V},Wk 10 ((4,v2)::(3,v)::p3 n x) Qu h (ij GF (Rt Q)):=λ{v v2}=>by
  refine rB (fV τ.length) (tr.free _ (cB _)) (kR (v:=.ref (fV τ.length)) (xk rfl) ((A.cnt.elim λc y=>(y.1.same (bC.upd rfl)).tb:fR _).Cg (xk rfl)) (xk rfl) (aW z.1 (bw rfl)) (aw z.2.ks.len (aw C.ul (by decide))) (fm x) λi=>bi (Wk.sub (bJ:=(4,.ref (fV τ.length))::p3 n x) ?_ rfl))
  have t2:=((tr.new (p:=[])).put (z.2.more.root yo C.u1) i).old (ht':=(h.upd (fV τ.length) (.aF [] 0)).upd (lb 33) (.aF (dS es (sv x) (.ref (fV τ.length))) i)) λz=>aW (aW z dB) dB
  exact N5 C q (A.turn (bC.trans (bC.upd rfl) (bC.upd rfl)) ⟨_,t2⟩) ((F.upd rfl).upd rfl) t2 yo
 have get:∀{v2:V},(cg es (sv x)).getD .none=v2->Ek ((3,v)::p3 n x) (bY (aE (an 0) "lr_goto_cache") "dict" eY (aA (an 2) aD)) h v2:=λy=>qm (A.tb.Cg (xk rfl)) (xk rfl) z.1 (fm x) y
 cases ev:cg es (sv x) with
 |none=>exact dC (get (au (Option.getD · .none) ev)) (a8 (cX (gb (sB (xk rfl)) rfl) new))
 |some v'=>
  refine dC (get (au (Option.getD · .none) ev)) ((z.2.rt x v' ev).casesOn (motive:=λv' _=>Wk 10 ((4,v')::(3,v)::p3 n x) Qv h (Rt Q)) λ{k} nd=>(tr.vD nd).casesOn λ{cG i'} xx N' ln=>?_)
  cases cG with
  |nil=>exact a8 (cX (gb (pQ (l:=fV k) (xk rfl) xx ln rfl) rfl) new)
  |cons a b=>exact io (gb (pQ (l:=fV k) (xk rfl) xx ln rfl) rfl) ((N5 C q A F tr nd).sub rfl)
end
section
variable{R:List aH}{us:aj}{l:L}
theorem ajh{Ψ:ab}(p:Ek ks m h (.ref l))(e:h l=some (.aF es i))(pk:Ex ks m' h Ψ)(q:∀u h',Ψ u h'->cz 8 u/\h' l=some (.aF es i)/\Φ ((cg es u).getD .none) h'):Ex ks (bY m "dict" eY (aA m' aD)) h Φ:=λg K Q z=>p g K _ ⟨.aF e,pk g K _ λu h' w=>.got (.two (q u h' w).2.1 (q u h' w).1 (z _ _ (q u h' w).2.2))⟩
theorem YZ(q:mY us h Q):GE (us.map some++List.replicate 7 none) h λfl _ h'=>Q (c7 fl) h':=by
 cases q with
 | @mk T R S U n I x C q=>
  refine C.A.tr.elim λτ tr=>tr.cache.elim λes y=>y.elim λi y=>(dO (n:=10) (Φ:=λv h'=>GJ h' (bQ S R I x) v/\Ext h h') (ajh (C.A.tb.Cg (xk rfl)) y.1 (C.A.L.UE C.lst C.ok C.len rfl rfl) λu h' z=>⟨z.1▸OU,(z.2.at_ _ _ rfl).trans y.1,?_,z.2⟩) λv h' z=>?_:Wk 10 (p3 n x) GE h (Rt Q)) _ (.dA rfl rfl)
  ·cases z.1
   cases ev:cg es (.tup [d7 I,sv x]) with
   |none=>exact .mk .no (.inl rfl)
   |some v=>exact(y.2.gt I x v ev).old z.2.old
  ·have A':=C.A.cO (aC.of (ts:=[]) z.2) rfl
   refine z.1.casesOn λ{J} w hJ=>?_
   cases sQ:J.isEmpty with
   |false=>
    cases ne_nil hJ sQ
    exact a8 (cX (uR (xk rfl) w (N9 A'.L C.len) (au Bool.not sQ)) (il (xk rfl) λ_=>q _ h' w A' (.of z.2)))
   |true=>
    cases zK.1 sQ
    exact io (uR (xk rfl) w (bH _) rfl) (YT C q A' (.of z.2))
end
inductive jn(S:Sy)(R:List aH)(y:Sy):Prop
 |mk{i:Nat}{x:Sy}{b:ai}:(cY S R)[i]?=some (x,b)->y∈b->jn S R y
set_option genInjectivity false in
structure Px where
 T:ai
 R:List aH
 S:Sy
 U:aj
 fc:List ak
 Fo:ah
 w:Nat
 vs:List Nat
 Cs:List ak
 st:Nat
 nI:Nat
 I:ak
 av:H
noncomputable abbrev Px.go(Γ:Px)(y:Sy):ak:=bQ Γ.S Γ.R Γ.I y
noncomputable abbrev Px.nx(Γ:Px)(p:It):Option Sy:=gu Γ.S Γ.R p
noncomputable abbrev Px.ok(Γ:Px)(p:It):Prop:=d4 Γ.S Γ.R p
structure d9(Γ:Px):Prop where
 gT:di Γ.S Γ.R [(0,0)]∈Γ.fc
 step:∀I∈Γ.fc,∀x,bQ Γ.S Γ.R I x∈Γ.fc
 ok:∀I∈Γ.fc,∀p∈I,Γ.ok p
 len:∀I∈Γ.fc,I.length<=1000
 u1:∀y,jn Γ.S Γ.R y->sv y∈Γ.U
 u2:∀I∈Γ.fc,∀y,jn Γ.S Γ.R y->.tup [d7 I,sv y]∈Γ.U
 ul:Γ.U.length<=900000
 sl:Γ.fc.length<=900000
noncomputable abbrev Px.A(Γ:Px)(h:H):Prop:=d8 Γ.T Γ.R Γ.S Γ.U h
noncomputable abbrev bA(n:Nat):V:=.ref (.ay n)
structure pJ(vs:List Nat)(Cs:List ak)(h:H):Prop where
 len:vs.length=Cs.length
 at_:∀(k n:Nat) (J:ak),vs[k]?=some n->Cs[k]?=some J->h (.ay n)=some (.lst (J.map a4))
noncomputable def gn(Cs:List ak):af:=Cs.zipIdx.map λp=>(d7 p.1,.int p.2)
noncomputable abbrev cL:L:=lb 38
inductive CU(S:Sy)(R:List aH)(Cs:List ak)(k:Nat)(J:ak):Prop
 |z:k=0->CU S R Cs k J
 |s{j:Nat}{I:ak}{x:Sy}:j<k->Cs[j]?=some I->J=bQ S R I x->CU S R Cs k J
structure gD(Γ:Px)(vs:List Nat)(Cs:List ak)(h:H):Prop where
 A:Γ.A h
 cl:h cL=some (.lst (vs.map bA))
 st:pJ vs Cs h
 kF:∃i,h (lb 34)=some (.aF (gn Cs) i)
 sub:∀J∈Cs,J∈Γ.fc
 nodup:Cs.Nodup
 ne:[]∉Cs
 gT:Cs[0]?=some (di Γ.S Γ.R [(0,0)])
 oG:∀k J,Cs[k]?=some J->CU Γ.S Γ.R Cs k J
structure j8(Γ:Px)(h:H):Prop where
 I:gD Γ Γ.vs Γ.Cs h
 ff:∀J∈Γ.Cs,∀x,bQ Γ.S Γ.R J x≠[]->bQ Γ.S Γ.R J x∈Γ.Cs
noncomputable abbrev Px.M(Γ:Px)(h:H):Prop:=j8 Γ h
noncomputable abbrev Px.out(Γ:Px)(vs:List Nat)(Cs:List ak)(h:H):Px:={Γ with vs:=vs,Cs:=Cs,av:=h}
noncomputable abbrev kJ:List Nat:=[2,30,33,43,34,38]
noncomputable abbrev IQ(Γ:Px)(h:H)(Q:ab):Prop:=∀vs Cs h',j8 (Γ.out vs Cs h') h'->aC kJ h h'->Q (.ref cL) h'
inductive Kl(h:H)(Q:ab):aj->Prop
 |mk{Γ:Px}:Γ.A h->d9 Γ->Em (lb 34) h->h cL=none->IQ Γ h Q->Kl h Q [.ref bN]
noncomputable def CK:b6:=λus h Q=>Kl h Q us
noncomputable def adc:SW:=aB (aS (cu (aE (an 0) "lr0_cidhash") (bv jG (aA (an 3) aD))) (an 2)) (tL .Add 2 (aM 1))
noncomputable def adi:SW:=aB (aS (cu (aE (an 0) "lr0_cidhash") (bv jG (aA (an 8) aD))) (bv dQ (aA (an 1) aD))) (cM (bY (an 1) "list" de (aA (an 8) aD)))
noncomputable def adj:SW:=aB (a9 (lB (gm (bE (an 8))) (lB (aT .In (bv jG (aA (an 8) aD)) (aE (an 0) "lr0_cidhash")) uQ)) BD aO) adi
noncomputable def QA:SW:=aB (aZ 8 (dw (an 0) "lr0_goto" .table mY (aA (an 3) (aA (an 7) aD)))) adj
noncomputable def P9:SW:=bX (bB (an 3)) false (a5 5) (bX (bB (aE (an 5) "usyms")) false (a5 6) (aS (cu (an 4) (an 6)) i8) aO) aO
noncomputable def acE:SW:=bX (bB (an 4)) false (a5 7) QA aO
noncomputable def adk:SW:=aB P9 acE
noncomputable def adl:SW:=aB (aZ 4 fz) adk
noncomputable def adm:SW:=aB (tL .Add 2 (aM 1)) adl
noncomputable def adn:SW:=aB (aZ 3 (a3 (an 1) (an 2))) adm
noncomputable def QB:SW:=aB (o5 (aT .Lt (an 2) (bv dQ (aA (an 1) aD))) adn aO) (eA (an 1))
noncomputable def ade:SW:=aB (aZ 2 (aM 0)) QB
noncomputable def adf:SW:=aB (bX (bB (an 1)) false (a5 3) adc aO) ade
noncomputable def adg:SW:=aB (aZ 2 (aM 0)) adf
noncomputable def adh:SW:=aB (aZ 1 (cx (aA (dw (an 0) "lr0_closure" .table rO (aA (cx (aA (aE (a3 (aE (aE (an 0) "grammar") "Productions") (aM 0)) "lr_next") aD)) aD)) aD))) adg
noncomputable def GM:SW:=adh
section
variable{Γ:Px}{av:H}{m:Nat}{Cs uo:List ak}{vs:List Nat}{Q:Bool->Prop}{R:List aH}{l:L}
theorem BK{α:Type}{xs:List α}{x y:α}(e:(xs++[x])[k]?=some y):xs[k]?=some y\/(k=xs.length/\x=y):=(lR k xs.length).elim (λz=>.inl ((uz z).symm.trans e)) λz=>.inr (by
 have w:=iz (ji (f5 (cm.1 e).1 cw)) z
 subst w
 exact⟨rfl,bc (yo.symm.trans e)⟩)
theorem Hn{α:Type}{xs r:List α}{x:α}(e:xs[k]?=some x):(xs++r)[k]?=some x:=(uz (cm.1 e).1).trans e
theorem pJ.old(s:pJ vs Cs h)(e:∀{n o},h (.ay n)=some o->h' (.ay n)=some o):pJ vs Cs h':=⟨s.len,λk n J a b=>e (s.at_ k n J a b)⟩
theorem pJ.snoc(s:pJ vs Cs h)(e:h (.ay n)=some (.lst (J.map a4))):pJ (vs++[n]) (Cs++[J]) h:=⟨cw.trans ((au (·+1) s.len).trans (cw (as:=Cs) (bs:=[J])).symm),λk n' J' a b=>(BK a).elim (λa=>(BK b).elim (s.at_ k n' J' a) λz=>absurd (z.1▸s.len▸(cm.1 a).1) (kh _)) λz=>(BK b).elim (λb=>absurd (s.len▸z.1▸(cm.1 b).1) (kh _)) λy=>z.2▸y.2▸e⟩
theorem Xg:gn (Cs++[J])=gn Cs++[(d7 J,.int Cs.length)]:=by
 unfold gn;rw [List.zipIdx_append,List.map_append,Nat.zero_add];rfl
theorem MI:(gn Cs).map (·.1)=Cs.map d7:=gj.trans ((gj (f:=Prod.fst) (g:=d7) (l:=Cs.zipIdx)).symm.trans (au (List.map d7) (List.zipIdx_map_fst ..)))
theorem aem:d7 J∈Cs.map d7↔J∈Cs:=⟨λh=>(bg.1 h).elim λK z=>Hv z.2▸z.1,λh=>bg.2 ⟨J,h,rfl⟩⟩
theorem MJ(n:J∉Cs):d7 J∉(gn Cs).map (·.1):=λz=>n (aem.mp (MI▸z))
theorem MK(n:J∉Cs):cg (gn Cs) (d7 J)=none:=Gf (MJ n)
theorem Xf(n:J∉Cs):dS (gn Cs) (d7 J) (.int Cs.length)=gn (Cs++[J]):=(Bu (MJ n)).trans Xg.symm
theorem MH(nd:Cs.Nodup)(e:Cs[k]?=some J):cg (gn Cs) (d7 J)=some (.int k):=AX (j:=k) (MI▸Dh d7 (λa b z w=>z (Hv w)) nd) (eL.trans (by rw [List.getElem?_zipIdx,e,Nat.zero_add];rfl))
theorem FL:cz 8 (d7 I):=.tup λu hu=>(bg.1 hu).elim λp z=>z.2▸.tup (bq.2 ⟨.int,bq.2 ⟨.int,λ_ z=>absurd z a0⟩⟩)
theorem gD.len(I:gD Γ vs Cs h):Cs.length<=Γ.fc.length:=gP I.nodup I.sub
theorem gD.turn(I:gD Γ vs Cs h)(A:Γ.A h')(F:bC [34,38] h h')(ol:∀{n o},h (.ay n)=some o->h' (.ay n)=some o):gD Γ vs Cs h':=⟨A,(F _ _ _ rfl).trans I.cl,I.st.old ol,I.kF.imp λi e=>(F _ _ _ rfl).trans e,I.sub,I.nodup,I.ne,I.gT,I.oG⟩
theorem gD.cO(M:gD Γ vs Cs h)(F:aC ts h h')(w:jS ([34,38]++([2,30,33,43]++s6)) ts=true):gD Γ vs Cs h':=
 have s:=F.same w
 M.turn (M.A.turn (s.sub rfl) (M.A.tr.imp λτ t=>(t.old F.old).same (s.sub rfl))) (s.sub rfl) F.old
theorem gD.ext(M:gD Γ vs Cs h)(X:Ext h h'):gD Γ vs Cs h':=M.cO (ts:=[]) X rfl
theorem FC(e:h l=some (.aF es n))(hk:cz 8 w)(q:Q (cg es w).isSome):sU w (.ref l) h Q:=.aF e hk (λz=>by rw [z] at q;exact q) λu z=>by rw [z] at q;exact q
theorem H2(h:y∈gc S R i):jn S R y:=by
 unfold gc at h
 cases e:(cY S R)[i]? with
 |none=>rw [e] at h;exact absurd h a0
 |some r=>rw [e] at h;exact .mk e h
theorem vE(h:gu S R p=some y):jn S R y:=H2 (cP h)
theorem gD.snoc(M:gD Γ vs Cs h)(mJ:J∈Γ.fc)(nJ:J∉Cs)(neJ:J≠[])(mI:I∈Cs)(fr:J=bQ Γ.S Γ.R I x)(A:Γ.A h')(cl:h' cL=some (.lst ((vs++[n]).map bA)))(st:pJ (vs++[n]) (Cs++[J]) h')(kF:∃i,h' (lb 34)=some (.aF (gn (Cs++[J])) i)):gD Γ (vs++[n]) (Cs++[J]) h':=
 ⟨A,cl,st,kF,λJ' hJ=>(bO.1 hJ).elim (M.sub J') λz=>a6.1 z▸mJ,nV M.nodup nJ,λz=>(bO.1 z).elim M.ne λz=>neJ (a6.1 z).symm,Hn M.gT,λk' J' hk=>(BK hk).elim (λe=>(M.oG k' J' e).casesOn .z λa b c=>.s a (Hn b) c) λz=>(jL.1 mI).elim λj e=>.s (z.1▸(cm.1 e).1) (Hn e) (z.2▸fr)⟩
end
structure Ve(Γ:Px)(I:ak)(x:Sy)(h:H)(v:V)(h':H):Prop where
 gv:GV h' v (bQ Γ.S Γ.R I x)
 A:Γ.A h'
 fr:aC d6 h h'
structure AS(Γ:Px)(d:Nat)(av:H)(I:ak)(b xs:ai)(h:H):Prop where
 d:∃i,h (.ay d)=some (.aF (rows xs λ_=>.none) i)
 sub:∀y∈xs,jn Γ.S Γ.R y
 all:∀p∈I,∀y∈gc Γ.S Γ.R p.1,y∈xs
 part:∀y∈b,y∈xs
 len:xs.length<=I.length*100+b.length
 fr:aC [] av h
noncomputable def z9(d n k:Nat):Ks:=[(4,.ref (.ay d)),(3,bA n),(2,.int k),(1,.ref cL),(0,.ref bN)]
noncomputable def vj(n k:Nat):Ks:=[(3,bA n),(2,.int k),(1,.ref cL),(0,.ref bN)]
inductive Cm(Γ:Px)(d n k:Nat)(av:H)(I:ak)(b:ai):Ks->H->Prop
 |mk{xs:ai}{h:H}:AS Γ d av I b xs h->Cm Γ d n k av I b (z9 d n k) h
structure C7(Γ:Px)(av:H)(pg:List ak)(vs:List Nat)(Cs:List ak)(h:H):Prop where
 M:gD Γ vs Cs h
 fr:aC kJ av h
 pre:∃r,Cs=pg++r
section
variable{Γ:Px}{av:H}{m:Nat}{Cs pg:List ak}{vs:List Nat}{acc:ai}{l:L}{Ψ:ab}
theorem d9.ud(un:d9 Γ)(A:Γ.A h)(q:Ek ks e h (.ref bN))(pa:gC ks ms h [.ref (.ay n),sv x])(el:h (.ay n)=some (.lst (I.map a4)))(mI:I∈Γ.fc)(sx:jn Γ.S Γ.R x):Ex ks (dw e "lr0_goto" .table mY ms) h (Ve Γ I x h):=
 A.tb.gU q (by decide+kernel) (λc=>by kernel_rfl) pa λQ k=>.mk ⟨A,el,un.ok I mI,un.len I mI,un.u1 x sx,un.u2 I mI x sx,un.ul⟩ λv h' w A' F=>k v h' ⟨w,A',F⟩
theorem fR.uc(t:fR h)(q:Ek ks e h (.ref bN)):Ek ks (aE e "lr0_cidhash") h (.ref (lb 34)):=t.qp q λc=>by kernel_rfl
theorem ae4(n:acc.Nodup):(once acc b).Nodup:=He (λ_ _ n=>sw n) n
theorem tG{α:Type}{a b:List α}{x:α}(p:∃r,b=a++r)(m:x∈a):x∈b:=p.elim λr e=>e▸eM _ m
theorem ZY(A:Γ.A av)(hd:av (.ay d)=none)(el:av (.ay n)=some (.lst (I.map a4)))(ok:∀p∈I,Γ.ok p)(hl:I.length<=1000)(q:∀h' xs,AS Γ d av I [] xs h'->Wf 11 (z9 d n k) h' P):Wk 11 (z9 d n k) P9 (av.upd (.ay d) (.aF [] 0)) P:=by
 refine fB (xs:=I) (f:=a4) (Inv:=λa=>Cm Γ d n k av a []) (xk rfl) (λa ks h J=>J.casesOn λA=>A.fr.old el) (.mk (xs:=[]) ⟨⟨0,H.aJ⟩,λ_ z=>absurd z a0,λ_ z=>absurd z a0,λ_ z=>absurd z a0,bH _,aC.refl.new hd⟩) (λa p r ks h ea J P' t=>?_) λks h J=>J.casesOn λB=>bf (q _ _ B)
 refine J.casesOn λ{xs h} B=>?_
 have op:=ok p (ea▸cD _ (.head _))
 have ol:=aw (mH (ae4 (b:=gc Γ.S Γ.R p.1) jg) λy hy=>(vy.mp hy).resolve_left a0) (Aj A.L)
 have ln:(a++[p]).length*100=a.length*100+100:=(au (·*100) cw).trans (qC ..)
 have al:=jN 100 (aw (cN (mid ea).2) hl)
 refine fB (xs:=once [] (gc Γ.S Γ.R p.1)) (f:=sv) (Inv:=λb=>Cm Γ d n k av a b) ((A.L.same (B.fr.same rfl)).UV (xk rfl) op) (λb ks h J=>J.casesOn λB=>(B.fr.at_ _ _ rfl).trans (A.L.us op)) (.mk B) (λb y r' ks h eb J pD t2=>?_) (λks h J=>J.casesOn λB=>bf (t.nx (.mk ⟨B.d,B.sub,λp' hp y hy=>(bO.1 hp).elim (λz=>B.all p' z y hy) λz=>B.part y (vy.mpr (.inr (a6.1 z▸hy))),λ_ z=>absurd z a0,ln▸aw B.len (eV ol _),B.fr⟩) rfl))
 refine J.casesOn λ{ys h} B=>B.d.elim λi ed=>yY (f:=λ_=>.none) qo (xk rfl) (xk rfl) ed (aw B.len (aw (fw al (aw (cN (mid eb).2) ol)) (by decide))) λi=>t2.nx (.mk ⟨⟨i,H.aJ⟩,λz hz=>(fU.mp hz).elim (B.sub z) λw=>w▸H2 ((vy.mp (eb▸cD _ (.head _))).resolve_left a0),λp' hp z hz=>fU.mpr (.inl (B.all p' hp z hz)),λz hz=>fU.mpr ((bO.1 hz).imp (B.part z) a6.1),?_,B.fr.ay hd⟩) rfl
 rw [List.length_append];exact aw uN (cS B.len)
theorem Xe(cl:Cs.length<=900000):(gn Cs).length<=1000000:=aw (aL ((bx _).trans List.length_zipIdx)) (aw cl (by decide))
theorem d9.TX(un:d9 Γ)(A:Γ.A h)(ei:∃i,h (lb 34)=some (.aF (gn Cs) i))(cl:Cs.length<=900000)(q:Ek ks e h v)(p:bj ks i=some (.ref (.ay n)))(l0:bj ks 0=some (.ref bN))(el:h (.ay n)=some (.lst (J.map a4)))(mJ:J∈Γ.fc)
 (r:∀h' j,Ext h h'->Wf k ks (h'.upd (lb 34) (.aF (dS (gn Cs) (d7 J) v) j)) P):Wk k ks (aS (cu (aE (an 0) "lr0_cidhash") (bv jG (aA (an i) aD))) e) h P:=ei.elim λi0 ei=>T8 q (A.tb.uc (xk l0)) (A.L.IN (xk p) el (un.ok _ mJ) (aw (un.len _ mJ) (by decide))) λu h' z g K=>by
 cases z.1
 exact .aF ((z.2.at_ _ _ rfl).trans ei) (Xe cl) FL (r h' _ z.2 g K)
theorem d9.Wh(un:d9 Γ)(A:Γ.A h)(ei:∃i,h (lb 34)=some (.aF (gn Cs) i))(p:bj ks 8=some (.ref (.ay n)))(l0:bj ks 0=some (.ref bN))(el:h (.ay n)=some (.lst (J.map a4)))(mJ:J∈Γ.fc):Bx ks (aT .In (bv jG (aA (an 8) aD)) (aE (an 0) "lr0_cidhash")) h λb h'=>b=(cg (gn Cs) (d7 J)).isSome/\Ext h h':=ei.elim λi0 ei g K Q z=>
 A.L.IN (xk p) el (un.ok _ mJ) (aw (un.len _ mJ) (by decide)) g K _ λv2 h2 u=>by
  cases u.1
  exact(A.cO (aC.of (ts:=[]) u.2) rfl).tb.uc (xk l0) g K _ (FC (Q:=λb=>∃c,V.bool b= .bool c/\Q c h2) ((u.2.at_ _ _ rfl).trans ei) FL ⟨_,rfl,z _ h2 ⟨rfl,u.2⟩⟩)
end
noncomputable def x2(k:Nat):Ks:=[(2,.int k),(1,.ref cL),(0,.ref bN)]
noncomputable def zG(Γ:Px)(I:ak)(Cs:List ak)(x:Sy):Prop:=bQ Γ.S Γ.R I x=[]\/bQ Γ.S Γ.R I x∈Cs
inductive I4(Γ:Px)(av:H)(pg:List ak)(n k:Nat)(I:ak)(a:ai):Ks->H->Prop
 |mk{vs:List Nat}{Cs:List ak}{h:H}:C7 Γ av pg vs Cs h->(∀x∈a,zG Γ I Cs x)->I4 Γ av pg n k I a (vj n k) h
inductive I9(Γ:Px)(av:H)(m:Nat):Ks->H->Prop
 |mk{k:Nat}{vs:List Nat}{Cs:List ak}{h:H}:m+k=Γ.fc.length->gD Γ vs Cs h->aC kJ av h->k<=Cs.length->(∀j J,j<k->Cs[j]?=some J->∀x,zG Γ J Cs x)->I9 Γ av m (x2 k) h
section
variable{Γ:Px}{av:H}{m:Nat}{Cs pg:List ak}{vs:List Nat}{R:List aH}{cb db:BW}{t:SW}{Ψ:Bool->H->Prop}{K:Ks->H->Prop}
theorem WF(p:Eb ks cb h false)(q:Bx ks db h Ψ):Bx ks (lB cb db) h Ψ:=λg K Q z=>p g K _ (q g K Q z)
theorem WG(q:Bx ks cb h Ψ):Bx ks (lB cb uQ) h Ψ:=λg K Q z=>q g K _ λb h' w=>b.casesOn (motive:=λb=>Ψ b h'->if b=true then Q true h' else Q false h') (λw=>z _ _ w) (λw=>z _ _ w) w
theorem Ip(p:Bx ks cb h Ψ)(q1:∀h',Ψ true h'->Wk n ks s h' P)(q2:∀h',Ψ false h'->Wk n ks t h' P):Wk n ks (a9 cb s t) h P:=λg K=>p g K.at_ _ λb h' z=>by
 cases b with
 |true=>exact q1 h' z g K
 |false=>exact q2 h' z g K
theorem Y4(w:GV h v J)(ne:J.isEmpty=false):∃n,v= .ref (.ay n)/\h (.ay n)=some (.lst (J.map a4)):=by
 cases w with
 |no=>cases ne
 |lst z=>exact⟨_,rfl,z⟩
theorem ZW(un:d9 Γ)(G:C7 Γ av pg vs Cs h)(eI:h (.ay n)=some (.lst (I.map a4)))(mC:I∈Cs)(sx:jn Γ.S Γ.R x)(t:Turn 11 P P' K)(q:∀vs' uo h',C7 Γ av pg vs' uo h'->(∃r,uo=Cs++r)->zG Γ I uo x->K (vj n k) h'):Wk 11 ((7,sv x)::vj n k) QA h P':=by
 have mI:=G.M.sub I mC
 refine dO (un.ud G.M.A (xk rfl) (eE (xk rfl) (xk rfl)) eI mI sx) λv h1 g=>?_
 have mJ:=un.step I mI x
 have M1:gD Γ vs Cs h1:=G.M.turn g.A (g.fr.same rfl) g.fr.old
 have F1:aC kJ av h1:=G.fr.trans (g.fr.wide rfl)
 have bM:∀{h'},Ext h1 h'->zG Γ I Cs x->K (vj n k) h':=λX w=>q vs Cs _ ⟨M1.ext X,F1.trans (.of X),G.pre⟩ ⟨[],(gy _).symm⟩ w
 have gl:=aw (un.len _ mJ) (by decide:1000<=1000000)
 cases hJ:(bQ Γ.S Γ.R I x).isEmpty with
 |true=>exact a8 (cX (Et (gb (uR (xk rfl) g.gv gl (au Bool.not hJ)) rfl)) (B7 (Ix (t.ct (bM .refl (.inl (zK.1 hJ))) rfl))))
 |false=>
  refine(Y4 g.gv hJ).elim λn' z=>?_
  have b1:=uR (ks:=(8,v)::(7,sv x)::vj n k) (e:=an 8) (xk rfl) g.gv gl (au Bool.not hJ)
  cases z.1
  have en:=z.2
  have cl:=aw M1.len un.sl
  refine a8 (Ip (WF (gb b1 rfl) (WG (un.Wh M1.A M1.kF rfl rfl en mJ))) (λh2 z=>B7 (Ix (t.ct (bM z.2 (.inr (ip λm=>Bool.noConfusion (z.1.trans (au Option.isSome (MK m)))))) rfl))) λh2 z=>bf (bi ?_))
  have m:bQ Γ.S Γ.R I x∉Cs:=λm=>(jL.1 m).elim λj ej=>Bool.noConfusion (z.1.trans (au Option.isSome (MH M1.nodup ej)))
  have M2:=M1.ext z.2
  have vl:(vs.map bA).length=Cs.length:=(bx _).trans M2.st.len
  refine a8 (un.TX M2.A M2.kF cl (v:=.int (Cs.length:Nat)) (rI (l:=cL) (xk rfl) M2.cl (vl▸aw cl (by decide)) (au _ vl)) rfl rfl (z.2.old en) mJ λh3 i' X3=>?_)
  rw [Mine.Xf m]
  have M3:=M2.ext X3
  have XV:=X3.old (z.2.old en)
  refine bi (kQ (l:=cL) (us:=vs.map bA) (w:=bA n') (xk rfl) (aW M3.cl (bw rfl)) (vl▸b7 cl (by decide)) (xk rfl) (t.nx (q (vs++[n']) (Cs++[bQ Γ.S Γ.R I x]) _ ⟨?_,((F1.trans (.of z.2)).trans (.of X3)).wide (fq:=kJ) rfl|>λF=>(F.upd rfl).upd rfl,G.pre.elim λr er=>⟨r++[bQ Γ.S Γ.R I x],(au (·++_) er).trans (kY ..)⟩⟩ ⟨_,rfl⟩ (.inr (cD _ (.head _)))) rfl))
  have ol:∀{m o},h3 (.ay m)=some o->((h3.upd (lb 34) (.aF (gn (Cs++[bQ Γ.S Γ.R I x])) i')).upd cL (.lst (vs.map bA++[bA n']))) (.ay m)=some o:=λz=>aW (aW z dB) dB
  have sm:bC ([33,43]++([2,30]++s6)) h3 ((h3.upd (lb 34) (.aF (gn (Cs++[bQ Γ.S Γ.R I x])) i')).upd cL (.lst (vs.map bA++[bA n']))):=bC.trans (bC.upd rfl) (bC.upd rfl)
  exact M3.snoc mJ m (λw=>Bool.noConfusion (hJ.symm.trans (au List.isEmpty w))) mC rfl (M3.A.turn (sm.sub rfl) (M3.A.tr.imp λτ tr=>(tr.old ol).same (sm.sub rfl))) (H.aJ.trans (au (λl=>some (O.lst l)) (gF (f:=bA) (l₁:=vs) (l₂:=[n'])).symm)) ((M3.st.snoc XV).old ol) ⟨i',aW H.aJ (bw rfl)⟩
theorem Oc(h:bQ S R I x≠[]):∃p∈I,x∈gc S R p.1:=by
 cases e:fj S R I x with
 |nil=>exact absurd ((au (di S R) e).trans EF) h
 |cons p r=>exact(bg.1 (e▸List.Mem.head _:p∈fj S R I x)).elim λq z=>⟨q,(fC.1 z.1).1,cP (cU (fC.1 z.1).2)⟩
end
inductive KA(a:L)(Ψ:ab):ab
 |mk{w:V}{h':H}:Ψ w h'->KA a Ψ (.ref a) (h'.upd a (.lst [w]))
inductive IZ(Γ:Px)(av:H)(n:Nat)(a:List Nat):Ks->H->Prop
 |mk{h:H}:Γ.A h->h cL=some (.lst [bA n])->h (.ay n)=some (.lst ((di Γ.S Γ.R [(0,0)]).map a4))->(∃i,h (lb 34)=some (.aF (gn (a.map λ_=>di Γ.S Γ.R [(0,0)])) i))->aC kJ av h->IZ Γ av n a (x2 a.length) h
section
variable{Γ:Px}{av:H}{m:Nat}{Cs pg:List ak}{vs:List Nat}{Ψ:ab}{l:Mine.L}{F:b6}{nm:Str}{us:aj}
theorem ajx(p:Ex ks e h Ψ)(q:∀v h',Ψ v h'->h' l=none):Ex ks (cx (aA e aD)) h (KA l Ψ):=λg K Q z=>p g K _ λv h' y=>⟨eH rfl,gO l (q v h' y) (z _ _ (.mk y))⟩
theorem fR.ajB(t:fR h)(q:Ek ks o h (.ref bN))(hn:BY.contains nm=true)(n2:∀c,(tS c).lookup nm=none)(pa:Ex ks e h Ψ)(z:∀v h',Ψ v h'->∀Q:ab,(∀v h',Φ v h'->Q v h')->F [.ref bN,v] h' Q):Ex ks (dw o nm .table F (aA e aD)) h Φ:=λg K Q y=>t.casesOn λt=>t.casesOn λe w=>q g K _ ⟨.mk e ((nK (n2 _)).trans (w _ (Dj.1 hn))),pa g K _ λv h' u=>z v h' u Q y⟩
theorem d8.Uy{T:ai}{R:List aH}{S:Sy}{U:aj}{p:It}(A:d8 T R S U h)(q:Ek ks o h (.ref bN))(e0:Ek ks e h (a4 p))(ok:d4 S R p):Ex ks (dw o "lr0_closure" .table rO (aA (cx (aA e aD)) aD)) h (zr T R S U [p] h):=A.tb.ajB q (by decide+kernel) (λc=>by kernel_rfl) (v9 (iS e0) (eH rfl)) λv h' z Q y=>by
 cases z with
 |mk hn=>
  have F0:=aC.refl.new (ts:=[2,30]) (o:=.lst [a4 p]) hn
  have A1:=A.cO (aC.refl.new (ts:=[]) (o:=.lst [a4 p]) hn) rfl
  exact A1.cnt.elim λc z=>.mk A1.L z.1 z.2 (H.aJ (o:=.lst [a4 p])) (λp hp=>a6.1 hp▸ok) (eH rfl) λn' h2 e2 H4 Hx F=>y _ _ (.mk ⟨A1.L.same (F.same rfl),⟨_,H4,Hx⟩,A1.tr.imp λτ tr=>tr.cO F rfl⟩ (F0.trans F) e2)
theorem ZX(un:d9 Γ)(M:gD Γ vs Cs h)(F:aC kJ av h)(q:IQ Γ av Q):Wk 11 (x2 0) QB h (Rt Q):=by
 refine a8 (rC (I:=I9 Γ av) Γ.fc.length (.mk rfl M F (bH _) λ_ _ z=>absurd z (m9 _)) λm ks h K0=>K0.casesOn λ{k vs Cs h} hm M F hk dn=>?_)
 have cl:=aw M.len un.sl
 have vl:(vs.map bA).length=Cs.length:=(bx _).trans M.st.len
 have len:Ek (x2 k) (bv dQ (aA (an 1) aD)) h (.int (Cs.length:Nat)):=rI (l:=cL) (xk rfl) M.cl (vl▸aw cl (by decide)) (au _ vl)
 refine(lR k Cs.length).elim (λjw=>.inr ⟨qK (xk rfl) len (cE (iW.2 jw)),λP' t=>?_⟩) λAE=>.inl ⟨qK (xk rfl) len (cQ (jI.2 (jK.2 AE))),bf (bi (il (xk rfl) λ_=>q vs Cs h ⟨⟨M.A,M.cl,M.st,M.kF,M.sub,M.nodup,M.ne,M.gT,M.oG⟩,λJ hJ x hx=>(jL.1 hJ).elim λj ej=>(dn j J (dD (cm.1 ej).1 AE) ej x).resolve_left hx⟩ F))⟩
 have eJ:Cs[k]?=some Cs[k]:=fu jw
 generalize Cs[k]=J at eJ
 have ev:∃n,vs[k]?=some n:=⟨_,fu (M.st.len.symm▸jw)⟩
 refine ev.elim λn en=>?_
 have eI:=M.st.at_ k n J en eJ
 have mC:=cP eJ
 have mJ:=M.sub J mC
 refine dC (o9 (l:=cL) (j:=k) (v:=bA n) (xk rfl) (xk rfl) M.cl (eL.trans (au (Option.map bA) en)) (aw (cN jw) (aw cl (by decide)))) (a8 (Ca (x:=k) (z:=((k+1:Nat):Int)) rfl bF rfl (bi (TY λd hd=>a8 (Wk.sub (bJ:=z9 d n (k+1)) (ZY M.A hd eI (un.ok J mJ) (un.len J mJ) λh1 xs B=>bi (B.d.elim λi ed=>?_)) rfl)))))
 have M1:gD Γ vs Cs h1:=M.cO B.fr rfl
 refine v0 (xs:=xs) (bJ:=vj n (k+1)) (Inv:=I4 Γ h1 Cs n (k+1) J) (xk rfl) ed (λa ks h' K=>K.casesOn λG _=>(G.fr.old ed).trans ed.symm) (.mk ⟨M1,.refl,[],(gy _).symm⟩ λ_ z=>absurd z a0) (λa x r ks h' ea K pD t2=>K.casesOn λG gs=>ZW un G (G.fr.old (B.fr.old eI)) (tG G.pre mC) (B.sub x (ea▸cD _ (.head _))) t2 λvs' uo h2 G2 pr w=>.mk ⟨G2.M,G2.fr,G2.pre⟩ λy hy=>(bO.1 hy).elim (λu=>(gs y u).imp_right (tG pr)) λu=>a6.1 u▸w) λks h' K=>K.casesOn λ{vs' uo h'} G gs=>bf ?_
 cases m with
 |zero=>exact absurd (dD jw M.len) (wE.2 (aL (hm.symm.trans (og k))))
 |succ m=>
  refine t.nx ⟨m,jM _,.mk (k:=k+1) ((Nat.succ_add m k).symm.trans hm) G.M (F.trans ((B.fr.wide rfl).trans G.fr)) ?_ λj J' hj ej x=>?_⟩ rfl
  ·exact G.pre.elim λr e=>e▸aw jw (aw (jh _ _) (aL cw.symm))
  ·have xy:Cs[j]?=some J':=G.pre.elim λr e=>(uz (dD hj jw)).symm.trans (e▸ej)
   refine(lR j k).elim (λu=>(dn j J' u xy x).imp_right (tG G.pre)) λu=>?_
   cases iz (ji hj) u
   cases bc (eJ.symm.trans xy)
   exact(aN (bQ Γ.S Γ.R J x=[])).elim .inl λne=>(Oc ne).elim λp z=>gs x (B.all p z.1 x z.2)
theorem ZZ(q:CK us h Q):GM (us.map some++List.replicate 10 none) h λfl _ h'=>Q (c7 fl) h':=by
 cases q with
 | @mk Γ A un kF free q=>
  have e0:Ek [(0,V.ref bN)] (aE (a3 (aE (aE (an 0) "grammar") "Productions") (aM 0)) "lr_next") h (a4 (0,0)):=A.cnt.elim λc z=>z.2.elim λmm pm=>(pm 0 iO [Γ.S] rfl).casesOn λep _ _ _ _ _=>jF (A.L.wb (i:=0) (mS (A.tb.mP (xk rfl)) A.L.G.g) bF (bH _)) ep (by kernel_rfl)
  refine(dO (n:=11) (ajx (l:=cL) (Ψ:=zr Γ.T Γ.R Γ.S Γ.U [(0,0)] h) (A.Uy (xk rfl) e0 (Ax (bH _))) λv h' z=>z.casesOn λ_ F _=>(F.at_ _ _ rfl).trans free) λv h2 z=>?_:Wk 11 [(0,.ref bN)] GM h (Rt Q)) _ (.dA rfl rfl)
  cases z with
  |mk z=>
   refine z.casesOn λ{n' h1} A1 F1 el=>?_
   have ol:∀{o m},h1 (.ay m)=some o->(h1.upd cL (.lst [bA n'])) (.ay m)=some o:=λz=>aW z dB
   have F2:aC kJ h (h1.upd cL (.lst [bA n'])):=(F1.wide rfl).upd rfl
   have A2:Γ.A (h1.upd cL (.lst [bA n'])):=A1.turn (bC.upd rfl) (A1.tr.imp λτ tr=>(tr.old ol).same (bC.upd rfl))
   refine dC bF (a8 (fB (bJ:=x2 0) (xs:=[n']) (f:=bA) (Inv:=IZ Γ h n') (xk rfl) (λa ks h' J=>J.casesOn λ_ e _ _ _=>e) (.mk (a:=[]) A2 H.aJ (ol el) (kF.casesOn λe=>⟨_,(H.bp (bw rfl)).trans ((F1.at_ _ _ rfl).trans e)⟩) F2) (λa y r ks h' ea J P' t=>?_) λks h' J=>bf (bi ?_)))
   ·have:a=[]:=rV (zO.1 (ji (mid ea).2))
    subst this
    cases(gE ea).1
    refine J.casesOn λ{h'} A e el ei F=>a8 (un.TX (Cs:=[]) A ei (bH _) (v:=.int 0) (xk rfl) rfl rfl el un.gT λh3 j X=>bi (Ca (x:=0) (z:=1) rfl bF rfl (t.nx (.mk (a:=[n']) ?_ (aW ((X.at_ _ _ rfl).trans e) (bw rfl)) (aW (X.old el) dB) ⟨j,H.aJ⟩ ((F.trans (.of X)).upd rfl)) rfl)))
    have B:Γ.A h3:=A.cO (aC.of (ts:=[]) X) rfl
    exact B.turn (bC.upd rfl) (B.tr.imp λτ tr=>(tr.old λz=>aW z dB).same (bC.upd rfl))
   ·refine J.casesOn λ{h'} A e el ei F=>dC bF ((ZX (vs:=[n']) (Cs:=[di Γ.S Γ.R [(0,0)]]) un ⟨A,e,⟨rfl,λk n J a b=>?_⟩,ei,λJ hJ=>a6.1 hJ▸un.gT,gX.2 ⟨a0,jg⟩,λz=>?_,rfl,λk J hk=>?_⟩ F q).sub rfl)
    ·cases k with
     |zero=>cases a;cases b;exact el
     |succ k=>cases a
    ·exact absurd (a6.1 z) (List.cons_ne_nil (0,0) (fresh (l9 Γ.S Γ.R [(0,0)]))).symm
    ·cases k with
     |zero=>exact .z rfl
     |succ k=>cases hk
end
noncomputable abbrev fE(st:Nat):L:=li 44 st
noncomputable abbrev hU(st:Nat):L:=li 45 st
noncomputable abbrev hH(st:Nat):L:=li 46 st
noncomputable abbrev q4:List Nat:=[2,30,33,43,34,38]++s6
inductive uk(Γ:Px)(y:Sy):Int->Prop
 |neg{n:Nat}:1<=n->n<=Γ.R.length->uk Γ y (-(n:Int))
 |zero:((0,1):It)∈Γ.I->uk Γ y 0
 |pos{j:Nat}:0<j->Γ.Cs[j]?=some (Γ.go y)->Γ.go y≠[]->uk Γ y j
noncomputable def up1{α:Type}(f:Sy->α)(y:Sy)(w:α):Sy->α:=λz=>if z=y then w else f z
structure gV(Γ:Px)(ks:ai)(fa:Sy->Int)(fp:Sy->It)(a:ak):Prop where
 nodup:ks.Nodup
 sub:∀y∈ks,y∈cH::Γ.T
 it:∀y∈ks,Γ.ok (fp y)
 c:∀y∈ks,uk Γ y (fa y)
 all:∀p∈a,∀y∈Γ.T,Γ.nx p=some y->y∈ks/\0<fa y
structure Cells(Γ:Px)(ks:ai)(fa:Sy->Int)(fp:Sy->It)(h:H):Prop where
 a:∃i,h (fE Γ.st)=some (.aF (rows ks λy=>.int (fa y)) i)
 p:∃i,h (hU Γ.st)=some (.aF (rows ks λy=>a4 (fp y)) i)
inductive rJ(Γ:Px)(a:ak)(h:H):Prop
 |mk{ks:ai}{fa:Sy->Int}{fp:Sy->It}:gV Γ ks fa fp a->Cells Γ ks fa fp h->rJ Γ a h
inductive Told(n t:Nat)(h:H):Prop
 |mk{vs:aj}:h (lb t)=some (.lst vs)->vs.length<=n->Told n t h
noncomputable abbrev HE:List Nat:=kJ++[35,36,44,45]
structure PS(Γ:Px)(n:Nat)(a:ak)(h:H):Prop where
 M:Γ.M h
 fo:Tab 15 16 (a7 Γ.T Γ.R) Γ.Fo h
 act:rJ Γ a h
 sr:Told n 35 h
 rr:Told n 36 h
 fr:aC HE Γ.av h
 fA:∀i,i≠Γ.st->h (fE i)=Γ.av (fE i)/\h (hU i)=Γ.av (hU i)
section
variable{Γ:Px}{m j1 j2:Nat}{b:ak}{ks:ai}{fa:Sy->Int}{fp:Sy->It}{w:Int}{f f':Sy->V}
theorem rA{α:Type}{f:Sy->α}{w:α}:up1 f y w y=w:=bz rfl
theorem tZ{α:Type}{f:Sy->α}{w:α}(e:x≠y):up1 f y w x=f x:=bD e
theorem HL(nd:N.Nodup)(e:f' x=v)(w:∀y∈N,y≠x->f' y=f y):dS (rows N f) (sv x) v=rows (c4 N x) f':=e▸(aN (x∈N)).elim (λm=>(SE nd m w).trans (au (rows · f') (kr m).symm)) λm=>by
 have k:(rows N f).map (·.1)=N.map sv:=gj
 rw [iD m,Bu (k▸λz=>m (tq.mp z)),show rows (N++[x]) f'=rows N f'++[(sv x,f' x)] from List.map_append]
 exact au (·++_) (qy λz hz=>au (Prod.mk (sv z)) (w z hz λe=>m (e▸hz)).symm)
theorem j8.turn(M:Γ.M h)(A:Γ.A h')(s:bC [34,38] h h')(ol:∀{n o},h (.ay n)=some o->h' (.ay n)=some o):Γ.M h':=⟨M.I.turn A s ol,M.ff⟩
theorem j8.old(M:Γ.M h)(s:bC q4 h h')(ol:∀{n o},h (.ay n)=some o->h' (.ay n)=some o):Γ.M h':=M.turn (M.I.A.turn (s.sub rfl) (M.I.A.tr.imp λτ tr=>(tr.old ol).same (s.sub rfl))) (s.sub rfl) ol
theorem j8.goto(M:Γ.M h)(A:Γ.A h')(F:aC d6 h h'):Γ.M h':=M.turn A (F.same rfl) F.old
theorem j8.ext(M:Γ.M h)(X:Ext h h'):Γ.M h':=⟨M.I.ext X,M.ff⟩
theorem Told.at_(s:Told n t h)(e:h' (lb t)=h (lb t)):Told n t h':=s.casesOn λz l=>.mk (e.trans z) l
theorem Told.le(s:Told n t h)(l:n<=m):Told m t h:=s.casesOn λz k=>.mk z (aw k l)
theorem Cells.at_(c:Cells Γ ks fa fp h)(e1:h' (fE Γ.st)=h (fE Γ.st))(e2:h' (hU Γ.st)=h (hU Γ.st)):Cells Γ ks fa fp h':=⟨c.a.imp λ_ e=>e1.trans e,c.p.imp λ_ e=>e2.trans e⟩
theorem rJ.at_(c:rJ Γ a h)(e1:h' (fE Γ.st)=h (fE Γ.st))(e2:h' (hU Γ.st)=h (hU Γ.st)):rJ Γ a h':=c.casesOn λA c=>.mk A (c.at_ e1 e2)
theorem gV.put(A:gV Γ ks fa fp a)(hy:y∈cH::Γ.T)(hq:Γ.ok q)(hc:uk Γ y w)(h4:∀p∈a,y∈Γ.T->Γ.nx p=some y->0<w):gV Γ (c4 ks y) (up1 fa y w) (up1 fp y q) a:=by
 have key:∀{z},z∈c4 ks y->z≠y->z∈ks:=λm n=>(fU.mp m).resolve_right n
 refine⟨sw A.nodup,λz m=>?_,λz m=>?_,λz m=>?_,λp hp z hz e=>?_⟩
 all_goals by_cases e':z=y
 ·exact e'▸hy
 ·exact A.sub z (key m e')
 ·rw [e',rA];exact hq
 ·rw [tZ e'];exact A.it z (key m e')
 ·rw [e',rA];exact hc
 ·rw [tZ e'];exact A.c z (key m e')
 ·subst e';rw [rA];exact⟨fU.mpr (.inr rfl),h4 p hp hz e⟩
 ·rw [tZ e'];exact⟨fU.mpr (.inl (A.all p hp z hz e).1),(A.all p hp z hz e).2⟩
theorem gV.len(A:gV Γ ks fa fp a)(gr:Gr Γ.T Γ.R):ks.length<=1000000:=aw (mH A.nodup A.sub) (aw (cS gr.tl) (by decide))
theorem gV.snoc(A:gV Γ ks fa fp a)(h:∀y∈Γ.T,Γ.nx p=some y->y∈ks/\0<fa y):gV Γ ks fa fp (a++[p]):=⟨A.nodup,A.sub,A.it,A.c,λq hq=>(bO.1 hq).elim (A.all q) λz=>a6.1 z▸h⟩
theorem PS.re(C:PS Γ n a h)(c:rJ Γ b h):PS Γ n b h:=⟨C.M,C.fo,c,C.sr,C.rr,C.fr,C.fA⟩
theorem PS.snoc(C:PS Γ n a h)(e:∀y∈Γ.T,Γ.nx p≠some y):PS Γ n (a++[p]) h:=C.re (C.act.casesOn λA c=>.mk (A.snoc λy hy z=>absurd z (e y hy)) c)
theorem PS.le(C:PS Γ n a h)(l:n<=m):PS Γ m a h:=⟨C.M,C.fo,C.act,C.sr.le l,C.rr.le l,C.fr,C.fA⟩
theorem PS.turn(C:PS Γ n a h)(M:Γ.M h')(F:aC ts h h')(w1:tP ts HE=true)(w2:jS [15,16,35,36,44,45] ts=true):PS Γ n a h':=
 have s:=F.same w2
 ⟨M,C.fo.same (s.sub rfl),C.act.at_ (s _ _ _ rfl) (s _ _ _ rfl),C.sr.at_ (s _ _ _ rfl),C.rr.at_ (s _ _ _ rfl),C.fr.trans (F.wide w1),λi ne=>⟨(s _ _ _ rfl).trans (C.fA i ne).1,(s _ _ _ rfl).trans (C.fA i ne).2⟩⟩
theorem PS.goto(C:PS Γ n a h)(A:d8 Γ.T Γ.R Γ.S Γ.U h')(F:aC d6 h h'):PS Γ n a h':=C.turn (C.M.goto A F) F rfl rfl
theorem PS.ext(C:PS Γ n a h)(X:Ext h h'):PS Γ n a h':=C.turn (C.M.ext X) X rfl rfl
theorem PS.cell(C:PS Γ n a h)(B:gV Γ (c4 ks y) (up1 fa y w) (up1 fp y q) b)(nd:ks.Nodup):PS Γ n b ((h.upd (fE Γ.st) (.aF (dS (rows ks λy=>.int (fa y)) (sv y) (.int w)) j1)).upd (hU Γ.st) (.aF (dS (rows ks λy=>a4 (fp y)) (sv y) (a4 q)) j2)):=by
 rw [HL (f':=λz=>.int (up1 fa y w z)) nd (congrArg V.int rA) λz _ e=>congrArg V.int (tZ e),HL (f':=λz=>a4 (up1 fp y q z)) nd (congrArg a4 rA) λz _ e=>congrArg a4 (tZ e)]
 have F:aC [44,45] h ((h.upd (fE Γ.st) (.aF (rows (c4 ks y) λz=>.int (up1 fa y w z)) j1)).upd (hU Γ.st) (.aF (rows (c4 ks y) λz=>a4 (up1 fp y q z)) j2)):=(aC.refl.upd rfl).upd rfl
 have s:=F.same (fq:=q4++[15,16,35,36]) rfl
 exact⟨C.M.old (s.sub rfl) F.old,C.fo.same (s.sub rfl),.mk B ⟨⟨j1,aW H.aJ (bw rfl)⟩,⟨j2,H.aJ⟩⟩,C.sr.at_ (s _ _ _ rfl),C.rr.at_ (s _ _ _ rfl),C.fr.trans (F.wide rfl),λi ne=>⟨(H.bp (bw rfl)).trans ((H.bp (kK ne)).trans (C.fA i ne).1),(H.bp (kK ne)).trans ((H.bp (bw rfl)).trans (C.fA i ne).2)⟩⟩
end
section
variable{Γ:Px}{tg:Nat}{b:ak}{t:Sy}{fa:Sy->Int}{fp:Sy->It}{w:Int}{mm:Prop}{R:List aH}{nm:Str}{ws:aj}{op:Operator}{cc:Bool}
theorem PS.L(C:PS Γ n a h):LB Γ.T Γ.R Γ.S h:=C.M.I.A.L
theorem PS.tb(C:PS Γ n a h):fR h:=C.M.I.A.tb
theorem d8.mR(A:d8 T R S U h)(p:Ek ks m h (cq i))(e:(cY S R)[i]?=some (x,bd))(w:(Sc i x bd).lookup nm=some v):Ek ks (aE m nm) h v:=A.cnt.elim λc z=>z.2.elim λmm pm=>(pm i x bd e).casesOn λep _ _ _ _ _=>jF p ep w
theorem wL.red(p:wL c mm i x bd h):∃as,h (pL i)=some (.inst .dg as)/\wP as/\∀z:Int,wL c mm i x bd (h.upd (pL i) (.inst .dg (bT as "reduced" (.int z)))):=p.casesOn λ{ext v} ep ln mk le me rd=>
 ⟨_,ep,rd.casesOn (λz=>.no ((nK (by kernel_rfl)).trans z)) λz=>.yes ((nK (by kernel_rfl)).trans z),λz=>.mk (ext:=bT ext "reduced" (.int z)) (H.aJ.trans (au (λa=>some (O.inst .dg a)) (qQ (by kernel_rfl)))) ((i4 (by decide+kernel)).trans ln) (mk.casesOn (motive:=λv _=>MarkA (bT ext "reduced" (.int z)) v) (λz=>.no ((i4 (by decide+kernel)).trans z)) λz=>.yes ((i4 (by decide+kernel)).trans z)) le me (.yes kA)⟩
theorem PS.T9(C:PS Γ n a h)(p:Ek ks o h (cq i))(hi:i<=Γ.R.length)(q:∀h',PS Γ n a h'->Wf k ks h' P)(ZA:op= .Add\/op= .Sub):Wk k ks (q9 op o "reduced" (aM 1)) h P:=by
 refine(w7 (S:=Γ.S) hi).elim λx z=>z.elim λb e=>C.M.I.A.cnt.elim λc z=>z.2.elim λmm pm=>(pm i x b e).red.elim λas r=>?_
 have st:∀z:Int,PS Γ n a (h.upd (pL i) (.inst .dg (bT as "reduced" (.int z)))):=λz1=>by
  have F:aC [2] h (h.upd (pL i) (.inst .dg (bT as "reduced" (.int z1)))):=aC.refl.upd rfl
  refine C.turn (C.M.turn ⟨C.L.same (F.same rfl),⟨c,z.1.same (F.same rfl),mm,λi' x' b' e'=>(aN (i'=i)).elim (λw=>?_) λw=>(pm i' x' b' e').casesOn λe1 l1 k1 le m1 r1=>.mk (aW e1 (kK w)) l1 k1 le m1 r1⟩,C.M.I.A.tr.imp λτ tr=>tr.cO F rfl⟩ (F.same rfl) F.old) F rfl rfl
  subst w
  cases bc (e.symm.trans e')
  exact r.2.2 z1
 have fin:∀(x:Int) g,Kn k ks g->ze h (λv ja=>DM "reduced" v ja (λsT=>P .next g sT) (cq i)) op (.int x) (.int 1):=λx g K=>ZA.elim (λe=>e▸.add (.mk r.1 (q _ (st _) g K))) λe=>e▸.sub (.mk r.1 (q _ (st _) g K))
 exact λg K=>p g K.at_ _ (r.2.1.casesOn (λz=>.cls r.1 z (.inl rfl) (fin 0 g K)) λ{w} z=>.own r.1 z (fin w g K))
theorem PS.told(C:PS Γ n a h)(ht:tg=35\/tg=36)(e:h (lb tg)=some (.lst ws))(lw:ws.length<=n)(v:V):PS Γ (n+1) a (h.upd (lb tg) (.lst (ws++[v]))):=by
 have sm:bC ([15,16,44,45]++q4) h (h.upd (lb tg) (.lst (ws++[v]))):=ht.elim (λz=>z▸bC.upd rfl) λz=>z▸bC.upd rfl
 have fr:aC HE h (h.upd (lb tg) (.lst (ws++[v]))):=ht.elim (λz=>z▸aC.refl.upd rfl) λz=>z▸aC.refl.upd rfl
 have lc:∀t,Told n t h->Told (n+1) t (h.upd (lb tg) (.lst (ws++[v]))):=λt s=>(aN (t=tg)).elim (λz=>by
  subst z;exact .mk H.aJ (aw (aL cw) (cS lw))) λz=>(s.at_ (H.bp λe=>z (L.mk.inj e).1)).le (jj n)
 exact⟨C.M.old (sm.sub rfl) fr.old,C.fo.same (sm.sub rfl),C.act.at_ (sm _ _ _ rfl) (sm _ _ _ rfl),lc 35 C.sr,lc 36 C.rr,C.fr.trans fr,λi ne=>⟨(sm _ _ _ rfl).trans (C.fA i ne).1,(sm _ _ _ rfl).trans (C.fA i ne).2⟩⟩
theorem PS.Ud(C:PS Γ n a h)(hn:n<900000)(ht:tg=35\/tg=36)(e:∀c,(tS c).lookup nm=some (.ref (lb tg)))(p:Ek ks m h (.ref bN))(pv:Ek ks m' h v)(q:∀h',PS Γ (n+1) a h'->Wf k ks h' P):Wk k ks (cM (bY (aE m nm) "list" de (aA m' aD))) h P:=
 (ht.elim (λz=>z▸C.sr) λz=>z▸C.rr:Told n tg h).casesOn λew lw=>kQ (C.tb.qp p e) ew (b7 lw (qB hn (by decide))) pv (q _ (C.told ht ew lw v))
theorem PS.Uc(C:PS Γ n a h)(hn:n<900000)(p:Ek ks m h (.ref bN))(pv:Ek ks m' h v)(q:∀h',PS Γ (n+1) a h'->Wf k ks h' P):Wk k ks (cM (bY (aE m "sr_conflicts") "list" de (aA m' aD))) h P:=C.Ud hn (.inl rfl) (λc=>by kernel_rfl) p pv q
theorem PS.aiW(C:PS Γ n a h)(hn:n<900000)(p:Ek ks m h (.ref bN))(pv:Ek ks m' h v)(q:∀h',PS Γ (n+1) a h'->Wf k ks h' P):Wk k ks (cM (bY (aE m "rr_conflicts") "list" de (aA m' aD))) h P:=C.Ud hn (.inr rfl) (λc=>by kernel_rfl) p pv q
theorem PS.TU(C:PS Γ n a h)(A:gV Γ xs fa fp a)(c:Cells Γ xs fa fp h)(B:gV Γ (c4 xs y) (up1 fa y w) (up1 fp y q) b)(l1:bj ks 9=some (.ref (fE Γ.st)))(l2:bj ks 10=some (.ref (hU Γ.st)))(l3:bj ks 12=some (a4 q))(kx:∀{h},Ek ks o h (sv y))(pw:Ek ks m h (.int w))(r:∀h',PS Γ n b h'->Wk k ks s h' P):Wk k ks (aB (aS (cu (an 9) o) m) (aB (aS (cu (an 10) o) (an 12)) s)) h P:=by
 have hl:∀{f:Sy->V},(rows xs f).length<=1000000:=nX.symm▸A.len C.L.gr
 exact c.a.elim λi1 e1=>c.p.elim λi2 e2=>a8 (kR pw (xk l1) kx e1 hl (fm y) λj1=>bi (a8 (kR (xk l3) (xk l2) kx (aW e2 (bw rfl)) hl (fm y) λj2=>bi (r _ (C.cell B A.nodup)))))
theorem PS.TV(C:PS Γ n a h)(A:gV Γ xs fa fp a)(c:Cells Γ xs fa fp h)(B:gV Γ (c4 xs y) (up1 fa y w) (up1 fp y q) b)(l1:bj ks 9=some (.ref (fE Γ.st)))(l2:bj ks 10=some (.ref (hU Γ.st)))(l3:bj ks 12=some (a4 q))(kx:∀{h},Ek ks o h (sv y))(pw:Ek ks m h (.int w))(r:∀h',PS Γ n b h'->Wf k ks h' P):Wk k ks (aB (aS (cu (an 9) o) m) (aS (cu (an 10) o) (an 12))) h P:=by
 have hl:∀{f:Sy->V},(rows xs f).length<=1000000:=nX.symm▸A.len C.L.gr
 exact c.a.elim λi1 e1=>c.p.elim λi2 e2=>a8 (kR pw (xk l1) kx e1 hl (fm y) λj1=>bi (kR (xk l3) (xk l2) kx (aW e2 (bw rfl)) hl (fm y) λj2=>r _ (C.cell B A.nodup)))
theorem t6{ix jx:Nat}{x y:V}(p:Ek ks m h (.tup [x,y]))(q:Wk k ((jx,y)::(ix,x)::ks) s h P)(hi:Nat.blt ix k=true:=by exact rfl)(hj:Nat.blt jx k=true:=by exact rfl):Wk k ks (aB (aS (iN 2 (dE (a5 ix) (dE (a5 jx) ib))) m) s) h P:=λg K=>p g K.at_ _ ⟨rfl,rfl,q _ ((K.set hi).set hj)⟩
theorem Eu{x y:Str}(p:Ek ks m h (.str x))(e:(x==y)=cc):Eb ks (aT .Eq m (bR y)) h cc:=fS p df λQ k=>.inl (.str (e.symm▸k))
end
noncomputable def JU:b6:=λ_ _ _=>False
noncomputable def QF:SW:=aB (aS (cu (an 9) (bR "$end")) (aM 0)) (aS (cu (an 10) (bR "$end")) (an 12))
noncomputable def adw:SW:=aB (a9 (du (gm (bE (an 17))) (du (gm (bE (an 19))) dI)) (cM (bY (aE (an 0) "sr_conflicts") "list" de (aA (eO (aA (an 7) (aA (an 14) (aA (bR "reduce") aD)))) aD))) aO) (q9 .Add (a3 (an 1) (aE (an 12) "number")) "reduced" (aM 1))
noncomputable def adE:SW:=aB (aS (cu (an 10) (an 14)) (an 12)) adw
noncomputable def adO:SW:=aB (aS (cu (an 9) (an 14)) (lm (aE (an 12) "number"))) adE
noncomputable def adX:SW:=aB (aS (iN 2 (dE (a5 18) (dE (a5 19) ib))) (aE (a3 (an 1) (aE (an 12) "number")) "prec")) (a9 (lB (aT .Lt (an 17) (an 19)) (lB (du (aT .Eq (an 17) (an 19)) (du (aT .Eq (an 18) (bR "left")) dI)) uQ)) adO (a9 (du (aT .Eq (an 17) (an 19)) (du (aT .Eq (an 18) (bR "nonassoc")) dI)) (aS (cu (an 9) (an 14)) i8) (a9 (gm (bE (an 19))) (cM (bY (aE (an 0) "sr_conflicts") "list" de (aA (eO (aA (an 7) (aA (an 14) (aA (bR "shift") aD)))) aD))) aO)))
noncomputable def QN:SW:=aB (aS (iN 2 (dE (a5 16) (dE (a5 17) ib))) (bY (an 2) "dict" eY (aA (an 14) (aA (eO (aA (bR "right") (aA (aM 0) aD))) aD)))) adX
noncomputable def adY:SW:=aB (q9 .Add (a3 (an 1) (aE (an 12) "number")) "reduced" (aM 1)) (q9 .Sub (a3 (an 1) (aE (an 20) "number")) "reduced" (aM 1))
noncomputable def adZ:SW:=aB (HP 22 23 (eO (aA (an 21) (aA (an 20) aD)))) adY
noncomputable def ad0:SW:=aB (aS (cu (an 10) (an 14)) (an 12)) adZ
noncomputable def ado:SW:=aB (aS (cu (an 9) (an 14)) (lm (aE (an 12) "number"))) ad0
noncomputable def adp:SW:=aB (a9 (aT .Gt (aE (an 20) "line") (aE (an 21) "line")) ado (HP 22 23 (eO (aA (an 20) (aA (an 21) aD))))) (cM (bY (aE (an 0) "rr_conflicts") "list" de (aA (eO (aA (an 7) (aA (an 22) (aA (an 23) aD)))) aD)))
noncomputable def adq:SW:=aB (aZ 21 (a3 (an 1) (aE (an 12) "number"))) adp
noncomputable def QG:SW:=aB (aZ 20 (a3 (an 1) (lm (an 15)))) adq
noncomputable def ads:SW:=aB (aS (cu (an 10) (an 14)) (an 12)) (q9 .Add (a3 (an 1) (aE (an 12) "number")) "reduced" (aM 1))
noncomputable def adt:SW:=aB (aS (cu (an 9) (an 14)) (lm (aE (an 12) "number"))) ads
noncomputable def QH:SW:=aB (aZ 15 (bY (an 9) "dict" eY (aA (an 14) aD))) (a9 (aT .IsNot (an 15) i8) (a9 (aT .Gt (an 15) (aM 0)) QN (a9 (aT .Lt (an 15) (aM 0)) QG jV)) adt)
noncomputable def QI:SW:=aB (a9 (aT .Eq (aE (an 0) "lr_method") (bR "LALR")) (aZ 13 (a3 (aE (an 12) "lookaheads") (an 7))) (aZ 13 (a3 (aE (aE (an 0) "grammar") "Follow") (aE (an 12) "name")))) (bX (bB (an 13)) false (a5 14) QH aO)
noncomputable def adu:SW:=aB (aS (cu (an 10) (an 14)) (an 12)) (a9 (gm (bE (an 19))) (cM (bY (aE (an 0) "sr_conflicts") "list" de (aA (eO (aA (an 7) (aA (an 14) (aA (bR "shift") aD)))) aD))) aO)
noncomputable def adv:SW:=aB (aS (cu (an 9) (an 14)) (an 26)) adu
noncomputable def adx:SW:=aB (q9 .Sub (a3 (an 1) (aE (a3 (an 10) (an 14)) "number")) "reduced" (aM 1)) adv
noncomputable def ady:SW:=aB (aS (iN 2 (dE (a5 18) (dE (a5 19) ib))) (aE (a3 (an 1) (aE (a3 (an 10) (an 14)) "number")) "prec")) (a9 (lB (aT .Gt (an 17) (an 19)) (lB (du (aT .Eq (an 17) (an 19)) (du (aT .Eq (an 18) (bR "right")) dI)) uQ)) adx (a9 (du (aT .Eq (an 17) (an 19)) (du (aT .Eq (an 18) (bR "nonassoc")) dI)) (aS (cu (an 9) (an 14)) i8) (a9 (du (gm (bE (an 17))) (du (gm (bE (an 19))) dI)) (cM (bY (aE (an 0) "sr_conflicts") "list" de (aA (eO (aA (an 7) (aA (an 14) (aA (bR "reduce") aD)))) aD))) aO)))
noncomputable def QJ:SW:=aB (aS (iN 2 (dE (a5 16) (dE (a5 17) ib))) (bY (an 2) "dict" eY (aA (an 14) (aA (eO (aA (bR "right") (aA (aM 0) aD))) aD)))) ady
noncomputable def adz:SW:=aB (aS (cu (an 9) (an 14)) (an 26)) (aS (cu (an 10) (an 14)) (an 12))
noncomputable def QK:SW:=aB (aZ 15 (bY (an 9) "dict" eY (aA (an 14) aD))) (a9 (aT .IsNot (an 15) i8) (a9 (aT .Gt (an 15) (aM 0)) (a9 (aT .NotEq (an 15) (an 26)) jV aO) (a9 (aT .Lt (an 15) (aM 0)) QJ jV)) adz)
noncomputable def adA:SW:=aB (aZ 26 (bY (aE (an 0) "lr0_cidhash") "dict" eY (aA (bv jG (aA (an 25) aD)) (aA (lm (aM 1)) aD)))) (a9 (aT .GtE (an 26) (aM 0)) QK aO)
noncomputable def adB:SW:=aB (aZ 25 (dw (an 0) "lr0_goto" .table mY (aA (an 8) (aA (an 14) aD)))) adA
noncomputable def adC:SW:=aB (aZ 14 (a3 (aE (an 12) "prod") (cR .Add (an 24) (aM 1)))) (a9 (aT .In (an 14) (aE (aE (an 0) "grammar") "Terminals")) adB aO)
noncomputable def QL:SW:=aB (aZ 24 (aE (an 12) "lr_index")) adC
noncomputable def adD:SW:=aB (aZ 26 (bY (aE (an 0) "lr0_cidhash") "dict" eY (aA (bv jG (aA (an 25) aD)) (aA (lm (aM 1)) aD)))) (a9 (aT .GtE (an 26) (aM 0)) (aS (cu (an 11) (an 30)) (an 26)) aO)
noncomputable def GN:SW:=aB (aZ 25 (dw (an 0) "lr0_goto" .table mY (aA (an 8) (aA (an 30) aD)))) adD
noncomputable def adF:SW:=aB (aS (cu (an 3) (an 7)) (an 11)) (tL .Add 7 (aM 1))
noncomputable def adG:SW:=aB (aS (cu (an 5) (an 7)) (an 10)) adF
noncomputable def adH:SW:=aB (aS (cu (an 4) (an 7)) (an 9)) adG
noncomputable def adI:SW:=aB (bX (bB (an 27)) false (a5 30) GN aO) adH
noncomputable def QV:SW:=bX (bB (an 8)) false (a5 28) (bX (bB (aE (an 28) "usyms")) false (a5 29) (a9 (aT .In (an 29) (aE (aE (an 0) "grammar") "Nonterminals")) (aS (cu (an 27) (an 29)) i8) aO) aO) aO
noncomputable def adJ:SW:=aB QV adI
noncomputable def adK:SW:=aB (aZ 27 fz) adJ
noncomputable def QU:SW:=a9 (aT .Eq (aE (an 12) "len") (cR .Add (aE (an 12) "lr_index") (aM 1))) (a9 (aT .Eq (aE (an 12) "name") (bR "S'")) QF QI) QL
noncomputable def adL:SW:=aB (bX (bB (an 8)) false (a5 12) QU aO) adK
noncomputable def adM:SW:=aB (aZ 11 fz) adL
noncomputable def adN:SW:=aB (aZ 10 fz) adM
noncomputable def QM:SW:=aB (aZ 9 fz) adN
noncomputable def adP:SW:=aB (aZ 7 (aM 0)) (bX (bB (an 6)) false (a5 8) QM aO)
noncomputable def adQ:SW:=aB (a9 (aT .Eq (aE (an 0) "lr_method") (bR "LALR")) (cM (dw (an 0) "add_lalr_lookaheads" .table JU (aA (an 6) aD))) aO) adP
noncomputable def adR:SW:=aB (aZ 6 (dw (an 0) "lr0_items" .table CK aD)) adQ
noncomputable def adS:SW:=aB (aZ 5 fz) adR
noncomputable def adT:SW:=aB (aZ 4 (aE (an 0) "lr_action")) adS
noncomputable def adU:SW:=aB (aZ 3 (aE (an 0) "lr_goto")) adT
noncomputable def adV:SW:=aB (aZ 2 (aE (aE (an 0) "grammar") "Precedence")) adU
noncomputable def adW:SW:=aB (aZ 1 (aE (aE (an 0) "grammar") "Productions")) adV
noncomputable def QE:SW:=adW
noncomputable def gf(Γ:Px):Ks:=[(11,.ref (hH Γ.st)),(10,.ref (hU Γ.st)),(9,.ref (fE Γ.st)),(8,bA Γ.nI),(7,.int Γ.st),(6,.ref cL),(5,.ref (lb 47)),(4,.ref (lb 31)),(3,.ref (lb 32)),(2,.ref qb),(1,.ref gw),(0,.ref bN)]
noncomputable abbrev tI(Γ:Px)(t:Sy)(p:It):Ks:=(14,sv t)::(12,a4 p)::gf Γ
structure iY(Γ:Px):Prop where
 un:d9 Γ
 hY:∀x∈bL Γ.R,(Γ.Fo x).Nodup/\∀t∈Γ.Fo x,t∈cH::Γ.T
 top:iO∉bL Γ.R
 acc:∀I∈Γ.fc,((0,1):It)∈I->∀p∈I,p=(0,1)
 wl:∀I∈Γ.fc,I.length<=Γ.w
 sE:Γ.fc.length*(Γ.w*(Γ.T.length+1))<=800000
noncomputable abbrev pC(Γ:Px)(n:Nat)(a:ak)(ks:Ks)(P:Pt):Prop:=∀h',PS Γ n a h'->Wf 33 ks h' P
inductive PL(Γ:Px)(n:Nat)(a:ak)(p:It)(r:ai):Ks->H->Prop
 |mk{h:H}:PS Γ (n+r.length) a h->PL Γ n a p r ((12,a4 p)::gf Γ) h
section
variable{Γ:Px}{b:ak}{t:Sy}{fa:Sy->Int}{fp:Sy->It}{w:Int}{R:List aH}{f:Sy->V}
theorem LB.y8(L:LB T R S h)(p:Ek ks m h (.ref qb))(q:Ek ks m' h (sv t)):Ek ks (bY m "dict" eY (aA m' (aA (eO (aA (bR "right") (aA (aM 0) aD))) aD))) h (.tup [.str "right",.int 0]):=L.G.pr.casesOn λe=>UD p (eE q (j4 (eE df bF))) e (fm t) rfl
theorem PS.y8(C:PS Γ n a h)(p:Ek ks m h (cq i))(hi:i<=Γ.R.length):Ek ks (aE m "prec") h (.tup [.str "right",.int 0]):=(w7 (S:=Γ.S) hi).elim λx z=>z.elim λb e=>C.M.I.A.mR p e (by kernel_rfl)
theorem PS.UI(C:PS Γ n a h)(p:Ek ks m h (cq i))(hi:i<=Γ.R.length):Ek ks (aE m "line") h (.int 0):=(w7 (S:=Γ.S) hi).elim λx z=>z.elim λb e=>C.M.I.A.mR p e (by kernel_rfl)
theorem PS.wa(C:PS Γ n a h)(l1:bj ks 1=some (.ref gw))(q:Ek ks m h (a4 p))(o:Γ.ok p):Ek ks (a3 (an 1) (aE m "number")) h (cq p.1):=C.L.wb (xk l1) (C.L.Cj q o) o.le
theorem afY(C:PS Γ n a h)(o:Γ.ok p)(hn:n<900000)(q:pC Γ (n+1) a (tI Γ t p) P):Wk 33 (tI Γ t p) QN h P:=
 t6 (C.L.y8 (xk rfl) (xk rfl))<|t6 (C.y8 (C.wa rfl (xk rfl) o) o.le)<|
 dy (xe (qK (x:=0) (y:=0) (xk rfl) (xk rfl) rfl) (xe (hV (kD (x:=0) (y:=0) (xk rfl) (xk rfl) rfl) (lZ (Eu (x:="right") (xk rfl) (by decide+kernel)))) Ml))<|
 dy (hV (kD (x:=0) (y:=0) (xk rfl) (xk rfl) rfl) (lZ (Eu (x:="right") (xk rfl) (by decide+kernel))))<|cX (gb (Ac (x:=0) (xk rfl) rfl) rfl)<|
 C.Uc hn (xk rfl) (j4 (kS (xk rfl) (eE (xk rfl) df))) λh' C'=>(q h' C').sub rfl
theorem afQ(C:PS Γ n a h)(hj:j<=Γ.R.length)(o:Γ.ok p)(hn:n<900000)(q:pC Γ (n+1) a (tI Γ t p) P):Wk 33 ((15,.int (-(j:Int)))::tI Γ t p) QG h P:=
 dC (C.L.wb (xk rfl) (UN (x:= -(j:Int)) (xk rfl) (Int.neg_neg _)) hj)<|dC (C.wa rfl (xk rfl) o)<|
 a8<|dy (nE (x:=0) (y:=0) (C.UI (xk rfl) hj) (C.UI (xk rfl) o.le) rfl)<|aiY (j4 (eE (xk rfl) (xk rfl)))<|bi<|
 C.aiW hn (xk rfl) (j4 (kS (xk rfl) (eE (xk rfl) (xk rfl)))) λh' C'=>(q h' C').sub rfl
theorem Cells.qm(c:Cells Γ xs fa fp h)(p:Ek ks m h (.ref (fE Γ.st)))(q:Ek ks m' h (sv y))(e:(cg (rows xs λy=>V.int (fa y)) (sv y)).getD .none=v):Ek ks (bY m "dict" eY (aA m' aD)) h v:=c.a.elim λi e'=>Mine.qm p q e' (fm y) e
theorem O'(m:y∈xs):(cg (rows xs f) (sv y)).getD .none=f y:=au (Option.getD · .none) (tJ m)
theorem Pa(m:y∉xs):(cg (rows xs f) (sv y)).getD .none= .none:=au (Option.getD · .none) (yH m)
theorem afR(D:iY Γ)(C:PS Γ n a h)(mI:Γ.I∈Γ.fc)(hp:p∈Γ.I)(o:Γ.ok p)(h1:1<=p.1)(ht:t∈cH::Γ.T)(hn:n<900000)(q:pC Γ (n+1) a (tI Γ t p) P):Wk 33 (tI Γ t p) QH h P:=by
 refine C.act.casesOn λ{xs fa fp} A c=>(aN (t∈xs)).elim (λm=>dC (c.qm (xk rfl) (xk rfl) (O' m)) (cX (Ad (xk rfl) rfl) ?_)) λm=>dC (c.qm (xk rfl) (xk rfl) (Pa m)) (dy (Ad (xk rfl) rfl) ?_)
 ·have hc:=A.c t m
  generalize fa t=w at hc⊢
  cases hc with
  | @neg j j1 j2=>exact dy (nE (xk rfl) bF (cQ (jI.2 (Kf (gx j))))) (cX (qK (xk rfl) bF (cE (Int.neg_neg_of_pos (iW.2 j1)))) (afQ C j2 o hn q))
  |zero z=>exact absurd (D.acc Γ.I mI z p hp) λz=>absurd (z▸h1) (by decide)
  |pos j0=>exact cX (nE (xk rfl) bF (cE (iW.2 j0))) ((afY C o hn q).sub rfl)
 ·exact C.TU A c (A.put (y:=t) (q:=p) (w:= -(p.1:Int)) ht o (.neg h1 o.le) λp' OA hT e'=>absurd (A.all p' OA t hT e').1 m) rfl rfl rfl (xk rfl) (UN (C.L.Cj (xk rfl) o) rfl) λh' C'=>
   C'.T9 (C'.wa rfl (xk rfl) o) o.le (λh2 C2=>(q h2 (C2.le (jj n))).sub rfl) (.inl rfl)
theorem afS(D:iY Γ)(C:PS Γ n a h)(mI:Γ.I∈Γ.fc)(hp:(i,j)∈Γ.I)(e:(cY Γ.S Γ.R)[i]?=some (x,ys))(hj:j<=ys.length)(nx:Γ.nx (i,j)=none)(hx:x∈bL Γ.R)(h1:1<=i)(hn:n+(Γ.T.length+1)<=900000)
 (q:pC Γ (n+(Γ.T.length+1)) (a++[(i,j)]) (gf Γ) P):Wk 33 ((12,a4 (i,j))::gf Γ) QI h P:=by
 have hk:=C.L.gr.a7.mpr hx
 have fl:=mH (D.hY x hx).1 (D.hY x hx).2
 refine C.fo.d.elim λi3 e3=>a8 (dy (C.tb.Mo (xk rfl)) (lF (lJ (f:=λx=>.ref (gp x)) (rF (C.tb.mP (xk rfl)) C.L.G.g) (C.L.UM (xk rfl) e hj) e3 hk) (bi
  (fB (xs:=Γ.Fo x) (f:=sv) (Inv:=PL Γ n a (i,j)) (xk rfl) (λr ks h J=>J.casesOn λC=>C.fo.get hk) (.mk (r:=[]) C) (λr t s ks h er J P' tt=>J.casesOn λC=>?_) λks h J=>J.casesOn λC=>bf ((q _ ((C.le (eV fl n)).snoc λy _ e=>cK e nx)).sub rfl)))))
 exact(afR D C mI hp (.mk e hj) h1 ((D.hY x hx).2 t (er▸cD _ (.head _))) (dD (KH (dD (mid er).2 fl) n) hn) λh' C'=>tt.nx (.mk (cw (as:=r) (bs:=[t])▸C')) rfl).sub rfl
end
noncomputable abbrev SY(Γ:Px)(y:Sy)(p:It)(j:Nat):Ks:=(26,.int j)::tI Γ y p
inductive J8(Γ:Px)(I:ak)(y:Sy):Prop
 |mk{j:Nat}:0<j->Γ.Cs[j]?=some (bQ Γ.S Γ.R I y)->cg (gn Γ.Cs) (d7 (bQ Γ.S Γ.R I y))=some (.int j)->J8 Γ I y
section
variable{R:List aH}{Γ:Px}{b:ak}{t:Sy}{fa:Sy->Int}{fp:Sy->It}{w:Int}
theorem afP(C:PS Γ n a h)(hp:(0,1)∈Γ.I)(q:pC Γ n (a++[(0,1)]) (gf Γ) P):Wk 33 ((12,a4 (0,1))::gf Γ) QF h P:=C.act.casesOn λA c=>
 C.TV A c (A.put (y:=cH) (q:=(0,1)) (w:=0) (.head _) (.mk (x:=iO) (b:=[Γ.S]) rfl (cB 1)) (.zero hp) λp' OA hT e'=>absurd hT C.L.gr.fin) rfl rfl rfl df bF λh' C'=>(q h' (C'.snoc λy _ e=>Option.noConfusion rfl (heq_of_eq ((mF (S:=Γ.S) (R:=Γ.R) (i:=0) (j:=1) (x:=iO) (b:=[Γ.S]) rfl).symm.trans e)))).sub rfl
theorem YX:bQ S R I x≠di S R [(0,0)]:=λe=>by
 have h0:((0,0):It)∈bQ S R I x:=e.symm▸eM _ (.head _)
 exact(bO.1 h0).elim (λz=>(bg.1 z).elim λq z=>wH _ (au Prod.snd z.2)) λz=>(bg.1 z).elim λi z=>by
  cases(au Prod.fst z.2:i=0)
  exact zQ 0 ((nG (S:=S) (R:=R) (I:=fj S R I x)).ok.r 0 z.1).1
theorem YY(hp:(i,j)∈I)(e:gu S R (i,j)=some y):bQ S R I y≠[]:=λz=>by
 have m:(i,j+1)∈bQ S R I y:=eM _ (bg.2 ⟨(i,j),fC.2 ⟨hp,cE e⟩,rfl⟩)
 exact a0 (z▸m)
theorem gV.shift(A:gV Γ xs fa fp a)(hy:y∈Γ.T)(o:Γ.ok p)(e:Γ.nx p=some y)(ej:Γ.Cs[j]?=some (Γ.go y))(j0:0<j)(ne:Γ.go y≠[]):gV Γ (c4 xs y) (up1 fa y (j:Int)) (up1 fp y p) (a++[p]):=
 (A.put (.tail _ hy) o (.pos j0 ej ne) λ_ _ _ _=>iW.2 j0).snoc λz hz e'=>by
  cases bc (e.symm.trans e')
  exact⟨fU.mpr (.inr rfl),rA (f:=fa)▸iW.2 j0⟩
theorem Cells.wa(c:Cells Γ xs fa fp h)(A:gV Γ xs fa fp a)(L:LB Γ.T Γ.R Γ.S h)(m:y∈xs)(l0:bj ks 1=some (.ref gw))(l1:bj ks 10=some (.ref (hU Γ.st)))(l2:bj ks 14=some (sv y)):Ek ks (a3 (an 1) (aE (a3 (an 10) (an 14)) "number")) h (cq (fp y).1):=c.p.elim λi e=>L.wb (xk l0) (L.Cj (lJ (f:=λy=>a4 (fp y)) (xk l1) (xk l2) e m) (A.it y m)) (A.it y m).le
theorem afT(C:PS Γ n a h)(A:gV Γ xs fa fp a)(c:Cells Γ xs fa fp h)(hy:y∈Γ.T)(m:y∈xs)(o:Γ.ok p)(e:Γ.nx p=some y)(ej:Γ.Cs[j]?=some (Γ.go y))(j0:0<j)(ne:Γ.go y≠[])(hn:n<900000)(q:pC Γ (n+1) (a++[p]) (gf Γ) P):Wk 33 (SY Γ y p j) QJ h P:=
 t6 (C.L.y8 (xk rfl) (xk rfl)) (t6 (C.y8 (c.wa A C.L m rfl rfl rfl) (A.it y m).le)
  (cX (xe (nE (x:=0) (y:=0) (xk rfl) (xk rfl) rfl) (Et (hV (kD (x:=0) (y:=0) (xk rfl) (xk rfl) rfl) (hV (Eu (x:="right") (xk rfl) (by decide+kernel)) kE)))) (a8 (C.T9 (c.wa A C.L m rfl rfl rfl) (A.it y m).le (λh1 C1=>bi (C1.act.casesOn λA c=>
   C1.TU A c (A.shift hy o e ej j0 ne) rfl rfl rfl (xk rfl) (xk rfl) λh2 C2=>cX (gb (Ac (x:=0) (xk rfl) rfl) rfl) (C2.Uc hn (xk rfl) (j4 (kS (xk rfl) (eE (xk rfl) df))) λh' C'=>(q h' C').sub rfl))) (.inr rfl)))))
theorem j8.uc(M:Γ.M h)(p:Ek ks m h (.ref bN))(q:Ek ks m' h v)(w:GV h v J)(mJ:J∈Γ.fc)(un:d9 Γ):Ex ks (bY (aE m "lr0_cidhash") "dict" eY (aA (bv jG (aA m' aD)) (aA (lm (aM 1)) aD))) h λv h'=>v=(cg (gn Γ.Cs) (d7 J)).getD (.int (-1))/\Ext h h':=M.I.kF.elim λi ei g K Q z=>by
 have fin:∀h',Ext h h'->(aA (lm (aM 1)) aD) g h' λvs aU=>eY (.ref (lb 34)::d7 J::vs) aU Q:=λh' X=>.mk (.got (.three ((X.at_ _ _ rfl).trans ei) FL (z _ h' ⟨rfl,X⟩)))
 refine M.I.A.tb.uc p g K _ ⟨.aF ei,q g K _ ?_⟩
 cases w with
 |no=>exact .none (fin h .refl)
 |lst e=>exact .mk e (λp hp=>M.I.A.L.itemAt (un.ok J mJ p hp)) (aw (un.len J mJ) (by decide)) fin
theorem Fc(M:Γ.M h)(mC:I∈Γ.Cs)(ne:bQ Γ.S Γ.R I y≠[]):J8 Γ I y:=(jL.1 (M.ff I mC y ne)).elim λj ej=>.mk (KO λz=>YX (bc ((z▸ej).symm.trans M.I.gT))) ej (MH M.I.nodup ej)
theorem afU(D:iY Γ)(C:PS Γ n a h)(mI:Γ.I∈Γ.fc)(hp:p∈Γ.I)(hy:y∈Γ.T)(o:Γ.ok p)(e:Γ.nx p=some y)(ej:Γ.Cs[j]?=some (Γ.go y))(j0:0<j)(ne:Γ.go y≠[])(hn:n<900000)(q:pC Γ (n+1) (a++[p]) (gf Γ) P):Wk 33 (SY Γ y p j) QK h P:=by
 refine C.act.casesOn λ{xs fa fp} A c=>(aN (y∈xs)).elim (λm=>dC (c.qm (xk rfl) (xk rfl) (O' m)) (cX (Ad (xk rfl) rfl) ?_)) λm=>dC (c.qm (xk rfl) (xk rfl) (Pa m)) (dy (Ad (xk rfl) rfl) (C.TV A c (A.shift hy o e ej j0 ne) rfl rfl rfl (xk rfl) (xk rfl) λh' C'=>(q h' (C'.le (jj n))).sub rfl))
 have hc:=A.c y m
 have ps:0<fa y->PS Γ n (a++[p]) h:=λz1=>C.re (.mk (A.snoc λz hz w=>by cases bc (e.symm.trans w);exact⟨m,z1⟩) c)
 generalize fa y=w at hc ps⊢
 cases hc with
 | @neg i j1 j2=>exact dy (nE (xk rfl) bF (cQ (jI.2 (Kf (gx i))))) (cX (qK (xk rfl) bF (cE (Int.neg_neg_of_pos (iW.2 j1)))) ((afT C A c hy m o e ej j0 ne hn q).sub rfl))
 |zero z=>
  cases D.acc Γ.I mI z p hp
  exact cK e (mF (S:=Γ.S) (R:=Γ.R) (i:=0) (j:=1) (x:=iO) (b:=[Γ.S]) rfl)
 | @pos j' k0 xy=>
  cases(wr (cm.1 xy).1 C.M.I.nodup).mp (xy.trans ej.symm)
  exact cX (nE (xk rfl) bF (cE (iW.2 k0))) (dy (Wl (xk rfl) (xk rfl) (au Bool.not (iF _))) (bf ((q h ((ps (iW.2 k0)).le (jj n))).sub rfl)))
theorem afV(D:iY Γ)(C:PS Γ n a h)(e0:Γ.av (.ay Γ.nI)=some (.lst (Γ.I.map a4)))(mC:Γ.I∈Γ.Cs)(hp:(i,j)∈Γ.I)(o:Γ.ok (i,j))(e:Γ.nx (i,j)=some y)(hn:n<900000)(q:pC Γ (n+1) (a++[(i,j)]) (gf Γ) P):Wk 33 ((12,a4 (i,j))::gf Γ) QL h P:=by
 have mI:=C.M.I.sub Γ.I mC
 refine dC (C.L.ue (xk rfl) o) (dC (C.L.UO (p:=(i,j)) (xk rfl) (rD (xk rfl) bF rfl) o e) ((aN (y∈Γ.T)).elim (λhT=>?_) λhT=>dy (C.L.Ev (xk rfl) (C.tb.mP (xk rfl)) (cQ hT)) (bf ((q h ((C.snoc λy' hy z=>hT (bc (e.symm.trans z)▸hy)).le (jj n))).sub rfl))))
 have ne:=YY hp e
 refine cX (C.L.Ev (xk rfl) (C.tb.mP (xk rfl)) (cE hT)) (dO (D.un.ud C.M.I.A (xk rfl) (eE (xk rfl) (xk rfl)) (C.fr.old e0) mI (vE e)) λv h1 G=>?_)
 have C1:=C.goto G.A G.fr
 refine(Fc C1.M mC ne).casesOn λ{j'} j0 ej lj=>dO (C1.M.uc (xk rfl) (xk rfl) G.gv (D.un.step Γ.I mI _) D.un) λv2 h2 z=>?_
 have ev:=z.1.trans (au (Option.getD · (.int (-1))) lj)
 cases ev
 exact cX (xc (x:=(j':Int)) (xk rfl) bF (cE (gx j'))) ((afU D (C1.ext z.2) mI hp hT o e ej j0 ne hn q).sub rfl)
end
section
variable{Γ:Px}
theorem afZ(D:iY Γ)(C:PS Γ n a h)(e0:Γ.av (.ay Γ.nI)=some (.lst (Γ.I.map a4)))(mC:Γ.I∈Γ.Cs)(hp:p∈Γ.I)(hn:n+(Γ.T.length+1)<=900000)(q:pC Γ (n+(Γ.T.length+1)) (a++[p]) (gf Γ) P):Wk 33 ((12,a4 p)::gf Γ) QU h P:=by
 have mI:=C.M.I.sub Γ.I mC
 have o:=D.un.ok Γ.I mI p hp
 have lt:n<900000:=dD (DA (iA _)) hn
 cases id o with
 | @mk i j x b e hj=>
  have nx:Γ.nx (i,j)=b[j]?:=mF e
  have cl:∀{z:Bool},(((b.length:Int)+1)==((j:Int)+1))=z->Eb ((12,a4 (i,j))::gf Γ) (aT .Eq (aE (an 12) "len") (cR .Add (aE (an 12) "lr_index") (aM 1))) h z:=λz=>kD (C.L.UF (xk rfl) e hj) (rD (C.L.ue (p:=(i,j)) (xk rfl) o) bF rfl) z
  refine(lR j b.length).elim (λjw=>dy (cl (nF.2 λz=>jk jw (zR (jJ z)))) (afV D C e0 mC hp o (nx.trans (fu jw)) lt λh' C'=>q h' (C'.le (eV (cS (bH _)) n)))) λAE=>?_
  cases iz hj AE
  have nm:∀{w:Bool},decide (x=iO)=w->Eb ((12,a4 (i,b.length))::gf Γ) (aT .Eq (aE (an 12) "name") (bR "S'")) h w:=λw=>ow (y:=iO) (C.L.UM (xk rfl) e hj) df w
  refine cX (cl (iF _)) ?_
  cases i with
  |zero=>
   cases e
   exact cX (nm (cE rfl)) (afP C hp λh' C'=>q h' (C'.le (jh _ _)))
  |succ i=>
   have hx:x∈bL Γ.R:=iK.mpr ⟨_,cP e,rfl⟩
   exact dy (nm (cQ λw=>D.top (w▸hx))) (afS D C mI hp e hj (nx.trans (Dk (cB _))) hx (iA _) hn q)
end
structure NK(T:ai)(R:List aH)(S:Sy)(d:Nat)(av:H)(I:ak)(xs:ai)(h:H):Prop where
 nodup:xs.Nodup
 d:∃i,h (.ay d)=some (.aF (rows xs λ_=>.none) i)
 sub:∀y∈xs,jn S R y/\y∈a7 T R
 all:∀p∈I,∀y∈gc S R p.1,y∈a7 T R->y∈xs
 fr:aC [] av h
structure Vq(T:ai)(R:List aH)(d:Nat)(av:H)(xs b ys:ai)(h:H):Prop where
 nodup:ys.Nodup
 d:∃i,h (.ay d)=some (.aF (rows ys λ_=>.none) i)
 mem:∀y,y∈ys↔y∈xs\/(y∈b/\y∈a7 T R)
 fr:aC [] av h
noncomputable abbrev yr(Γ:Px)(d:Nat):Ks:=(27,.ref (.ay d))::gf Γ
inductive NI(Γ:Px)(d:Nat)(av:H)(a:ak):Ks->H->Prop
 |mk{xs:ai}{h:H}:NK Γ.T Γ.R Γ.S d av a xs h->NI Γ d av a (yr Γ d) h
inductive NJ(Γ:Px)(d:Nat)(av:H)(xs b:ai):Ks->H->Prop
 |mk{ys:ai}{h:H}:Vq Γ.T Γ.R d av xs b ys h->NJ Γ d av xs b (yr Γ d) h
structure rR(Γ:Px)(xs:ai)(fg:Sy->Nat)(b:ai):Prop where
 nodup:xs.Nodup
 sub:∀y∈xs,y∈b
 at_:∀y∈xs,Γ.Cs[fg y]?=some (Γ.go y)/\Γ.go y≠[]
 all:∀y∈b,Γ.go y≠[]->y∈xs
inductive C6(Γ:Px)(b:ai)(h:H):Prop
 |mk{xs:ai}{fg:Sy->Nat}{i:Nat}:rR Γ xs fg b->h (hH Γ.st)=some (.aF (rows xs λy=>.int (fg y:Nat)) i)->C6 Γ b h
structure PG(Γ:Px)(hb:H)(b:ai)(h:H):Prop where
 M:Γ.M h
 G:C6 Γ b h
 fr:aC (d6++[46]) hb h
 fA:∀i,i≠Γ.st->h (hH i)=hb (hH i)
inductive K4(Γ:Px)(hb:H)(b:ai):Ks->H->Prop
 |mk{h:H}:PG Γ hb b h->K4 Γ hb b (gf Γ) h
section
variable{R:List aH}{Γ:Px}{av hb hc:H}{t:Sy}{fg:Sy->Nat}
theorem RH(G:Gr T R)(n:xs.Nodup)(w:∀y∈xs,y∈a7 T R):xs.length<=100:=aw (mH n w) (aw G.vI (aw G.rl (by decide)))
theorem rR.put(A:rR Γ xs fg b)(ej:Γ.Cs[j]?=some (Γ.go y))(ne:Γ.go y≠[]):rR Γ (c4 xs y) (up1 fg y j) (b++[y]):=⟨sw A.nodup,λz m=>bO.2 ((fU.mp m).imp (A.sub z) a6.2),λz m=>(aN (z=y)).elim (λe=>by rw [e,rA];exact⟨ej,ne⟩) λe=>by rw [tZ e];exact A.at_ z ((fU.mp m).resolve_right e),λz m w=>fU.mpr ((bO.1 m).imp (λm=>A.all z m w) a6.1)⟩
theorem rR.skip(A:rR Γ xs fg b)(e:Γ.go y=[]):rR Γ xs fg (b++[y]):=⟨A.nodup,λz m=>eM _ (A.sub z m),A.at_,λz m w=>(bO.1 m).elim (λm=>A.all z m w) λm=>absurd (a6.1 m▸e) w⟩
theorem afW(D:iY Γ)(C:PG Γ hb b h)(el:hb (.ay Γ.nI)=some (.lst (Γ.I.map a4)))(mC:Γ.I∈Γ.Cs)(sy:jn Γ.S Γ.R y)(bl:b.length<=1000)(q:∀h',PG Γ hb (b++[y]) h'->Wf 33 (gf Γ) h' P):Wk 33 ((30,sv y)::gf Γ) GN h P:=by
 have mI:=C.M.I.sub Γ.I mC
 refine dO (D.un.ud C.M.I.A (xk rfl) (eE (xk rfl) (xk rfl)) (C.fr.old el) mI sy) λv h1 g=>?_
 have M1:=C.M.goto g.A g.fr
 refine dO (M1.uc (xk rfl) (xk rfl) g.gv (D.un.step Γ.I mI _) D.un) λv2 h2 z=>?_
 have M2:=M1.ext z.2
 have F2:aC d6 h h2:=g.fr.trans (.of z.2)
 refine C.G.casesOn λ{xs fg i} A e0=>?_
 have e:=(F2.at_ _ _ rfl).trans e0
 have o2:∀i,i≠Γ.st->h2 (hH i)=hb (hH i):=λi ne=>(F2.at_ _ _ rfl).trans (C.fA i ne)
 refine(aN (Γ.go y=[])).elim (λne=>?_) λne=>(Fc M1 mC ne).casesOn λ{j} j0 ej lj=>?_
 ·have ev:=z.1.trans (au (Option.getD · (.int (-1))) ((au (λJ=>cg (gn Γ.Cs) (d7 J)) ne).trans (MK M1.I.ne)))
  cases ev
  exact dy (xc (x:= -1) (xk rfl) bF rfl) (bf ((q h2 ⟨M2,.mk (A.skip ne) e,C.fr.trans (F2.wide rfl),o2⟩).sub rfl))
 ·have ev:=z.1.trans (au (Option.getD · (.int (-1))) lj)
  cases ev
  refine cX (xc (x:=(j:Int)) (xk rfl) bF (cE (gx j))) (kR (v:=.int (j:Int)) (xk rfl) (xk rfl) (xk (v:=sv y) rfl) e (aw (aL nX) (aw (mH A.nodup A.sub) (aw bl (by decide)))) (fm y) λi'=>?_)
  rw [HL (f':=λz=>.int (up1 fg y j z:Nat)) A.nodup (congrArg (λn:Nat=>V.int n) rA) λz _ e=>congrArg (λn:Nat=>V.int n) (tZ e)]
  exact(q _ ⟨M2.old (bC.upd rfl) λz=>aW z dB,.mk (A.put ej ne) H.aJ,(C.fr.trans (F2.wide rfl)).upd rfl,λi ne'=>(H.bp (kK ne')).trans (o2 i ne')⟩).sub rfl
theorem af0(D:iY Γ)(M:Γ.M h)(e:h (hH Γ.st)=some (.aF [] 0))(el:h (.ay Γ.nI)=some (.lst (Γ.I.map a4)))(mC:Γ.I∈Γ.Cs)(N:NK Γ.T Γ.R Γ.S d hc Γ.I xs h)(kl:xs.length<=1000)(q:∀h',PG Γ h xs h'->Wf 33 (gf Γ) h' P):Wk 33 (yr Γ d) (bX (bB (an 27)) false (a5 30) GN aO) h P:=
 N.d.elim λi ed=>v0 (xs:=xs) (bJ:=gf Γ) (Inv:=K4 Γ h) (xk rfl) ed (λa ks h' J=>J.casesOn λC=>(C.fr.old ed).trans ed.symm) (.mk ⟨M,.mk (fg:=λ_=>0) ⟨jg,λ_ z=>absurd z a0,λ_ z=>absurd z a0,λ_ z=>absurd z a0⟩ e,.refl,λ_ _=>rfl⟩) (λa y r ks h' ea J P' t=>J.casesOn λC=>afW D C el mC (N.sub y (ea▸cD _ (.head _))).1 (aw (cN (mid ea).2) kl) λh2 C2=>t.nx (.mk C2) rfl) λks h' J=>J.casesOn λC=>bf (q _ C)
end
section
variable{Γ:Px}{av:H}
theorem af1(L:LB Γ.T Γ.R Γ.S av)(tb:∀{h},Ext av h->fR h)(hd:av (.ay d)=none)(el:av (.ay Γ.nI)=some (.lst (Γ.I.map a4)))(ok:∀p∈Γ.I,Γ.ok p)(q:∀h' xs,NK Γ.T Γ.R Γ.S d av Γ.I xs h'->Wf 33 (yr Γ d) h' P):Wk 33 (yr Γ d) QV (av.upd (.ay d) (.aF [] 0)) P:=by
 refine fB (xs:=Γ.I) (f:=a4) (Inv:=NI Γ d av) (xk rfl) (λa ks h J=>J.casesOn λA=>A.fr.old el) (.mk (xs:=[]) ⟨jg,⟨0,H.aJ⟩,λ_ z=>absurd z a0,λ_ z=>absurd z a0,aC.refl.new hd⟩) (λa p r ks h ea J P' t=>J.casesOn λ{xs h} A=>?_) λks h J=>J.casesOn λA=>bf (q _ _ A)
 have op:=ok p (ea▸cD _ (.head _))
 refine fB (xs:=once [] (gc Γ.S Γ.R p.1)) (f:=sv) (Inv:=NJ Γ d av xs) ((L.same (A.fr.same rfl)).UV (xk rfl) op) (λb ks h J=>J.casesOn λB=>(B.fr.at_ _ _ rfl).trans (L.us op)) (.mk ⟨A.nodup,A.d,λy=>⟨.inl,λz=>z.resolve_right λw=>absurd w.1 a0⟩,A.fr⟩) (λb y r' ks h eb J pD t2=>J.casesOn λ{ys h} B=>?_) λks h J=>J.casesOn λ{ys h} B=>bf (t.nx (.mk ⟨B.nodup,B.d,λy hy=>((B.mem y).mp hy).elim (A.sub y) λz=>⟨H2 ((vy.mp z.1).resolve_left a0),z.2⟩,λp' hp y hy hn=>(bO.1 hp).elim (λz=>(B.mem y).mpr (.inl (A.all p' z y hy hn))) λz=>(B.mem y).mpr (.inr ⟨vy.mpr (.inr (a6.1 z▸hy)),hn⟩),B.fr⟩) rfl)
 have L2:=L.same (B.fr.same rfl)
 refine n6 (p:=y∈a7 Γ.T Γ.R) (L2.Mq (xk rfl) ((tb B.fr).mP (xk rfl)) rfl) (λhy=>B.d.elim λi ed=>yY (f:=λ_=>.none) qo (xk rfl) (xk rfl) ed (aw (RH L.gr B.nodup λz hz=>((B.mem z).mp hz).elim (λw=>(A.sub z w).2) (·.2)) (by decide)) λi=>t2.nx (.mk ⟨sw B.nodup,⟨i,H.aJ⟩,λz=>?_,B.fr.ay hd⟩) rfl) λhy=>bf (t2.nx (.mk ⟨B.nodup,B.d,λz=>?_,B.fr⟩) rfl)
 ·rw [fU,B.mem,List.mem_append,List.mem_singleton]
  exact⟨λw=>w.elim (λw=>w.imp_right λw=>⟨.inl w.1,w.2⟩) λw=>.inr ⟨.inr w,w▸hy⟩,λw=>w.elim (λw=>.inl (.inl w)) λw=>w.1.elim (λu=>.inl (.inr ⟨u,w.2⟩)) .inr⟩
 ·rw [B.mem,List.mem_append,List.mem_singleton]
  exact⟨λw=>w.imp_right λw=>⟨.inl w.1,w.2⟩,λw=>w.imp_right λw=>⟨w.1.resolve_right λu=>hy (u▸w.2),w.2⟩⟩
end
structure Ll(Γ:Px)(I:ak)(ks:ai)(fa:Sy->Int):Prop where
 nodup:ks.Nodup
 pos:∀y∈ks,0<fa y->∃j:Nat,fa y=j/\Γ.Cs[j]?=some (bQ Γ.S Γ.R I y)/\bQ Γ.S Γ.R I y≠[]
 all:∀p∈I,∀y∈Γ.T,Γ.nx p=some y->y∈ks/\0<fa y
structure J2(Γ:Px)(I:ak)(ks:ai)(fg:Sy->Nat):Prop where
 nodup:ks.Nodup
 at_:∀y∈ks,Γ.Cs[fg y]?=some (bQ Γ.S Γ.R I y)/\bQ Γ.S Γ.R I y≠[]
 all:∀y∈a7 Γ.T Γ.R,bQ Γ.S Γ.R I y≠[]->y∈ks
inductive qE(Γ:Px)(st:Nat)(I:ak)(h:H):Prop
 |mk{ks xs:ai}{fa:Sy->Int}{fg:Sy->Nat}{i j:Nat}:Ll Γ I ks fa->h (fE st)=some (.aF (rows ks λy=>.int (fa y)) i)->J2 Γ I xs fg->h (hH st)=some (.aF (rows xs λy=>.int (fg y:Nat)) j)->qE Γ st I h
noncomputable abbrev yv(f:Nat->L)(k:Nat):af:=p8 (λj:Nat=>V.int j) (λj=>.ref (f j)) (List.range k)
noncomputable def nh(t:Nat)(f:Nat->L)(k:Nat)(h:H):Prop:=∃i,h (lb t)=some (.aF (yv f k) i)
noncomputable abbrev afF:List Nat:=kJ++[35,36,44,45,46,31,32,47]
noncomputable abbrev Px.cf(Γ:Px)(k:Nat):Nat:=k*(Γ.w*(Γ.T.length+1))
structure PO(Γ:Px)(k:Nat)(h:H):Prop where
 M:Γ.M h
 fo:Tab 15 16 (a7 Γ.T Γ.R) Γ.Fo h
 row:∀st I,st<k->Γ.Cs[st]?=some I->qE Γ st I h
 free:∀{t} st,ca t [44,45,46]=true->k<=st->h (li t st)=none
 d1:nh 31 fE k h
 d2:nh 47 hU k h
 d3:nh 32 hH k h
 sr:Told (Γ.cf k) 35 h
 rr:Told (Γ.cf k) 36 h
 fr:aC afF Γ.av h
noncomputable def vM(k:Nat):Ks:=[(7,.int k),(6,.ref cL),(5,.ref (lb 47)),(4,.ref (lb 31)),(3,.ref (lb 32)),(2,.ref qb),(1,.ref gw),(0,.ref bN)]
noncomputable abbrev Px.fI(Γ:Px)(k nI:Nat)(I:ak)(h:H):Px:={Γ with st:=k,nI:=nI,I:=I,av:=h}
section
variable{f:Nat->L}{nI:Nat}{Γ:Px}
theorem sV{a b:Nat}(e:V.int a=V.int b):a=b:=jJ (V.int.inj e)
theorem aeT:dS (yv f k) (.int (k:Nat)) (.ref (f k))=yv f (k+1):=(G7 (kf:=λj:Nat=>V.int j) (g:=λj=>.ref (f j)) (g':=λj=>.ref (f j)) sV List.not_mem_range_self λ_ _=>rfl).trans (au (p8 _ _) List.range_succ.symm)
theorem RI(h:j<k):cg (yv f k) (.int (j:Nat))=some (.ref (f j)):=qV (kf:=λj:Nat=>V.int j) (g:=λj=>.ref (f j)) sV (kZ.2 h)
theorem aeS:(yv f k).length=k:=(bx _).trans iw
theorem qE.at_{st:Nat}(r:qE Γ st I h)(e1:h' (fE st)=h (fE st))(e2:h' (hH st)=h (hH st)):qE Γ st I h':=r.casesOn λa b c d=>.mk a (e1.trans b) c (e2.trans d)
theorem Iu(D:nh t f k h)(hk:k<=900000)(l0:bj ks i=some (.ref (lb t)))(l1:bj ks j=some (.ref (f k)))(l2:bj ks 7=some (.int (k:Nat)))(q:∀h',aC [t] h h'->nh t f (k+1) h'->Wk n ks s h' P):Wk n ks (aB (aS (cu (an i) (an 7)) (an j)) s) h P:=D.elim λd e=>
 a8 (kR (xk l1) (xk l0) (xk l2) e (aeS.symm▸aw hk (by decide)) .int λj1=>bi (q _ (aC.refl.upd (fF.mpr (.head _))) ⟨j1,H.aJ.trans (au (λl=>some (O.aF l j1)) aeT)⟩))
theorem d9.fI(u:d9 Γ):d9 (Γ.fI k nI I h):=⟨u.gT,u.step,u.ok,u.len,u.u1,u.u2,u.ul,u.sl⟩
theorem j8.fI(M:Γ.M h):(Γ.fI k nI I h2).M h:=⟨⟨M.I.A,M.I.cl,M.I.st,M.I.kF,M.I.sub,M.I.nodup,M.I.ne,M.I.gT,M.I.oG⟩,M.ff⟩
theorem j8.un'(M:(Γ.fI k nI I h2).M h):Γ.M h:=⟨⟨M.I.A,M.I.cl,M.I.st,M.I.kF,M.I.sub,M.I.nodup,M.I.ne,M.I.gT,M.I.oG⟩,M.ff⟩
end
noncomputable def nc(h:H)(k:Nat):H:=((h.upd (fE k) (.aF [] 0)).upd (hU k) (.aF [] 0)).upd (hH k) (.aF [] 0)
noncomputable def Vx(k:Nat)(h h':H):Prop:=∀t i,ca t [44,45,46]=true->i≠k->h' (li t i)=h (li t i)
section
variable{nI:Nat}{Γ:Px}{av h1 h3 h4 h5 h6 h7 h8:H}
theorem Gb{t':Nat}(e:i≠j):li t i≠li t' j:=λz=>e (au Prod.fst (gE (L.mk.inj z).2.2).1)
theorem yk:aC [44,45,46] h (nc h k):=((aC.refl.upd rfl).upd rfl).upd rfl
theorem G9:Vx k h (nc h k):=λt i _ ne=>(H.bp (Gb ne)).trans ((H.bp (Gb ne)).trans (H.bp (Gb ne)))
theorem PO.enter(C:PO Γ k h):PS (Γ.fI k nI I (nc h k)) (Γ.cf k) [] (nc h k):=
 have s:=yk.same (h:=h) (h':=nc h k) (fq:=q4++[15,16,35,36]) rfl
 ⟨(C.M.old (s.sub rfl) yk.old).fI,C.fo.same (s.sub rfl),.mk (fa:=λ_=>0) (fp:=λ_=>(0,0)) ⟨jg,λ_ z=>absurd z a0,λ_ z=>absurd z a0,λ_ z=>absurd z a0,λ_ z=>absurd z a0⟩ ⟨⟨0,aW (aW H.aJ (bw rfl)) (bw rfl)⟩,0,aW H.aJ (bw rfl)⟩,C.sr.at_ (s _ _ _ rfl),C.rr.at_ (s _ _ _ rfl),.refl,λ_ _=>⟨rfl,rfl⟩⟩
theorem W7{Γ:Px}{y:Sy}{w:Int}(c:uk Γ y w)(z:0<w):∃j:Nat,w=j/\Γ.Cs[j]?=some (Γ.go y)/\Γ.go y≠[]:=by
 cases c with
 |neg a b=>exact absurd z (jI.2 (Kf (gx _)))
 |zero a=>exact absurd z (Kb 0)
 |pos a b c=>exact⟨_,rfl,b,c⟩
theorem qE.of(A:rJ (Γ.fI k nI I av) I h)(G:C6 (Γ.fI k nI I av) xs h')(N:NK Γ.T Γ.R Γ.S d h1 I xs h2)(e1:h4 (fE k)=h (fE k))(e2:h4 (hH k)=h' (hH k)):qE Γ k I h4:=A.casesOn λA c=>G.casesOn λB z2=>c.a.elim λi1 z1=>
 .mk ⟨A.nodup,λy m z=>W7 (A.c y m) z,A.all⟩ (e1.trans z1) ⟨B.nodup,B.at_,λy hy ne=>(Oc ne).elim λp z=>B.all y (N.all p z.1 y z.2 hy) ne⟩ (e2.trans z2)
theorem PO.leave(C:PO Γ k h)(eI:Γ.Cs[k]?=some I)(C3:PS (Γ.fI k nI I (nc h k)) (Γ.cf k+I.length*(Γ.T.length+1)) I h3)(Il:I.length<=Γ.w)(N:NK Γ.T Γ.R Γ.S d h3 I xs h4)(G:PG (Γ.fI k nI I (nc h k)) h4 xs h5)(F6:aC [31] h5 h6)(d1:nh 31 fE (k+1) h6)(F7:aC [47] h6 h7)(d2:nh 47 hU (k+1) h7)(F8:aC [32] h7 h8)(d3:nh 32 hH (k+1) h8):PO Γ (k+1) h8:=by
 have JP:aC (d6++[46]) h3 h5:=(N.fr.wide rfl).trans G.fr
 have ut:aC [31,47,32] h5 h8:=((F6.wide rfl).trans (F7.wide rfl)).trans (F8.wide rfl)
 have ur:aC (d6++[46,31,47,32]) h3 h8:=(JP.wide rfl).trans (ut.wide rfl)
 have RN:∀i,i≠k->h8 (fE i)=h (fE i):=λi ne=>(ur.at_ _ _ rfl).trans ((C3.fA i ne).1.trans (G9 (h:=h) 44 i rfl ne))
 have o45:∀i,i≠k->h8 (hU i)=h (hU i):=λi ne=>(ur.at_ _ _ rfl).trans ((C3.fA i ne).2.trans (G9 (h:=h) 45 i rfl ne))
 have RO:∀i,i≠k->h8 (hH i)=h (hH i):=λi ne=>(ut.at_ _ _ rfl).trans ((G.fA i ne).trans ((N.fr.at_ _ _ rfl).trans ((C3.fr.at_ _ _ rfl).trans (G9 (h:=h) 46 i rfl ne))))
 have MF:Γ.cf k+I.length*(Γ.T.length+1)<=Γ.cf (k+1):=aw (eV (jN _ Il) _) (aL (qC ..).symm)
 refine⟨(G.M.old (ut.same rfl) ut.old).un',(C3.fo.same (JP.same rfl)).same (ut.same rfl),λst I' vh e'=>?_,λ{t} st m vh=>?_,d1.imp λ_ e=>(F8.at_ _ _ rfl).trans ((F7.at_ _ _ rfl).trans e),d2.imp λ_ e=>(F8.at_ _ _ rfl).trans e,d3,(C3.sr.at_ (ur.at_ _ _ rfl)).le MF,(C3.rr.at_ (ur.at_ _ _ rfl)).le MF,(C.fr.trans (yk.wide rfl)).trans ((C3.fr.wide rfl).trans (ur.wide rfl))⟩
 ·refine(aN (st=k)).elim (λz=>?_) λz=>(C.row st I' (rZ (ji vh) z) e').at_ (RN st z) (RO st z)
  subst z
  cases bc (eI.symm.trans e')
  exact .of C3.act G.G N (ur.at_ _ _ rfl) (ut.at_ _ _ rfl)
 ·have ne:=jk vh
  have f:=C.free st m (cN vh)
  have m':=fF.mp m
  cases m' with
  |head=>exact(RN st ne).trans f
  |tail _ m'=>cases m' with
   |head=>exact(o45 st ne).trans f
   |tail _ m'=>cases m' with
    |head=>exact(RO st ne).trans f
    |tail _ m'=>cases m'
end
inductive K5(Γ:Px)(n:Nat)(a:ak):Ks->H->Prop
 |mk{h:H}:PS Γ (n+a.length*(Γ.T.length+1)) a h->K5 Γ n a (gf Γ) h
section
variable{nI:Nat}{Γ:Px}
theorem iY.fI(D:iY Γ):iY (Γ.fI k nI I h):=⟨D.un.fI,D.hY,D.top,D.acc,D.wl,D.sE⟩
theorem afX(D:iY Γ)(C:PO Γ k h)(en:Γ.vs[k]?=some nI)(eI:Γ.Cs[k]?=some I)(q:∀h',PO Γ (k+1) h'->Wf 33 (vM (k+1)) h' P):Wk 33 ((8,bA nI)::vM k) QM h P:=by
 have mC:=cP eI
 have mI:=C.M.I.sub I mC
 have kl:k<Γ.fc.length:=dD (cm.1 eI).1 C.M.I.len
 have sE:Γ.cf k+Γ.w*(Γ.T.length+1)<=900000:=aw (aL (qC ..).symm) (aw (jN _ kl) (aw D.sE (by decide)))
 have FQ:k<=900000:=aw (cN kl) D.un.sl
 have EP:=yk.old (h:=h) (h':=nc h k) (C.M.I.st.at_ k nI I en eI)
 have D':iY (Γ.fI k nI I (nc h k)):=D.fI
 have Il:=D.wl I mI
 have f:∀{t},ca t [44,45,46]=true->h (li t k)=none:=λm=>C.free k m (cB _)
 refine rB (fE k) (f rfl) (rB (hU k) ((H.bp (bw rfl)).trans (f rfl)) (rB (hH k) ((H.bp (bw rfl)).trans ((H.bp (bw rfl)).trans (f rfl))) (Wk.sub (bJ:=gf (Γ.fI k nI I (nc h k))) (h:=nc h k) (a8 (fB (bJ:=gf (Γ.fI k nI I (nc h k))) (xs:=I) (f:=a4) (Inv:=K5 (Γ.fI k nI I (nc h k)) (Γ.cf k)) (xk rfl) (λa ks h J=>J.casesOn λC=>C.fr.old EP) (.mk (a:=[]) ((au (λn=>PS (Γ.fI k nI I (nc h k)) n [] (nc h k)) (au (Γ.cf k+·) (Nat.zero_mul _))).mpr C.enter)) (λa p r ks h' ea J P' t=>J.casesOn λC=>?_) λks h3 J=>J.casesOn λ{h3} C3=>bf (bi (TY λd hd=>?_)))) rfl)))
 ·have mul:(a++[p]).length*(Γ.T.length+1)=a.length*(Γ.T.length+1)+(Γ.T.length+1):=(au (·*(Γ.T.length+1)) cw).trans (qC ..)
  exact afZ D' C EP mC (ea▸cD _ (.head _)) (aw (aL ((wx ..).trans (au (Γ.cf k+·) (qC ..).symm))) (aw (eV (jN _ (aw (mid ea).2 Il)) _) sE)) λh' C'=>t.nx (.mk ((au (λn=>PS (Γ.fI k nI I (nc h k)) n (a++[p]) h') ((au (Γ.cf k+·) mul).trans (wx ..).symm)).mpr C')) rfl
 ·have Nc:=C3.fr.old EP
  refine a8 (af1 (Γ:=Γ.fI k nI I (nc h k)) C3.L (λF=>(C3.M.ext F).I.A.tb) hd Nc (D.un.ok I mI) λh4 xs N=>bi ?_)
  have JO:aC d6 h3 h4:=N.fr.wide rfl
  refine a8 (af0 D' (C3.M.ext N.fr) ((JO.at_ _ _ rfl).trans ((C3.fr.at_ _ _ rfl).trans H.aJ)) (N.fr.old Nc) mC N (aw (RH C.M.I.A.L.gr N.nodup λy hy=>(N.sub y hy).2) (by decide)) λh5 G=>bi ?_)
  have F5:aC (kJ++[35,36,44,45,46]) h h5:=(yk.wide rfl).trans ((C3.fr.wide rfl).trans ((JO.wide rfl).trans (G.fr.wide rfl)))
  exact Iu (C.d1.imp λ_ e=>(F5.at_ _ _ rfl).trans e) FQ rfl rfl rfl λh6 F6 d1=>Iu (C.d2.imp λ_ e=>(F6.at_ _ _ rfl).trans ((F5.at_ _ _ rfl).trans e)) FQ rfl rfl rfl λh7 F7 d2=>
   Iu (C.d3.imp λ_ e=>(F7.at_ _ _ rfl).trans ((F6.at_ _ _ rfl).trans ((F5.at_ _ _ rfl).trans e))) FQ rfl rfl rfl λh8 F8 d3=>Ca rfl bF (Int.natCast_succ k).symm ((q h8 (C.leave eI C3 Il N G F6 d1 F7 d2 F8 d3)).sub rfl)
end
inductive LG(h:H)(Q:ab):aj->Prop
 |mk{Γ:Px}:d8 Γ.T Γ.R Γ.S Γ.U h->iY Γ->Tab 15 16 (a7 Γ.T Γ.R) Γ.Fo h->Em (lb 34) h->h cL=none->Em (lb 31) h->Em (lb 32) h->h (lb 35)=some (.lst [])->h (lb 36)=some (.lst [])->(∀{t} i,ca t [44,45,46]=true->h (li t i)=none)->h (lb 47)=none->(∀vs Cs h',PO (Γ.out vs Cs h) Cs.length h'->Q .none h')->LG h Q [.ref bN]
noncomputable def zD:b6:=λus h Q=>LG h Q us
inductive Lv(Γ:Px)(h:H):ab
 |mk{vs:List Nat}{Cs:List ak}{h':H}:j8 (Γ.out vs Cs h') h'->aC kJ h h'->Lv Γ h (.ref cL) h'
inductive K7(Γ:Px)(a:List Nat):Ks->H->Prop
 |mk{h:H}:PO Γ a.length h->K7 Γ a (vM a.length) h
section
variable{Γ:Px}{vs:List Nat}{Cs:List ak}{us:aj}
theorem d9.out(u:d9 Γ):d9 (Γ.out vs Cs h):=⟨u.gT,u.step,u.ok,u.len,u.u1,u.u2,u.ul,u.sl⟩
theorem iY.out(D:iY Γ):iY (Γ.out vs Cs h):=⟨D.un.out,D.hY,D.top,D.acc,D.wl,D.sE⟩
theorem j8.re(M:j8 (Γ.out vs Cs h) h'):j8 (Γ.out vs Cs h2) h':=⟨⟨M.I.A,M.I.cl,M.I.st,M.I.kF,M.I.sub,M.I.nodup,M.I.ne,M.I.gT,M.I.oG⟩,M.ff⟩
theorem aic(q:zD us h Q):QE (us.map some++List.replicate 32 none) h λfl _ h'=>Q (c7 fl) h':=by
 cases q with
 | @mk Γ A D fo kF free act got sr rr frees X5 q=>
  have F1:aC [47] h (h.upd (lb 47) (.aF [] 0)):=aC.refl.upd rfl
  have A1:=A.cO F1 rfl
  refine(dC (ks:=[(0,.ref bN)]) (n:=33) (mS (A.tb.mP (xk rfl)) A.L.G.g)<|dC (mR (A.tb.mP (xk rfl)) A.L.G.g)<|dC (A.tb.qp (v:=.ref (lb 32)) (xk rfl) λc=>by kernel_rfl)<|dC (A.tb.qp (v:=.ref (lb 31)) (xk rfl) λc=>by kernel_rfl)<|rB (lb 47) X5<|
   dO (Φ:=Lv Γ (h.upd (lb 47) (.aF [] 0))) (A1.tb.gU (xk rfl) (by decide+kernel) (λc=>by kernel_rfl) e7 λQ k=>.mk A1 D.un (kF.same (H.bp (bw rfl))) ((H.bp (bw rfl)).trans free) λvs Cs h2 M F2=>k _ _ (.mk M F2)) λv h2 z=>?_) _ (.dA rfl rfl)
  cases z with
  | @mk vs Cs h2 M F2=>
   have F:aC (47::kJ) h h2:=(F1.wide rfl).trans (F2.wide rfl)
   have em:∀{t},Em (lb t) h->ca t (47::kJ)=false->∃i,h2 (lb t)=some (.aF [] i):=λe m=>e.casesOn λe=>⟨_,(F.at_ _ _ m).trans e⟩
   have O0:PO (Γ.out vs Cs h) 0 h2:=⟨M.re,fo.same (F.same rfl),λ_ _ z=>absurd z (m9 _),λ{t} st m _=>(F.at_ _ _ (fT (ts:=[44,45,46]) rfl m)).trans (frees st m),em act rfl,⟨0,(F2.at_ _ _ rfl).trans H.aJ⟩,em got rfl,.mk ((F.at_ _ _ rfl).trans sr) (bH _),.mk ((F.at_ _ _ rfl).trans rr) (bH _),F.wide rfl⟩
   refine io (M.I.A.tb.Mo (xk rfl)) (dC bF (fB (bJ:=vM 0) (xs:=vs) (f:=bA) (Inv:=K7 (Γ.out vs Cs h)) (xk rfl) (λa ks h' J=>J.casesOn λO=>O.M.I.cl) (.mk (a:=[]) O0) (λa n r ks h' ea J P' t=>J.casesOn λO=>?_) λks h' J=>J.casesOn λ{h'} O=>bf λg _=>q vs Cs h' (M.I.st.len▸O)))
   have ex:∃I,Cs[a.length]?=some I:=⟨_,fu (f5 (mid ea).2 M.I.st.len)⟩
   exact ex.elim λI eI=>afX D.out O (mid ea).1 eI λh2 O2=>t.nx (.mk (cw (as:=a) (bs:=[n])▸O2)) ((au (λk=>Sub (vM k) (vM (a++[n]).length)) (cw (as:=a) (bs:=[n])).symm).mpr rfl)
end
noncomputable abbrev Tr:=Nat×Sy
noncomputable abbrev cF(t:Tr):V:=.tup [.int (t.1:Nat),sv t.2]
inductive m6(Γ:Px)(t:Tr):Prop
 |mk{I:ak}{p:It}:t.2∈a7 Γ.T Γ.R->Γ.Cs[t.1]?=some I->p∈I->Γ.nx p=some t.2->m6 Γ t
structure uA(Γ:Px)(l:L)(vs:List Nat)(h:H):Prop where
 lst:h l=some (.lst (vs.map bA))
 st:pJ vs Γ.Cs h
inductive LO(h:H)(Q:ab):aj->Prop
 |mk{Γ:Px}{l:L}{vs:List Nat}:LB Γ.T Γ.R Γ.S h->fR h->uA Γ l vs h->(∀I∈Γ.Cs,∀p∈I,Γ.ok p)->Γ.Cs.length<=5000->
  (∀(n:Nat) (tr:List Tr),h (.ay n)=none->tr.Nodup->(∀t:Tr,t∈tr↔m6 Γ t)->Q (.ref (.ay n)) (h.upd (.ay n) (.lst (tr.map cF))))->LO h Q [.ref bN,.ref l]
noncomputable def CH:b6:=λus h Q=>LO h Q us
noncomputable def P0:SW:=aB (aZ 6 (eO (aA (an 3) (aA (a3 (aE (an 5) "prod") (cR .Add (aE (an 5) "lr_index") (aM 1))) aD)))) (a9 (aT .In (a3 (an 6) (aM 1)) (aE (aE (an 0) "grammar") "Nonterminals")) (a9 (aT .NotIn (an 6) (an 2)) (cM (bY (an 2) "list" de (aA (an 6) aD))) aO) aO)
noncomputable def acD:SW:=bX (bB (an 4)) false (a5 5) (a9 (aT .Lt (aE (an 5) "lr_index") (cR .Sub (aE (an 5) "len") (aM 1))) P0 aO) aO
noncomputable def acy:SW:=aB (bX (p6 qN (aA (an 1) aD)) true (iN 2 (dE (a5 3) (dE (a5 4) ib))) acD aO) (eA (an 2))
noncomputable def acz:SW:=aB (aZ 2 (cx aD)) acy
noncomputable def PZ:SW:=acz
noncomputable def sO(l:L)(n:Nat):Ks:=[(2,.ref (.ay n)),(1,.ref l),(0,.ref bN)]
section
variable{Γ:Px}{l:L}{tr:List Tr}{t s:Tr}{b:Bool}{Q:Bool->Prop}{R:List aH}
theorem yS(e:cF s=cF t):s=t:=
 have e:=gE (V.tup.inj e)
 ni (jJ (V.int.inj e.1)) (oY (gE e.2).1)
theorem vr:cz (n+1) (cF t):=.tup (bq.2 ⟨.int,bq.2 ⟨fm _,λ_ z=>absurd z a0⟩⟩)
theorem A8:cF t∈tr.map cF↔t∈tr:=⟨λh=>(bg.1 h).elim λy z=>yS z.2▸z.1,λh=>bg.2 ⟨t,h,rfl⟩⟩
theorem aen(q:Q (decide (t∈tr))):yh (cF t) (tr.map cF) h Q:=Q3 vr (λ_ hu=>(bg.1 hu).elim λy z=>z.2▸vr) (λm=>cE (A8.mp m)▸q) λm=>cQ (λz=>m (A8.mpr z))▸q
theorem EY{α β:Type}{f:α->List β}(w:∀a,(f a).length<=k){l:List α}:(l.flatMap f).length<=l.length*k:=by
 induction l with
 |nil=>exact bH _
 |cons a l ih=>
  rw [List.flatMap_cons,List.length_append,List.length_cons,Nat.succ_mul,Nat.add_comm]
  exact fw ih (w a)
theorem TG(hC:Γ.Cs.length<=5000)(G:Gr Γ.T Γ.R)(nd:tr.Nodup)(w:∀t∈tr,t.1<Γ.Cs.length/\t.2∈a7 Γ.T Γ.R):tr.length<=5000*90:=
 aw (gP (U:=(List.range Γ.Cs.length).flatMap λq=>(a7 Γ.T Γ.R).map λy=>(q,y)) nd λt ht=>wu.2 ⟨t.1,kZ.2 (w t ht).1,bg.2 ⟨t.2,(w t ht).2,rfl⟩⟩) (aw (EY (k:=90) λq=>aw (aL (bx _)) (aw G.vI G.rl)) (jN _ (aw (aL iw) hC)))
theorem LB.uT(L:LB T R S h)(e:Ek ks m h (a4 p))(o:d4 S R p)(eb:(gu S R p).isSome=b):Eb ks (aT .Lt (aE m "lr_index") (cR .Sub (aE m "len") (aM 1))) h b:=by
 cases id o with
 | @mk i j x bd ea hj=>
  refine qK (L.ue e o) (y9 (L.UF e ea hj) bF (Db _ 1)) (eb▸(au Option.isSome (mF ea)).symm▸?_)
  refine(lR j bd.length).elim (λz=>?_) λz=>?_
  ·rw [List.getElem?_eq_getElem z];exact cE (iW.2 z)
  ·rw [List.getElem?_eq_none z];exact cQ (jI.2 (jK.2 z))
theorem LB.IM(L:LB T R S h)(q:Ek ks m h (a4 p))(o:d4 S R p)(e:gu S R p=some y):Ek ks (a3 (aE m "prod") (cR .Add (aE m "lr_index") (aM 1))) h (sv y):=L.UO q (rD (L.ue q o) bF rfl) o e
theorem Mp(p:Ek ks m h (cF t))(q:Ek ks m' h (.ref l))(e:h l=some (.lst (tr.map cF)))(eb:(!decide (t∈tr))=b):Eb ks (aT .NotIn m m') h b:=fS p q λQ r=>.lst (.inl e) (aen (Q:=λb=>Q (.bool (!b)) h) (eb.symm▸r))
end
inductive z8(Γ:Px)(k:Nat)(a:ak)(t:Tr):Prop
 |mk{p:It}:t.1=k->t.2∈a7 Γ.T Γ.R->p∈a->Γ.nx p=some t.2->z8 Γ k a t
noncomputable abbrev uK(Γ:Px)(k:Nat)(a:ak)(t:Tr):Prop:=(t.1<k/\m6 Γ t)\/z8 Γ k a t
inductive TI(Γ:Px)(h:H)(l:L)(n k:Nat)(a:ak):Ks->H->Prop
 |mk{tr:List Tr}:tr.Nodup->(∀t,t∈tr↔uK Γ k a t)->TI Γ h l n k a ((3,.int k)::sO l n) (h.upd (.ay n) (.lst (tr.map cF)))
inductive TO(Γ:Px)(h:H)(l:L)(n:Nat)(a:List Nat):Ks->H->Prop
 |mk{tr:List Tr}:tr.Nodup->(∀t,t∈tr↔t.1<a.length/\m6 Γ t)->TO Γ h l n a (sO l n) (h.upd (.ay n) (.lst (tr.map cF)))
section
variable{Γ:Px}{vs:List Nat}{l:L}{tr:List Tr}{t:Tr}{us:aj}
theorem aiy:z8 Γ k (a++[p]) t↔z8 Γ k a t\/(t.1=k/\t.2∈a7 Γ.T Γ.R/\Γ.nx p=some t.2):=⟨λz=>z.casesOn λe m hp nx=>(bO.1 hp).elim (λhp=>.inl (.mk e m hp nx)) λhp=>.inr ⟨e,m,a6.1 hp▸nx⟩,λz=>z.elim (λz=>z.casesOn λe m hp nx=>.mk e m (eM _ hp) nx) λz=>.mk z.1 z.2.1 (cD _ (.head _)) z.2.2⟩
theorem yQ:uK Γ k (a++[p]) t↔uK Γ k a t\/(t.1=k/\t.2∈a7 Γ.T Γ.R/\Γ.nx p=some t.2):=(fH aiy).trans tD.symm
theorem aiz(hk:k<Γ.Cs.length)(z:uK Γ k a t):t.1<Γ.Cs.length/\t.2∈a7 Γ.T Γ.R:=z.elim (λz=>⟨qB z.1 hk,z.2.casesOn λm _ _ _=>m⟩) λz=>z.casesOn λe m _ _=>⟨e▸hk,m⟩
theorem aiA(L:LB Γ.T Γ.R Γ.S h)(tb:fR h)(hC:Γ.Cs.length<=5000)(hk:k<Γ.Cs.length)(o:Γ.ok p)(ny:Γ.nx p=some y)(e:h (.ay n)=some (.lst (tr.map cF)))(nd:tr.Nodup)(w:∀t,t∈tr↔uK Γ k a t)
 (q:∀BZ:List Tr,BZ.Nodup->(∀t,t∈BZ↔uK Γ k (a++[p]) t)->Wf 8 ((3,.int k)::sO l n) (h.upd (.ay n) (.lst (BZ.map cF))) P):Wk 8 ((5,a4 p)::(3,.int k)::sO l n) P0 h P:=by
 have bM:(y∈a7 Γ.T Γ.R->((k,y):Tr)∈tr)->Wf 8 ((6,cF (k,y))::(5,a4 p)::(3,.int k)::sO l n) h P:=λm=>by
  have u:=q tr nd λt=>(w t).trans ⟨λz=>yQ.mpr (.inl z),λz=>(yQ.mp z).elim id λz=>by
   obtain⟨i,x⟩:=t
   cases bc (ny.symm.trans z.2.2)
   cases(z.1:i=k)
   exact(w _).mp (m z.2.1)⟩
  rw [B5 e] at u
  exact u.sub rfl
 refine dC (v:=cF (k,y)) (j4 (eE (xk rfl) (L.IM (xk rfl) o ny))) (n6 (p:=y∈a7 Γ.T Γ.R) (L.Mq (IJ (j:=1) (xk (v:=cF (k,y)) rfl) bF rfl (by decide)) (tb.mP (xk rfl)) rfl) (λhy=>o3 (p:=((k,y):Tr)∈tr) (Mp (t:=(k,y)) (xk rfl) (xk rfl) e rfl) (λm=>?_) λm=>bf (bM λ_=>m)) λhy=>bf (bM λz=>absurd z hy))
 refine kQ (w:=cF (k,y)) (xk rfl) e (map_lt (b7 (TG hC L.gr nd λt ht=>aiz hk ((w t).mp ht)) (by decide))) (xk rfl) ?_
 have u:=q (tr++[(k,y)]) (nV nd m) λt=>bO.trans ((Bm (w t) (a6.trans ⟨λz=>z▸⟨rfl,hy,ny⟩,λz=>ni z.1 (bc (z.2.2.symm.trans ny))⟩)).trans yQ.symm)
 rw [List.map_append] at u
 exact u.sub rfl
theorem aiB(q:CH us h Q):PZ (us.map some++List.replicate 6 none) h λfl _ h'=>Q (c7 fl) h':=by
 cases q with
 | @mk Γ l vs L tb ls ok len q=>
  refine(v4 (ks:=[(1,.ref l),(0,.ref bN)]) (n:=8) e7 (bH _) λn hn=>?_) _ (.dA rfl rfl)
  have vl:=ls.st.len
  refine a8 (Ik (bJ:=sO l n) (xs:=vs) (f:=bA) (Inv:=TO Γ h l n) (xk rfl) (λa ks h' J=>J.casesOn λ_ _=>dT ls.lst hn) (.mk (tr:=[]) jg λt=>⟨λz=>absurd z a0,λz=>absurd z.1 (m9 _)⟩) (λa m r ks h' em J P' t=>J.casesOn λ{tr} nd w=>?_) λks h' J=>J.casesOn λ{tr} nd w=>bf (bi (il (xk rfl) λg=>q n tr hn nd λt=>(w t).trans ⟨(·.2),λz=>⟨z.casesOn λ_ e _ _=>f5 (cm.1 e).1 vl.symm,z⟩⟩)))
  have hk:a.length<Γ.Cs.length:=f5 (mid em).2 vl
  have ex:∃I,Γ.Cs[a.length]?=some I:=⟨_,fu hk⟩
  refine ex.elim λI' eI=>fB (bJ:=(3,.int a.length)::sO l n) (xs:=I') (f:=a4) (Inv:=TI Γ h l n a.length) (xk rfl) (λb ks h' J=>J.casesOn λ_ _=>dT (ls.st.at_ a.length m I' (mid em).1 eI) hn) (.mk nd λt=>(w t).trans ⟨.inl,λz=>z.elim id λz=>z.casesOn λ_ _ hp _=>absurd hp a0⟩) (λb p r ks h' eb J pD t2=>J.casesOn λ{tr} nd w=>?_) λks h' J=>J.casesOn λ{tr} nd w=>bf (t.nx (.mk nd λt=>(w t).trans ⟨λz=>?_,λz=>?_⟩) rfl)
  ·have o:=ok I' (cP eI) p (eb▸cD _ (.head _))
   have L':LB Γ.T Γ.R Γ.S (h.upd (.ay n) (.lst (tr.map cF))):=L.same bC.ay
   cases ny:Γ.nx p with
   |none=>exact dy (L'.uT (xk rfl) o (au Option.isSome ny)) (bf (t2.nx (.mk nd λt=>(w t).trans ⟨λz=>yQ.mpr (.inl z),λz=>(yQ.mp z).elim id λz=>cK z.2.2 ny⟩) rfl))
   |some y=>exact cX (L'.uT (xk rfl) o (au Option.isSome ny)) (aiA L' (tb.casesOn λt=>.mk (t.same bC.ay)) len hk o ny H.aJ nd w λBZ vC w'=>qi.symm▸t2.nx (.mk vC w') rfl)
  ·rw [List.length_append]
   exact z.elim (λz=>⟨Nat.lt_succ_of_lt z.1,z.2⟩) λz=>z.casesOn λe m hp nx=>⟨b7 (aL e) (jM _),.mk m (e▸eI) hp nx⟩
  ·rw [List.length_append] at z
   refine(lR t.1 a.length).elim (λy=>.inl ⟨y,z.2⟩) λy=>.inr ?_
   have e:=iz (ji z.1) y
   exact z.2.casesOn λm XN hp nx=>.mk e m (bc (XN.symm.trans (e▸eI))▸hp) nx
end
noncomputable abbrev bU(n:Nat)(t:Tr):L:=.mk n t.2.1 [(t.1,0)]
structure uJ(Γ:Px)(l:Nat)(vs:List Nat)(I:ak)(t:Tr)(h:H):Prop where
 M:Γ.M h
 un:d9 Γ
 ls:uA Γ (.ay l) vs h
 at_:Γ.Cs[t.1]?=some I
 len:t.1<=1000000
 sy:jn Γ.S Γ.R t.2
 ne:bQ Γ.S Γ.R I t.2≠[]
noncomputable abbrev lT(Γ:Px)(a:ak)(y:Sy):Prop:=∃p∈a,Γ.nx p=some y
noncomputable def rL(Γ:Px)(I:ak)(t:Tr)(y:Sy):Prop:=(y∈Γ.T/\lT Γ (bQ Γ.S Γ.R I t.2) y)\/(y=cH/\t=(0,Γ.S))
noncomputable abbrev qD(n:Nat)(t:Tr)(h h':H):Prop:=∀t',t'≠t->h' (bU n t')=h (bU n t')
noncomputable abbrev Jz(Γ:Px)(I:ak)(t:Tr)(h:H)(Q:ab):Prop:=∀(ys:ai) (h':H),ys.Nodup->(∀y,y∈ys↔rL Γ I t y)->h' (bU 48 t)=some (.lst (ys.map sv))->Γ.M h'->aC (48::d6) h h'->qD 48 t h h'->Q (.ref (bU 48 t)) h'
inductive Jx(h:H)(Q:ab):aj->Prop
 |mk{Γ:Px}{l:Nat}{vs:List Nat}{I:ak}{t:Tr}{w:V}:uJ Γ l vs I t h->h (bU 48 t)=none->Jz Γ I t h Q->Jx h Q [.ref bN,bA l,cF t,w]
noncomputable def CG:b6:=λus h Q=>Jx h Q us
noncomputable def PX:SW:=aB (aZ 9 (a3 (aE (an 8) "prod") (cR .Add (aE (an 8) "lr_index") (aM 1)))) (a9 (aT .In (an 9) (aE (aE (an 0) "grammar") "Terminals")) (a9 (aT .NotIn (an 9) (an 6)) (cM (bY (an 6) "list" de (aA (an 9) aD))) aO) aO)
noncomputable def PY:SW:=aB (a9 (du (aT .Eq (an 4) (aM 0)) (du (aT .Eq (an 5) (a3 (aE (a3 (aE (aE (an 0) "grammar") "Productions") (aM 0)) "prod") (aM 0))) dI)) (cM (bY (an 6) "list" de (aA (bR "$end") aD))) aO) (eA (an 6))
noncomputable def acu:SW:=aB (bX (bB (an 7)) false (a5 8) (a9 (aT .Lt (aE (an 8) "lr_index") (cR .Sub (aE (an 8) "len") (aM 1))) PX aO) aO) PY
noncomputable def acv:SW:=aB (aZ 7 (dw (an 0) "lr0_goto" .table mY (aA (a3 (an 1) (an 4)) (aA (an 5) aD)))) acu
noncomputable def acw:SW:=aB (aZ 6 (cx aD)) acv
noncomputable def acx:SW:=aB (aS (iN 2 (dE (a5 4) (dE (a5 5) ib))) (an 2)) acw
noncomputable def PW:SW:=acx
noncomputable def oA(l n:Nat)(t:Tr):Ks:=[(7,bA n),(6,.ref (bU 48 t)),(5,sv t.2),(4,.int t.1),(1,bA l),(0,.ref bN)]
inductive Cy(Γ:Px)(l n:Nat)(t:Tr)(h:H)(a:ak):Ks->H->Prop
 |mk{ys:ai}:ys.Nodup->(∀y,y∈ys↔y∈Γ.T/\lT Γ a y)->Cy Γ l n t h a (oA l n t) (h.upd (bU 48 t) (.lst (ys.map sv)))
inductive Behind(Γ:Px)(I:ak)(x:Sy)(h:H):ab
 |mk{n:Nat}{h':H}:h' (.ay n)=some (.lst ((bQ Γ.S Γ.R I x).map a4))->Γ.M h'->aC d6 h h'->Behind Γ I x h (bA n) h'
section
variable{Γ:Px}{av:H}{l:Nat}{vs:List Nat}{t s:Tr}{us:aj}{b:Bool}{R:List aH}{st:Str}{ix:List (Nat×Nat)}{o:O}{tg:Nat}
theorem yR(n:s≠t):bU k s≠bU j t:=λe=>n (ni (wN (gE (L.mk.inj e).2.2).1).1 (wU (L.mk.inj e).2.1))
theorem kL:lT Γ (a++[p]) y↔lT Γ a y\/Γ.nx p=some y:=⟨λz=>z.elim λq z=>(bO.1 z.1).elim (λm=>.inl ⟨q,m,z.2⟩) λm=>.inr (a6.1 m▸z.2),λz=>z.elim (λz=>z.imp λq z=>⟨eM _ z.1,z.2⟩) λe=>⟨p,cD _ (.head _),e⟩⟩
theorem j8.lay(M:Γ.M h)(w:ca tg q4=false):Γ.M (h.upd (.mk tg st ix) o):=M.old (bC.upd w) λz=>aW z dB
theorem d9.Uw(un:d9 Γ)(M:Γ.M h)(q:Ek ks m h (.ref bN))(pa:gC ks ms h [bA n,sv y])(el:h (.ay n)=some (.lst (I.map a4)))(mC:I∈Γ.Cs)(sy:jn Γ.S Γ.R y)(ne:bQ Γ.S Γ.R I y≠[]):Ex ks (dw m "lr0_goto" .table mY ms) h (Behind Γ I y h):=λg K Q z=>un.ud M.I.A q pa el (M.I.sub I mC) sy g K Q λv h' G=>z v h' (by
 have gv:=G.gv
 generalize e:bQ Γ.S Γ.R I y=J at ne gv
 cases gv with
 |no=>exact absurd rfl ne
 |lst en=>exact .mk (e▸en) (M.goto G.A G.fr) G.fr)
theorem uJ.ud(A:uJ Γ l vs I t h)(M:Γ.M (h.upd (bU k s) o))(q:Ek ks m (h.upd (bU k s) o) (.ref bN))(e1:bj ks 1=some (bA l))(ei:bj ks i=some (.int t.1))(ej:bj ks j=some (sv t.2)):Ex ks (dw m "lr0_goto" .table mY (aA (a3 (an 1) (an i)) (aA (an j) aD))) (h.upd (bU k s) o) (Behind Γ I t.2 (h.upd (bU k s) o)):=
 have ex:∃m,vs[t.1]?=some m:=⟨_,fu (A.ls.st.len▸(cm.1 A.at_).1)⟩
 ex.elim λm em=>A.un.Uw M q (eE (o9 (j:=t.1) (xk e1) (xk ei) (aW A.ls.lst dB) (eL.trans (au (Option.map bA) em)) A.len) (xk ej)) (aW (A.ls.st.at_ t.1 m I em A.at_) dB) (cP A.at_) A.sy A.ne
theorem d8.ajI(A:d8 T R S U h)(q:Ek ks m h (.ref gL)):Ek ks (a3 (aE (a3 (aE m "Productions") (aM 0)) "prod") (aM 0)) h (sv S):=IJ (j:=0) (vs:=[sv S]) (A.mR (i:=0) (x:=iO) (bd:=[S]) (A.L.wb (i:=0) (mS q A.L.G.g) bF (bH _)) rfl (by kernel_rfl)) bF rfl (bH _)
theorem M7(G:Gr Γ.T Γ.R)(nd:ys.Nodup)(w:∀y,y∈ys↔y∈Γ.T/\lT Γ a y):ys.length<1000000:=b7 (aw (mH nd λy hy=>((w y).mp hy).1) G.tl) (by decide)
theorem XA(M:Γ.M (h.upd (bU 48 t) (.lst (ys.map sv))))(o:Γ.ok p)(ny:Γ.nx p=some y)(nd:ys.Nodup)(w:∀z,z∈ys↔z∈Γ.T/\lT Γ a z)(q:∀Cl:ai,Cl.Nodup->(∀z,z∈Cl↔z∈Γ.T/\lT Γ (a++[p]) z)->Wf 10 (oA l n t) (h.upd (bU 48 t) (.lst (Cl.map sv))) P):Wk 10 ((8,a4 p)::oA l n t) PX (h.upd (bU 48 t) (.lst (ys.map sv))) P:=
 have L:=M.I.A.L
 have bM:(y∈Γ.T->y∈ys)->Wf 10 ((9,sv y)::(8,a4 p)::oA l n t) (h.upd (bU 48 t) (.lst (ys.map sv))) P:=λm=>(q ys nd λz=>(w z).trans ⟨λu=>⟨u.1,kL.mpr (.inl u.2)⟩,λu=>⟨u.1,(kL.mp u.2).elim id λe=>by
  cases bc (ny.symm.trans e);exact((w _).mp (m u.1)).2⟩⟩).sub rfl
 dC (L.IM (xk rfl) o ny) (n6 (p:=y∈Γ.T) (L.Ev (xk rfl) (M.I.A.tb.mP (xk rfl)) rfl) (λhT=>o3 (p:=y∈ys) (oy (xk rfl) (xk rfl) H.aJ rfl) (λm=>t4 (xk rfl) (M7 L.gr nd w) (xk rfl) ((q (ys++[y]) (nV nd m) λz=>bO.trans ⟨λu=>u.elim (λu=>⟨((w z).mp u).1,kL.mpr (.inl ((w z).mp u).2)⟩) λu=>a6.1 u▸⟨hT,kL.mpr (.inr ny)⟩,λu=>(kL.mp u.2).imp (λe=>(w z).mpr ⟨u.1,e⟩) λe=>a6.2 (bc (e.symm.trans ny))⟩).sub rfl)) λm=>bf (bM λ_=>m)) λhT=>bf (bM λz=>absurd z hT))
theorem XB(C:Jz Γ I t av Q)(M:Γ.M (h.upd (bU 48 t) (.lst (ys.map sv))))(nd:ys.Nodup)(w:∀y,y∈ys↔y∈Γ.T/\lT Γ (bQ Γ.S Γ.R I t.2) y)(F:∀{o},aC (48::d6) av (h.upd (bU 48 t) o))(fA:∀{o},qD 48 t av (h.upd (bU 48 t) o)):Wk 10 (oA l n t) PY (h.upd (bU 48 t) (.lst (ys.map sv))) λfl _ h'=>Q (c7 fl) h':=by
 have out:t≠(0,Γ.S)->Wf 10 (oA l n t) (h.upd (bU 48 t) (.lst (ys.map sv))) (ij (eA (an 6)) λfl _ h'=>Q (c7 fl) h'):=λne=>bi (il (xk rfl) λ_=>C ys _ nd (λy=>(w y).trans ⟨.inl,λz=>z.resolve_right λz=>ne z.2⟩) H.aJ M F fA)
 have c1:∀{c:Bool},((t.1:Int)==0)=c->Eb (oA l n t) (aT .Eq (an 4) (aM 0)) (h.upd (bU 48 t) (.lst (ys.map sv))) c:=λz=>kD (xk rfl) bF z
 have c2:Eb (oA l n t) (aT .Eq (an 5) (a3 (aE (a3 (aE (aE (an 0) "grammar") "Productions") (aM 0)) "prod") (aM 0))) (h.upd (bU 48 t) (.lst (ys.map sv))) (decide (t.2=Γ.S)):=ow (xk rfl) (M.I.A.ajI (M.I.A.tb.mP (xk rfl))) rfl
 refine(aN (t.1=0)).elim (λz1=>?_) λz1=>a8 (dy (lZ (c1 (nF.2 λe=>z1 (jJ e)))) (bf (out λz=>z1 (au Prod.fst z))))
 have q1:=c1 (c:=true) (au (λk:Nat=>(k:Int)==0) z1)
 refine(aN (t.2=Γ.S)).elim (λz2=>?_) λz2=>a8 (dy (hV q1 (lZ (cQ z2▸c2))) (bf (out λz=>z2 (au Prod.snd z))))
 refine a8 (cX (hV q1 (hV (cE z2▸c2) kE)) (t4 (e:=cH) (xk rfl) (M7 M.I.A.L.gr nd w) df (bi (il (xk rfl) λ_=>C (ys++[cH]) _ (nV nd λz=>M.I.A.L.gr.fin ((w _).mp z).1) (λy=>?_) H.aJ (qi (h:=h) (o:=.lst (ys.map sv))▸M.lay rfl) F fA))))
 exact bO.trans ((Bm (w y) (a6.trans ⟨λz=>⟨z,ni z1 z2⟩,(·.1)⟩)))
theorem XC(q:CG us h Q):PW (us.map some++List.replicate 6 none) h λfl _ h'=>Q (c7 fl) h':=by
 cases q with
 | @mk Γ l vs I t w A free C=>
  refine(t6 (ks:=[(2,cF t),(1,bA l),(0,.ref bN)]) (k:=10) (xk rfl) (Iq (bU 48 t) free e7 (bH _) (dO (A.ud (A.M.lay rfl) (xk rfl) rfl rfl rfl) λv h2 z=>?_))) _ (.dA rfl rfl)
  cases z with
  | @mk n h2 en M F=>
   have F2:∀{o},aC (48::d6) h (h2.upd (bU 48 t) o):=((aC.refl.upd rfl).trans (F.wide rfl)).upd rfl
   have o2:∀{o},qD 48 t h (h2.upd (bU 48 t) o):=λt' ne=>(H.bp (yR ne)).trans ((F.at_ _ _ rfl).trans (H.bp (yR ne)))
   have ok:=A.un.ok _ (A.un.step I (A.M.I.sub I (cP A.at_)) t.2)
   refine a8 (fB (bJ:=oA l n t) (xs:=bQ Γ.S Γ.R I t.2) (f:=a4) (Inv:=Cy Γ l n t h2) (xk rfl) (λa ks h' J=>J.casesOn λ_ _=>aW en dB) (Eq.subst (motive:=Cy Γ l n t h2 [] (oA l n t)) (B5 ((F.at_ _ _ rfl).trans H.aJ)) (.mk (ys:=[]) jg λy=>⟨λz=>absurd z a0,λz=>z.2.elim λp z=>absurd z.1 a0⟩)) (λa p r ks h' ea J P' tt=>J.casesOn λ{ys} nd w=>?_) λks h' J=>J.casesOn λnd w=>bf (bi (XB C (M.lay rfl) nd w F2 o2)))
   have o:=ok p (ea▸cD _ (.head _))
   have M3:Γ.M (h2.upd (bU 48 t) (.lst (ys.map sv))):=M.lay rfl
   cases ny:Γ.nx p with
   |none=>exact dy (M3.I.A.L.uT (xk rfl) o (au Option.isSome ny)) (bf (tt.nx (.mk nd λy=>(w y).trans (sA λ_=>⟨λz=>kL.mpr (.inl z),λz=>(kL.mp z).elim id λz=>cK z ny⟩)) rfl))
   |some y=>exact cX (M3.I.A.L.uT (xk rfl) o (au Option.isSome ny)) (XA M3 o ny nd w λCl vC w'=>tt.nx (.mk vC w') rfl)
end
noncomputable def uG(Γ:Px)(E:List Str)(I:ak)(t z:Tr):Prop:=Γ.Cs[z.1]?=some (bQ Γ.S Γ.R I t.2)/\z.2.1∈E/\lT Γ (bQ Γ.S Γ.R I t.2) z.2
noncomputable abbrev VG(Γ:Px)(E:List Str)(I:ak)(t:Tr)(h:H)(Q:ab):Prop:=∀(zs:List Tr) (h':H),zs.length<=1000->(∀z,z∈zs↔uG Γ E I t z)->h' (bU 49 t)=some (.lst (zs.map cF))->Γ.M h'->aC (49::d6) h h'->qD 49 t h h'->Q (.ref (bU 49 t)) h'
inductive Li(h:H)(Q:ab):aj->Prop
 |mk{Γ:Px}{l el:Nat}{vs:List Nat}{E:List Str}{I:ak}{t:Tr}:uJ Γ l vs I t h->h (.ay el)=some (.set E)->h (bU 49 t)=none->VG Γ E I t h Q->Li h Q [.ref bN,bA l,cF t,bA el]
noncomputable def zE:b6:=λus h Q=>Li h Q us
noncomputable def QX:SW:=aB (aZ 10 (a3 (aE (an 9) "prod") (cR .Add (aE (an 9) "lr_index") (aM 1)))) (a9 (aT .In (an 10) (an 3)) (cM (bY (an 4) "list" de (aA (eO (aA (an 8) (aA (an 10) aD))) aD))) aO)
noncomputable def ad4:SW:=aB (bX (bB (an 7)) false (a5 9) (a9 (aT .Lt (aE (an 9) "lr_index") (cR .Sub (aE (an 9) "len") (aM 1))) QX aO) aO) (eA (an 4))
noncomputable def ad5:SW:=aB (aZ 8 (bY (aE (an 0) "lr0_cidhash") "dict" eY (aA (bv jG (aA (an 7) aD)) (aA (lm (aM 1)) aD)))) ad4
noncomputable def ad6:SW:=aB (aZ 7 (dw (an 0) "lr0_goto" .table mY (aA (a3 (an 1) (an 5)) (aA (an 6) aD)))) ad5
noncomputable def ad7:SW:=aB (aS (iN 2 (dE (a5 5) (dE (a5 6) ib))) (an 2)) ad6
noncomputable def ad8:SW:=aB (aZ 4 (cx aD)) ad7
noncomputable def QW:SW:=ad8
noncomputable def Bz(n j:Nat)(t:Tr)(el:Nat):Ks:=[(8,.int j),(7,bA n),(4,.ref (bU 49 t)),(3,bA el),(0,.ref bN)]
inductive zY(Γ:Px)(E:List Str)(n j:Nat)(t:Tr)(el:Nat)(h:H)(a:ak):Ks->H->Prop
 |mk{zs:List Tr}:zs.length<=a.length->(∀z,z∈zs↔z.1=j/\z.2.1∈E/\lT Γ a z.2)->zY Γ E n j t el h a (Bz n j t el) (h.upd (bU 49 t) (.lst (zs.map cF)))
section
variable{Γ:Px}{av:H}{l el:Nat}{vs:List Nat}{t:Tr}{us:aj}{zs:List Tr}{b:Bool}{E:List Str}{s:L}
theorem Wo(e:h s=some (.set E))(p:Ek ks m h (sv y))(q:Ek ks m' h (.ref s))(eb:decide (y.1∈E)=b):Eb ks (aT .In m m') h b:=fS p q λQ r=>.set e (eb.symm▸r)
theorem age(L:LB Γ.T Γ.R Γ.S (h.upd (bU 49 t) (.lst (zs.map cF))))(o:Γ.ok p)(ny:Γ.nx p=some y)(es:h (.ay el)=some (.set E))(zl:zs.length<=a.length)(al:a.length<1000)(w:∀z,z∈zs↔z.1=j/\z.2.1∈E/\lT Γ a z.2)(q:∀{ks h'},zY Γ E n j t el h (a++[p]) ks h'->Wf 12 ks h' P):Wk 12 ((9,a4 p)::Bz n j t el) QX (h.upd (bU 49 t) (.lst (zs.map cF))) P:=
 have la:(a++[p]).length=a.length+1:=cw
 dC (L.IM (xk rfl) o ny) (n6 (p:=y.1∈E) (Wo (aW es dB) (xk rfl) (xk rfl) rfl) (λm=>t4 (f:=cF) (e:=(j,y)) (xk rfl) (b7 zl (qB al (by decide))) (j4 (eE (xk rfl) (xk rfl))) ((q (.mk (zs:=zs++[(j,y)]) (la▸cw▸cS zl) λz=>bO.trans ⟨λu=>u.elim (λu=>⟨((w z).mp u).1,((w z).mp u).2.1,kL.mpr (.inl ((w z).mp u).2.2)⟩) λu=>a6.1 u▸⟨rfl,m,kL.mpr (.inr ny)⟩,λu=>(kL.mp u.2.2).imp (λe=>(w z).mpr ⟨u.1,u.2.1,e⟩) λe=>a6.2 (ni u.1 (bc (e.symm.trans ny)))⟩)).sub rfl))
  λm=>bf ((q (.mk (la▸uC zl) λz=>(w z).trans (sA λ_=>⟨λu=>⟨u.1,kL.mpr (.inl u.2)⟩,λu=>⟨u.1,(kL.mp u.2).elim id λe=>absurd (bc (e.symm.trans ny)▸u.1) m⟩⟩))).sub rfl))
theorem agf(q:zE us h Q):QW (us.map some++List.replicate 8 none) h λfl _ h'=>Q (c7 fl) h':=by
 cases q with
 | @mk Γ l el vs E I t A es free C=>
  have mC:=cP A.at_
  have mJ:=A.un.step I (A.M.I.sub I mC) t.2
  refine(Iq (ks:=[(3,bA el),(2,cF t),(1,bA l),(0,.ref bN)]) (n:=12) (bU 49 t) free e7 (bH _) (t6 (x:=.int t.1) (y:=sv t.2) (xk rfl) (dO (A.ud (A.M.lay rfl) (xk rfl) rfl rfl rfl) λv h2 z=>?_))) _ (.dA rfl rfl)
  cases z with
  | @mk n h2 en M F=>
   refine(Fc M mC A.ne).casesOn λ{j} j0 ej lj=>dO (M.uc (xk rfl) (xk rfl) (.lst en) mJ A.un) λv3 h3 z=>?_
   have ev:v3= .int j:=z.1.trans (au (λo:Option V=>o.getD (.int (-1))) lj)
   subst ev
   have X:=z.2
   have F3:aC d6 (h.upd (bU 49 t) (.lst [])) h3:=F.trans (.of X)
   have M3:∀{o},Γ.M (h3.upd (bU 49 t) o):=(M.ext X).lay rfl
   have F2:∀{o},aC (49::d6) h (h3.upd (bU 49 t) o):=((aC.refl.upd rfl).trans (F3.wide rfl)).upd rfl
   have o2:∀{o},qD 49 t h (h3.upd (bU 49 t) o):=λt' ne=>(H.bp (yR ne)).trans ((F3.at_ _ _ rfl).trans (H.bp (yR ne)))
   refine a8 (fB (bJ:=Bz n j t el) (xs:=bQ Γ.S Γ.R I t.2) (f:=a4) (Inv:=zY Γ E n j t el h3) (xk rfl) (λa ks h' J=>J.casesOn λ_ _=>aW (X.old en) dB) (Eq.subst (motive:=zY Γ E n j t el h3 [] (Bz n j t el)) (B5 ((F3.at_ _ _ rfl).trans H.aJ)) (.mk (zs:=[]) (cB 0) λy=>⟨λz=>absurd z a0,λz=>z.2.2.elim λp z=>absurd z.1 a0⟩)) (λa p r ks h' ea J P' tt=>J.casesOn λ{zs} zl w=>?_) λks h' J=>J.casesOn λ{zs} zl w=>bf (bi (il (xk rfl) λ_=>C zs _ (aw zl (A.un.len _ mJ)) (λz=>(w z).trans (Mf λ_=>⟨λe=>e▸ej,λe=>(wr (cm.1 e).1 M.I.nodup).mp (e.trans ej.symm)⟩)) H.aJ M3 F2 o2)))
   have o:=A.un.ok _ mJ p (ea▸cD _ (.head _))
   have L3:LB Γ.T Γ.R Γ.S (h3.upd (bU 49 t) (.lst (zs.map cF))):=M3.I.A.L
   cases ny:Γ.nx p with
   |none=>exact dy (L3.uT (xk rfl) o (au Option.isSome ny)) (bf (tt.nx (.mk (aw zl (cw▸jh _ _)) λz=>(w z).trans (sA λ_=>sA λ_=>⟨λu=>kL.mpr (.inl u),λu=>(kL.mp u).elim id λu=>cK u ny⟩)) rfl))
   |some y=>exact cX (L3.uT (xk rfl) o (au Option.isSome ny)) (age L3 o ny (F3.old (aW es dB)) zl (dD (mid ea).2 (A.un.len _ mJ)) w λJ=>J.casesOn λzl w=>tt.nx (.mk zl w) rfl)
end
noncomputable abbrev rh:List Nat:=[31,32,33,34,35,36,37]
noncomputable abbrev tW:List Nat:=rh++[3,19,20,21,14,16,38,43,44,45,46,47]
noncomputable abbrev Px.hY(Γ:Px)(Fo:ah):Px:={Γ with Fo:=Fo}
structure Fin(Γ:Px)(h:H):Prop where
 M:Γ.M h
 fo:Tab 15 16 (a7 Γ.T Γ.R) Γ.Fo h
 row:∀st I,Γ.Cs[st]?=some I->qE Γ st I h
 d1:nh 31 fE Γ.Cs.length h
 d3:nh 32 hH Γ.Cs.length h
structure wW(Γ:Px)(h:H):Prop where
 obj:h bN=some (.inst .table λ_=>none)
 gr:Gr Γ.T Γ.R
 G:GP Γ.T Γ.R Γ.S h
 ps:k7 Γ.S Γ.R gY h
 fi:Em kH h
 fo:Em iH h
 first:∃b,Γ.R[0]?=some (Γ.S,b)
 un:d9 Γ
 top:iO∉bL Γ.R
 acc:∀I∈Γ.fc,((0,1):It)∈I->∀p∈I,p=(0,1)
 wl:∀I∈Γ.fc,I.length<=Γ.w
 sE:Γ.fc.length*(Γ.w*(Γ.T.length+1))<=800000
 free:∀{t} s ix,ca t tW=true->h (.mk t s ix)=none
noncomputable abbrev DT(Γ:Px)(h:H)(Q:ab):Prop:=∀vs Cs F Fo az h',lO Γ.T Γ.R F->mZ Γ.T Γ.R Γ.S F Fo->Tab 13 14 (ju Γ.T Γ.R) F h'->Fin ((Γ.hY Fo).out vs Cs az) h'->aC (2::13::15::30::tW) h h'->Q .none h'
inductive LL(h:H)(Q:ab):aj->Prop
 |mk{Γ:Px}:wW Γ h->DT Γ h Q->LL h Q [.ref bN,.ref gL,.str "SLR",.none]
noncomputable def zx:b6:=λus h Q=>LL h Q us
noncomputable def rN:b6:=λus=>JV (us++[.none])
noncomputable def abf:SW:=aB (cM (dw (aE (an 0) "grammar") "compute_follow" .dX rN aD)) (cM (dw (an 0) "lr_parse_table" .table zD aD))
noncomputable def abo:SW:=aB (cM (dw (aE (an 0) "grammar") "compute_first" .dX uu aD)) abf
noncomputable def Pn:SW:=aB (cM (dw (aE (an 0) "grammar") "build_lritems" .dX CM aD)) abo
noncomputable def abp:SW:=aB (aS (b5 (an 0) "rr_conflicts") (cx aD)) Pn
noncomputable def abq:SW:=aB (aS (b5 (an 0) "sr_conflicts") (cx aD)) abp
noncomputable def abr:SW:=aB (aS (b5 (an 0) "conflicts") (cx aD)) abq
noncomputable def abs:SW:=aB (aS (b5 (an 0) "rr_conflict") (aM 0)) abr
noncomputable def abt:SW:=aB (aS (b5 (an 0) "sr_conflict") (aM 0)) abs
noncomputable def abu:SW:=aB (aS (b5 (an 0) "_add_count") (aM 0)) abt
noncomputable def abg:SW:=aB (aS (b5 (an 0) "lr0_cidhash") fz) abu
noncomputable def abh:SW:=aB (aS (b5 (an 0) "lr_goto_cache") fz) abg
noncomputable def abi:SW:=aB (aS (b5 (an 0) "lr_productions") (aE (an 1) "Productions")) abh
noncomputable def abj:SW:=aB (aS (b5 (an 0) "lr_goto") fz) abi
noncomputable def abk:SW:=aB (aS (b5 (an 0) "lr_action") fz) abj
noncomputable def abl:SW:=aB (aS (b5 (an 0) "lr_method") (an 2)) abk
noncomputable def abm:SW:=aB (aS (b5 (an 0) "grammar") (an 1)) abl
noncomputable def abn:SW:=aB (a9 (aT .NotIn (an 2) (cx (aA (bR "SLR") (aA (bR "LALR") aD)))) jV aO) abm
noncomputable def Pm:SW:=abn
noncomputable def Hk(v:V):O:=cond (oK v) (.aF [] 0) (.lst [])
structure TS(av:H)(ds:Ks)(as:ac)(h:H):Prop where
 e:h bN=some (.inst .table as)
 at_:∀{d v},bj ds d=some v->h (lb d)=some (Hk v)
 vB:bj ds 30=none
 free:∀{d},ca d rh=true->bj ds d=none->h (lb d)=none
 fr:aC (30::rh) av h
section
variable{av:H}{ds:Ks}{ext:ac}{nm:Str}{p:Nat×V}{F:b6}{fs gs:List (Str×V)}
theorem O8(e:bj (p::ds) i=none):p.1≠i/\bj ds i=none:=by
 have e:cond (Nat.beq p.1 i) (some p.2) (bj ds i)=none:=e
 cases z:Nat.beq p.1 i with
 |true=>rw [z] at e;cases e
 |false=>rw [z] at e;exact⟨wD z,e⟩
theorem aaw(ne:p.1≠i)(e:bj ds i=none):bj (p::ds) i=none:=(au (λc=>cond c (some p.2) (bj ds i)) (j7.2 λz=>ne (Dz z))).trans e
theorem TS.ne(I:TS av ds as h)(e:bj ds d=some v):lb d≠bN:=λz=>cK ((L.mk.inj z).1▸e) I.vB
theorem vT(I:TS av ds as h)(p:Ek ks m h v)(q:∀h',TS av ds (bT as nm v) h'->Wk n ks s h' P)(hg:bj ks 0=some (.ref bN):=by exact rfl):Wk n ks (aB (aS (b5 (an 0) nm) m) s) h P:=
 im p (xk hg) I.e (q _ ⟨H.aJ,λe=>aW (I.at_ e) (I.ne e),I.vB,λhd e=>(H.bp λz=>by
  cases(L.mk.inj z).1;cases hd).trans (I.free hd e),I.fr.upd rfl⟩)
theorem tX(d:Nat)(v:V)(I:TS av ds as h)(p:h (lb d)=none->Ex ks m h (uh (lb d) h (Hk v)))(q:∀h',TS av ((d,v)::ds) (bT as nm (.ref (lb d))) h'->Wk n ks s h' P)(hg:bj ks 0=some (.ref bN):=by exact rfl)(hd:ca d rh=true:=by exact rfl)(nd:bj ds d=none:=by exact rfl)(vB:Nat.beq d 30=false:=by exact rfl):Wk n ks (aB (aS (b5 (an 0) nm) m) s) h P:=
 have f:=I.free hd nd
 v5 (p f) (xk hg) (dT I.e f) (q _ ⟨H.aJ,λ{e u} m=>Gc m (λa b=>a▸b▸aW H.aJ (bw vB)) λ_ m=>aW (dT (I.at_ m) f) (I.ne m),aaw (wD vB) I.vB,λ{e} he ne=>(H.bp λz=>by
  cases(L.mk.inj z).1;cases he).trans ((H.bp λz=>(O8 ne).1 (L.mk.inj z).1.symm).trans (I.free he (O8 ne).2)),(I.fr.upd (fF.mpr (.tail _ (fF.mp hd)))).upd rfl⟩)
theorem Yq:eX (fs++gs) ext=eX fs (eX gs ext):=vc λx=>(au (Option.or · (ext x)) List.lookup_append).trans Option.or_assoc
theorem afA(p:PJ i ext):gR i x b ext=Bq i x b ext:=(Yq.trans (au (eX (Bo i x b)) (xH (bq.2 ⟨p.2.1,bq.2 ⟨p.2.2,λ_ z=>absurd z a0⟩⟩)))).symm
theorem eU.gU(G:eU h)(p:Ek ks o h (.ref gL))(hn:Fa.contains nm=true)(n2:xL.lookup nm=none)(pa:gC ks ms h vs)(q:∀Q:ab,(∀v h',Φ v h'->Q v h')->F (.ref gL::vs) h Q):Ex ks (dw o nm .dX F ms) h Φ:=G.casesOn λe na=>Mine.gU p e ((nK n2).trans (na _ (Dj.1 hn))) pa q
theorem LB.of{T:ai}{R:List aH}{S:Sy}(gr:Gr T R)(sl:S∈bL R)(G:GP T R S h)(I:wm S R h):LB T R S h:=⟨gr,sl,G,λi x b z=>(I i x b z).bS,λi x b z=>(I i x b z).done⟩
theorem pE.dA{S:Sy}{R:List aH}(I:wm S R h):pE S R 0 (λ_=>True) h:=λi x b z=>(I i x b z).p.casesOn λe p=>.mk (e.trans (au (λa=>some (O.inst .dg a)) (afA p))) (p.1 _ (by decide+kernel)) (.no (p.1 _ (by decide+kernel))) (cB 0) ⟨λ_=>gh,λ_=>rfl⟩ (.no (p.1 _ (by decide+kernel)))
theorem Fin.re{Γ:Px}(O:Fin Γ h)(M:Γ.M h')(s:bC [15,16,44,46,31,32] h h'):Fin Γ h':=⟨M,O.fo.same (s.sub rfl),λst I e=>(O.row st I e).at_ (s _ _ _ rfl) (s _ _ _ rfl),O.d1.imp λ_ e=>(s _ _ _ rfl).trans e,O.d3.imp λ_ e=>(s _ _ _ rfl).trans e⟩
theorem Fin.cO{Γ:Px}{ts:List Nat}(O:Fin Γ h)(F:aC ts h h')(w:jS ([15,16,44,46,31,32]++q4) ts=true):Fin Γ h':=
 have s:=F.same w
 O.re (O.M.old (s.sub rfl) F.old) (s.sub rfl)
end
noncomputable def H7:Ks:=[(36,.int 0),(35,.int 0),(37,.int 0),(34,.none),(33,.none),(32,.none),(31,.none)]
noncomputable def z7(as:ac):Prop:=eX (tS 0) as=as/\∀n∈BY,as n=none
inductive LI(Γ:Px)(h:H):V->H->Prop
 |mk{v:V}{h':H}{F:ah}:lO Γ.T Γ.R F->Tab 13 14 (ju Γ.T Γ.R) F h'->aC [13,14] h h'->LI Γ h v h'
inductive LJ(Γ:Px)(F:Sy->List Sy)(h:H):V->H->Prop
 |mk{v:V}{h':H}{Fo:ah}:mZ Γ.T Γ.R Γ.S F Fo->Tab 15 16 (a7 Γ.T Γ.R) Fo h'->aC [15,16] h h'->LJ Γ F h v h'
inductive LK(Γ:Px)(h:H):V->H->Prop
 |mk{v:V}{h':H}{vs:List Nat}{Cs:List ak}:PO (Γ.out vs Cs h) Cs.length h'->LK Γ h v h'
section
variable{Γ:Px}{av h1 h3:H}{us:aj}{vs:List Nat}{Cs:List ak}
theorem z7.tab(t:z7 as)(e:h bN=some (.inst .table as)):ld 0 h:=.mk (ext:=as) (e.trans (au (λa=>some (O.inst .table a)) t.1.symm)) t.2
theorem PO.fin(O:PO Γ Γ.Cs.length h):Fin Γ h:=⟨O.M,O.fo,λst I e=>O.row st I (cm.1 e).1 e,O.d1,O.d3⟩
theorem d9.hY(u:d9 Γ):d9 (Γ.hY Fo):=⟨u.gT,u.step,u.ok,u.len,u.u1,u.u2,u.ul,u.sl⟩
theorem wW.pts(C:wW Γ h)(W:mZ Γ.T Γ.R Γ.S F Fo):iY (Γ.hY Fo):=⟨C.un.hY,λx hx=>⟨(W.good.nt x hx).1,λt ht=>((W.good.nt x hx).2 t ht).u⟩,C.top,C.acc,C.wl,C.sE⟩
theorem aim(C:wW Γ av)(q:DT Γ av Q)(I:TS av H7 as h)(tA:z7 as)(I1:wm Γ.S Γ.R h1)(F1:aC jR h h1)(FS:lO Γ.T Γ.R F)(T2:Tab 13 14 (ju Γ.T Γ.R) F h3)(W:mZ Γ.T Γ.R Γ.S F Fo)(T3:Tab 15 16 (a7 Γ.T Γ.R) Fo h3)(CC:aC [13,14,15,16] h1 h3):Wk 5 [(0,.ref bN)] (cM (dw (an 0) "lr_parse_table" .table zD aD)) h3 (Rt Q):=by
 have F3:aC ([13,14,15,16]++jR) h h3:=(F1.wide rfl).trans (CC.wide rfl)
 have e:h3 bN=_:=(F3.at_ _ _ rfl).trans I.e
 have fr:∀{t} s ix,(ca t tW&&jS [t] ([13,14,15,16]++jR++(30::rh)))=true->h3 (.mk t s ix)=none:=λ{t} s ix m=>
  have m:=bu m
  have m2:=fT m.2 (t:=t) (fF.mpr (.head _))
  (F3.at_ s ix (vR (fq:=[13,14,15,16]++jR++(30::rh)) rfl m2)).trans ((I.fr.at_ s ix (vR (fq:=[13,14,15,16]++jR++(30::rh)) rfl m2)).trans (C.free s ix m.1))
 have em:∀{d v},bj H7 d=some v->ca d ([13,14,15,16]++jR)=false->h3 (lb d)=some (Hk v):=λe m=>(F3.at_ _ _ m).trans (I.at_ e)
 have A:d8 Γ.T Γ.R Γ.S Γ.U h3:=⟨(LB.of C.gr (C.first.elim λb e=>iK.mpr ⟨_,cP e,rfl⟩) ((C.G.same (I.fr.same rfl)).same (F1.same rfl)) I1).same (CC.same rfl),⟨0,tA.tab e,_,(pE.dA I1).same (CC.same rfl)⟩,[],(λ_ _ z=>nomatch z),λ_ _=>fr _ _ rfl,[],0,em (d:=33) rfl rfl,.nil,(λ_ _ z=>cK z rfl),λ_ _ _ z=>cK z rfl⟩
 refine vZ (Φ:=LK (Γ.hY Fo) h3) ((tA.tab e).tb.gU (xk rfl) (by decide+kernel) (λ_=>by kernel_rfl) e7 λQ k=>.mk (Γ:=Γ.hY Fo) A (C.pts W) T3 (.mk (em (d:=34) rfl rfl)) (fr _ _ rfl) (.mk (em (d:=31) rfl rfl)) (.mk (em (d:=32) rfl rfl)) (em (d:=35) rfl rfl) (em (d:=36) rfl rfl) (λ{t} i m=>?_) (fr _ _ rfl) λvs Cs h' O=>k _ _ (.mk O)) λv h4 z g _=>?_
 ·exact(F3.at_ _ _ (fT (ts:=[44,45,46]) rfl m)).trans ((I.fr.at_ _ _ (fT (ts:=[44,45,46]) rfl m)).trans (C.free _ _ (jC (ts:=[44,45,46]) rfl m)))
 ·cases z with
  | @mk vs Cs O=>exact q vs Cs F Fo h3 h4 FS W (T2.same (O.fr.same rfl)) O.fin ((I.fr.wide rfl).trans ((F3.wide rfl).trans (O.fr.wide rfl)))
theorem ain(C:wW Γ av)(q:DT Γ av Q)(I:TS av H7 as h)(tA:z7 as):Wk 5 [(0,.ref bN)] Pn h (Rt Q):=by
 have G:=C.G.same (I.fr.same (fq:=AA) rfl)
 have xg:∀{h'},h' bN=some (.inst .table as)->Ek [(0,.ref bN)] (aE (an 0) "grammar") h' (.ref gL):=λe=>(tA.tab e).tb.mP (xk rfl)
 refine a8 (vZ (Φ:=λv h1=>wm Γ.S Γ.R h1/\aC jR h h1) (G.g.gU (xg I.e) (by decide+kernel) (by kernel_rfl) e7 λQ k=>G.pn.d.elim λn sJ=>.mk G.g G.nW sJ (C.ps.same (I.fr.same rfl)) (bq.2 ⟨eH rfl,C.gr.len⟩) (λ{t} s ix m=>(I.fr.at_ _ _ (fT (ts:=[3,19,20,21]) rfl m)).trans (C.free _ _ (jC (ts:=[3,19,20,21]) rfl m))) λh1 I1 F1=>k _ _ ⟨I1,F1⟩) λ_ h1 z=>bi ?_)
 have F1:=z.2
 have G1:=G.same (F1.same (fq:=AA) rfl)
 have P1:k7 Γ.S Γ.R (λ_=>True) h1:=λi x b w=>(z.1 i x b w).p.imp λ_ _=>gh
 have e1:=(F1.at_ _ _ rfl).trans I.e
 refine a8 (vZ (Φ:=LI Γ h1) (G1.g.gU (xg e1) (by decide+kernel) (by kernel_rfl) e7 λQ k=>.mk C.gr G1 P1 (C.fi.same ((F1.at_ _ _ rfl).trans (I.fr.at_ _ _ rfl))) (λx=>(F1.at_ _ _ rfl).trans ((I.fr.at_ _ _ rfl).trans (C.free _ _ rfl))) λF h2 a b c=>k _ _ (.mk a b c)) λ_ h2 y=>bi ?_)
 cases y with
 | @mk F FS T2 F2=>
  have G2:=G1.same (F2.same (fq:=AA) rfl)
  refine a8 (vZ (Φ:=LJ Γ F h2) (G2.g.gU (F:=rN) (xg ((F2.at_ _ _ rfl).trans e1)) (by decide+kernel) (by kernel_rfl) e7 λQ k=>(.mk C.gr G2 (P1.same (F2.same rfl)) C.first T2 FS (C.fo.same ((F2.at_ _ _ rfl).trans ((F1.at_ _ _ rfl).trans (I.fr.at_ _ _ rfl)))) (λx=>(F2.at_ _ _ rfl).trans ((F1.at_ _ _ rfl).trans ((I.fr.at_ _ _ rfl).trans (C.free _ _ rfl)))) λFo h3 a b c=>k _ _ (.mk a b c):zj h2 Q [.ref gL,.none])) λ_ h3 y=>bi ?_)
  cases y with
  | @mk Fo W T3 F3=>exact aim C q I tA z.1 F1 FS (T2.same (F3.same rfl)) W T3 ((F2.wide rfl).trans (F3.wide rfl))
noncomputable abbrev yO:Sy:=⟨"SLR",by decide+kernel⟩
noncomputable abbrev OY:Sy:=⟨"LALR",by decide+kernel⟩
theorem aiN{n:Nat}{ks:Ks}{op:CmpOp}{m m':EW}{v:V}{Φ:ab}{s t:SW}{P:Pt}(p:Ek ks m h v)(q:Ex ks m' h Φ)(r:∀w h',Φ w h'->Wk n ks (a9 (aT op (cV v) (cV w)) s t) h' P):Wk n ks (a9 (aT op m m') s t) h P:=λg K=>p g K.at_ _ (q g K.at_ _ λw h' z=>r w h' z g K)
theorem aio(q:zx us h Q):Pm (us.map some++[none]) h λfl _ h'=>Q (c7 fl) h':=by
 cases q with
 | @mk Γ C q=>
  refine(a8 (n:=5) (aiN (v:=sv yO) (xk rfl) (v9 (eE df df) (eH rfl)) λw h' z=>?_)) _ (Kn.dA (n:=5) (ks:=[(2,sv yO),(1,.ref gL),(0,.ref bN)]) rfl rfl)
  cases z with
  | @mk n hn=>
   have I0:TS h [] (λ_=>none) (h.upd (.ay n) (.lst ([yO,OY].map sv))):=⟨aW C.obj dZ,λz=>cK z rfl,rfl,λ{d} hd _=>(H.bp dZ).trans (C.free _ _ (jC (ts:=rh) rfl hd)),aC.refl.new hn⟩
   refine dy (oy (x:=yO) (xs:=[yO,OY]) lH lH H.aJ (au Bool.not (cE (.head _)))) (bf (bi (vT I0 (xk (i:=1) rfl) λh1 I1=>vT I1 (xk (i:=2) rfl) λh2 I2=>tX 31 .none I2 v7 λh3 I3=>tX 32 .none I3 v7 λh4 I4=>vT I4 (mS (xk (i:=1) rfl) (C.G.g.same (I4.fr.same rfl))) λh5 I5=>tX 33 .none I5 v7 λh6 I6=>tX 34 .none I6 v7 λh7 I7=>vT I7 bF λh8 I8=>vT I8 bF λh9 I9=>vT I9 bF λh10 Vg=>
    tX 37 (.int 0) Vg (λf=>v8 f e7 (bH _)) λh11 Vh=>tX 35 (.int 0) Vh (λf=>v8 f e7 (bH _)) λh12 Vi=>tX 36 (.int 0) Vi (λf=>v8 f e7 (bH _)) λOj Vj=>(ain C q Vj ⟨xH (bq.2 ⟨?_,bq.2 ⟨?_,bq.2 ⟨?_,bq.2 ⟨?_,bq.2 ⟨?_,bq.2 ⟨?_,bq.2 ⟨?_,bq.2 ⟨?_,bq.2 ⟨?_,λ_ z=>absurd z a0⟩⟩⟩⟩⟩⟩⟩⟩⟩),(Dq (g:=λ_=>none)).mp ?_⟩).sub rfl)))
   all_goals kernel_rfl
end
noncomputable abbrev fJ(N:ai):List Str:=N.map λx=>x.1
structure zT(R:List aH)(N:ai):Prop where
 ff:∀x b,(x,b)∈R->(∀y∈b,y∈N)->x∈N
 least:∀J:Sy->Prop,(∀x b,(x,b)∈R->(∀y∈b,J y)->J x)->∀x∈N,J x
noncomputable abbrev KW(Γ:Px)(h:H)(Q:ab):Prop:=∀(n:Nat) (N:ai) (h':H),zT Γ.R N->h' (.ay n)=some (.set (fJ N))->Ext h h'->Q (.ref (.ay n)) h'
inductive KV(h:H)(Q:ab):aj->Prop
 |mk{Γ:Px}:Γ.A h->KW Γ h Q->KV h Q [.ref bN]
noncomputable def zB:b6:=λus h Q=>KV h Q us
noncomputable def aco:SW:=aB (cM (bY (an 1) "set" vP (aA (aE (an 3) "name") aD))) BD
noncomputable def PU:SW:=aB (a9 (aT .Eq (aE (an 3) "len") (aM 0)) aco aO) (bX (bB (aE (an 3) "prod")) false (a5 4) (a9 (aT .NotIn (an 4) (an 1)) q8 aO) (cM (bY (an 1) "set" vP (aA (aE (an 3) "name") aD))))
noncomputable def acp:SW:=aB (a9 (aT .Eq (bv dQ (aA (an 1) aD)) (an 2)) q8 aO) (aZ 2 (bv dQ (aA (an 1) aD)))
noncomputable def PV:SW:=aB (bX (bB (nH (aE (aE (an 0) "grammar") "Productions") (aM 1))) false (a5 3) PU aO) acp
noncomputable def acq:SW:=aB (o5 (bE (hX true)) PV aO) (eA (an 1))
noncomputable def acr:SW:=aB (aZ 2 (aM 0)) acq
noncomputable def acs:SW:=aB (aZ 1 (bv rP aD)) acr
noncomputable def PT:SW:=acs
structure gH(Γ:Px)(n:Nat)(av:H)(fD:ai)(i:Nat)(N:ai)(h:H):Prop where
 nodup:N.Nodup
 hd:∀x∈N,x∈bL Γ.R
 least:∀J:Sy->Prop,(∀x b,(x,b)∈Γ.R->(∀y∈b,J y)->J x)->∀x∈N,J x
 set:h (.ay n)=some (.set (fJ N))
 fr:Ext av h
 pre:∃r,N=fD++r
 cl:N=fD->∀j x b,j<i->Γ.R[j]?=some (x,b)->(∀y∈b,y∈fD)->x∈fD
noncomputable def qX(n v:Nat):Ks:=[(2,.int v),(1,.ref (.ay n)),(0,.ref bN)]
noncomputable abbrev HB(R:List aH):aj:=(List.range R.length).map λi=>cq (i+1)
inductive zS(Γ:Px)(n n2 k:Nat)(av:H)(fD:ai)(a:List Nat):Ks->H->Prop
 |mk{N:ai}{h:H}:gH Γ n av fD a.length N h->h (.ay n2)=some (.lst (HB Γ.R))->zS Γ n n2 k av fD a (qX n k) h
inductive KU(n k i:Nat)(N:ai)(h:H)(a:ai):Ks->H->Prop
 |mk:(∀y∈a,y∈N)->KU n k i N h a ((3,cq (i+1))::qX n k) h
inductive DD(Γ:Px)(n:Nat)(av:H)(j:Nat):Ks->H->Prop
 |mk{N:ai}{h:H}:j+N.length=Γ.R.length->gH Γ n av N 0 N h->DD Γ n av j (qX n N.length) h
section
variable{Γ:Px}{av:H}{n2:Nat}{fD:ai}{us:aj}{c:Bool}{a:List Nat}{ys:List Str}{l:L}
theorem tu:x.1∈fJ N↔x∈N:=⟨λh=>(bg.1 h).elim λy z=>wU z.2▸z.1,λh=>bg.2 ⟨x,h,rfl⟩⟩
theorem ah':(if x.1∈fJ N then fJ N else fJ N++[x.1])=fJ (c4 N x):=(aN (x∈N)).elim (λm=>(bz (tu.mpr m)).trans (au fJ (kr m).symm)) λm=>(bD λz=>m (tu.mp z)).trans ((gF (f:=λx:Sy=>x.1) (l₁:=N) (l₂:=[x])).symm.trans (au fJ (iD m).symm))
theorem gH.len(I:gH Γ n av fD i N h):N.length<=Γ.R.length:=aw (mH I.nodup I.hd) Fj
theorem L6:∃r,c4 N x=N++r:=(aN (x∈N)).elim (λm=>⟨[],(kr m).trans (gy _).symm⟩) λm=>⟨[x],iD m⟩
theorem Hz{α:Type}{a b c:List α}(p:∃r,b=a++r)(q:∃r,c=b++r):∃r,c=a++r:=p.elim λr e=>q.elim λs f=>⟨r++s,f.trans ((au (·++s) e).trans (kY ..))⟩
theorem Bs{α:Type}{a b:List α}(p:∃r,b=a++r):a.length<=b.length:=p.elim λr e=>e▸cw.symm▸jh _ _
theorem Si{α:Type}{a b:List α}(p:∃r,b=a++r)(e:b.length=a.length):b=a:=p.elim λr f=>f.trans ((au (a++·) (rV (Nat.add_left_cancel ((cw.symm.trans ((au List.length f).symm.trans e)).trans (KI _).symm)))).trans (gy a))
theorem gH.next(I:gH Γ n av fD i N h)(e:Γ.R[i]?=some (x,b))(w:N=fD->(∀y∈b,y∈fD)->x∈fD)(j:Nat)(x':Sy)(b':ai)(hj:j<i+1)(e':Γ.R[j]?=some (x',b'))(al:∀y∈b',y∈fD)(z:N=fD):x'∈fD:=(lR j i).elim (λu=>I.cl z j x' b' u e' al) λu=>by
 cases iz (ji hj) u
 cases bc (e.symm.trans e')
 exact w z al
theorem gH.add(I:gH Γ n av fD i N h)(hn:av (.ay n)=none)(e:Γ.R[i]?=some (x,b))(al:∀y∈b,y∈N):gH Γ n av fD (i+1) (c4 N x) (h.upd (.ay n) (.set (if x.1∈fJ N then fJ N else fJ N++[x.1]))):=
 have m:=cP e
 have back:c4 N x=fD->N=fD:=λz=>Si I.pre (iz (aw (Bs L6) (aL (au _ z))) (Bs I.pre))
 ⟨sw I.nodup,λz hz=>(fU.mp hz).elim (I.hd z) λe=>iK.mpr ⟨_,m,e.symm⟩,λJ cl z hz=>(fU.mp hz).elim (I.least J cl z) λe=>e▸cl x b m λy hy=>I.least J cl y (al y hy),H.aJ.trans (au (λl=>some (O.set l)) ah'),I.fr.ay hn,Hz I.pre L6,λz j x' b' hj e' Ec=>I.next e (λ_ _=>z▸fU.mpr (.inr rfl)) j x' b' hj e' Ec (back z)⟩
theorem gH.skip(I:gH Γ n av fD i N h)(e:Γ.R[i]?=some (x,b))(na:¬∀y∈b,y∈N):gH Γ n av fD (i+1) N h:=
 ⟨I.nodup,I.hd,I.least,I.set,I.fr,I.pre,λz j x' b' hj e' Ec=>I.next e (λz al=>absurd (z▸al) na) j x' b' hj e' Ec z⟩
theorem Ua(po:Ek ks m h (.ref l))(e:h l=some (.set ys))(hl:ys.length<1000)(pa:Ek ks m' h (sv x))(q:Wf k ks (h.upd l (.set (if x.1∈ys then ys else ys++[x.1]))) P):Wk k ks (cM (bY m "set" vP (aA m' aD))) h P:=λg K=>po g K.at_ _ ⟨.set e,pa g K.at_ _ (.mk e hl (q g K))⟩
theorem Es(e:h l=some (.set (fJ N)))(p:Ek ks m h (sv y))(q:Ek ks m' h (.ref l))(eb:(!decide (y∈N))=c):Eb ks (aT .NotIn m m') h c:=fS p q λQ r=>.set e ((au Bool.not (Ao.2 tu)).trans eb▸r)
theorem IK(e:h l=some (.set (fJ N)))(p:Ek ks m h (.ref l)):Ek ks (bv dQ (aA m aD)) h (.int (N.length:Nat)):=λg K _ q=>p g K _ (.got (.set e ((bx (as:=N) λx:Sy=>x.1).symm▸q)))
theorem aeP(A:Γ.A av)(hn:av (.ay n)=none)(ne:n≠n2)(e:Γ.R[a.length]?=some (x,b))(I:gH Γ n av fD a.length N h)(e2:h (.ay n2)=some (.lst (HB Γ.R)))(t:Turn 7 P P' (zS Γ n n2 k av fD (a++[i]))):Wk 7 ((3,cq (a.length+1))::qX n k) PU h P':=by
 have Ah:Γ.A h:=A.cO I.fr rfl
 have e1:(cY Γ.S Γ.R)[a.length+1]?=some (x,b):=e
 have nl:(fJ N).length<1000:=b7 (aw (aL (bx _)) (aw I.len A.L.gr.rl)) (by decide)
 have la:(a++[i]).length=a.length+1:=cw
 have ad:(∀y∈b,y∈N)->zS Γ n n2 k av fD (a++[i]) (qX n k) _:=λal=>.mk (la▸I.add hn e al) (aW e2 λz=>ne (L.ay.inj z).symm)
 refine(aN (b=[])).elim (λhb=>?_) λhb=>?_
 ·exact a8 (cX (kD (x:=(b.length:Nat)) (Ah.mR (xk rfl) e1 (by kernel_rfl)) bF (hb▸rfl)) (a8 (Ua (xk rfl) I.set nl (Ah.mR (xk rfl) e1 (by kernel_rfl)) (bi (B7 (t.ct (ad λy hy=>absurd (hb▸hy) a0) rfl))))))
 ·refine io (kD (x:=(b.length:Nat)) (Ah.mR (xk rfl) e1 (by kernel_rfl)) bF (nF.2 λz=>hb (rV (jJ z)))) ?_
  refine B9 (xs:=b) (f:=sv) (bJ:=(3,cq (a.length+1))::qX n k) (Inv:=KU n k a.length N h) (Ah.mR (xk rfl) e1 (by kernel_rfl)) (.mk λ_ z=>absurd z a0) (λc y r ks h' ea J pD tt=>J.casesOn λal=>?_) λks h' J=>J.casesOn λal=>Ua (xk rfl) I.set nl (Ah.mR (xk rfl) e1 (by kernel_rfl)) (t.nx (ad al) rfl)
  exact o3 (p:=y∈N) (Es I.set (xk rfl) (xk rfl) rfl) (λm=>t5 (tt.brk (t.nx (.mk (la▸I.skip e λz=>m (z y (ea▸cD _ (.head _)))) e2) rfl))) λm=>bf (tt.nx (.mk λz hz=>(bO.1 hz).elim (al z) λu=>a6.1 u▸m) rfl)
theorem II(p:Ek ks m h (.ref l))(q:Ek ks m' h (.int j))(e:h l=some (.lst vs))(hl:vs.length<=1000000):Ex ks (nH m m') h (fO h (vs.drop j)):=λg K Q z=>p g K _ (q g K _ (.lst (gx j) (.inl e) hl (gA λn hn=>z _ _ (.mk hn))))
theorem afK{R:List aH}:((List.range (R.length+1)).map cq).drop 1=HB R:=by rw [List.range_succ_eq_map,List.map_cons,List.drop_succ_cons,List.drop_zero,List.map_map];rfl
theorem ajF:Ex ks (bv rP aD) h λv h'=>∃n,v= .ref (.ay n)/\h (.ay n)=none/\h'=h.upd (.ay n) (.set []):=λg K Q z=>.inl ⟨rfl,gA λn hn=>z _ _ ⟨n,rfl,hn,rfl⟩⟩
end
section
variable{Γ:Px}{av:H}{m:Nat}{N':ai}{us:aj}
theorem gH.re(J:gH Γ n av N 0 N h)(X:Ext h h'):gH Γ n av N 0 N h':=⟨J.nodup,J.hd,J.least,X.old J.set,J.fr.trans X,J.pre,J.cl⟩
theorem gH.start(J:gH Γ n av N i N' h):gH Γ n av N' 0 N' h:=⟨J.nodup,J.hd,J.least,J.set,J.fr,⟨[],(gy _).symm⟩,λ_ _ _ _ z=>absurd z (m9 _)⟩
theorem aeQ(A:Γ.A av)(q:KW Γ av Q)(hn:av (.ay n)=none)(hm:j+N.length=Γ.R.length)(I:gH Γ n av N 0 N h)(t:Turn 7 (ij (eA (an 1)) (Rt Q)) P' (λks h=>∃j',j'<j/\DD Γ n av j' ks h)):Wk 7 (qX n N.length) PV h P':=by
 have A1:Γ.A h:=A.cO I.fr rfl
 have rl:=A.L.gr.rl
 refine a8 (yX (II (j:=1) (mS (A1.tb.mP (xk rfl)) A1.L.G.g) bF A1.L.G.nW (aw (aL ((bx _).trans iw)) (aw (cS rl) (by decide)))) λv h2 z=>?_)
 cases z with
 | @mk n2 xX=>
  have ne:n≠n2:=λz=>cK I.set (z▸xX)
  refine fB (xs:=List.range Γ.R.length) (f:=λi=>cq (i+1)) (Inv:=zS Γ n n2 N.length av N) lH (λa ks h' J=>J.casesOn λ_ e=>e) (.mk (I.re (aC.refl.new xX)) (H.aJ.trans (au (λl=>some (O.lst l)) afK))) (λa i r ks h' ea J pD tt=>J.casesOn λ{N' h'} I' e2=>?_) λks h' J=>J.casesOn λ{N' h'} J e2=>bf (bi ?_)
  ·have km:=HI ea
   have ex:∃r,Γ.R[a.length]?=some r:=⟨_,fu km.2⟩
   exact ex.elim λr eR=>km.1▸aeP (i:=i) A hn ne eR I' e2 tt
  ·rw [List.length_range] at J
   refine(aN (N'.length=N.length)).elim (λz=>?_) λz=>?_
   ·cases Si J.pre z
    exact a8 (cX (kD (IK J.set (xk rfl)) (xk rfl) (iF _)) (t5 (t.brk (bi (il (ks:=qX n N.length) (xk rfl) λ_=>q n N h' ⟨λx b m al=>(jL.1 m).elim λi ei=>J.cl rfl i x b (cm.1 ei).1 ei al,J.least⟩ J.set J.fr)))))
   ·have ll:=rZ (Bs J.pre) λw=>z w.symm
    have nl:=J.len
    exact io (kD (IK J.set (xk rfl)) (xk rfl) (nF.2 λw=>z (jJ w))) (lF (IK J.set (xk rfl)) (t.nx ⟨Γ.R.length - N'.length,Nat.lt_of_add_lt_add_right (b7 (aL ((r0 nl).trans hm.symm)) (KH ll j)),.mk (r0 nl) J.start⟩ rfl))
theorem aeR(q:zB us h Q):PT (us.map some++List.replicate 6 none) h λfl _ h'=>Q (c7 fl) h':=by
 cases q with
 | @mk Γ A q=>
  refine(dO (n:=7) ajF λv h1 z=>z.elim λn z=>?_) _ (.dA (ks:=[(0,.ref bN)]) rfl rfl)
  obtain⟨rfl,hn,rfl⟩:=z
  exact dC bF (a8 (rC (I:=DD Γ n h) Γ.R.length (.mk (N:=[]) rfl ⟨jg,λ_ z=>absurd z a0,λ_ _ _ z=>absurd z a0,H.aJ,aC.refl.new hn,⟨[],rfl⟩,λ_ _ _ _ z=>absurd z (m9 _)⟩) λm ks h1 J=>J.casesOn λhm I=>.inr ⟨kC jZ,λP' t=>aeQ A q hn hm I t⟩))
end
noncomputable abbrev uZ(c:Nat)(h:PyData.strOk ⟨#[c]⟩=true):Sy:=⟨⟨#[c]⟩,h⟩
noncomputable abbrev nA:Sy:=uZ 65 (by decide+kernel)
noncomputable abbrev nB:Sy:=uZ 66 (by decide+kernel)
noncomputable abbrev nS:Sy:=uZ 83 (by decide+kernel)
noncomputable abbrev ta:Sy:=uZ 97 (by decide+kernel)
noncomputable abbrev tb:Sy:=uZ 98 (by decide+kernel)
noncomputable abbrev tc:Sy:=uZ 99 (by decide+kernel)
noncomputable def tR(j:Nat):Sy:=[nA,nB,ta,tb].getD j tc
noncomputable def fK(m:Nat):Nat->ai:=m.rec (λ_=>[]) λ_ f k=>if k%6=0 then [] else tR (k%6 - 1)::f (k/6)
inductive LC(h:H)(Q:ab):aj->Prop
 |mk{k m:Nat}:m<=100->(∀v h',fO h ((fK m k).map sv) v h'->Q v h')->LC h Q [.int k,.int m]
noncomputable def mX:b6:=λus h Q=>LC h Q us
noncomputable def acX:SW:=aB (cM (bY (an 2) "list" de (aA (a3 (bR "ABabc") (cR .Sub (cR .Mod (an 0) (aM 6)) (aM 1))) aD))) (aZ 0 (cR .FloorDiv (an 0) (aM 6)))
noncomputable def acY:SW:=aB (o5 (du (bE (cR .Mod (an 0) (aM 6))) (du (aT .Lt (bv dQ (aA (an 2) aD)) (an 1)) dI)) acX aO) (eA (an 2))
noncomputable def acZ:SW:=aB (aZ 2 (cx aD)) acY
noncomputable def Qs:SW:=acZ
noncomputable def vS(n m k:Nat):Ks:=[(2,.ref (.ay n)),(1,.int m),(0,.int k)]
inductive LA(h:H)(n m k j:Nat):Ks->H->Prop
 |mk{k':Nat}{acc:ai}:j+acc.length=m->acc++fK j k'=fK m k->LA h n m k j (vS n m k') (h.upd (.ay n) (.lst (acc.map sv)))
section
variable{x y:Nat}{us:aj}{z:Str}
theorem BU:(fK j k).length<=j:=by
 induction j generalizing k with
 |zero=>exact cB _
 |succ j ih=>
  show(if k%6=0 then [] else tR (k%6 - 1)::fK j (k/6)).length<=j+1
  split
  ·exact bH _
  ·exact cS ih
theorem UL(p:Ek ks m h (.int x))(q:Ek ks m' h (.int y))(hy:(0:Int)<(y:Nat)):Ek ks (cR .Mod m m') h (.int ((x%y:Nat):Int)):=λg K _ k=>p g K _ (q g K _ (.int hy k))
theorem UB(p:Ek ks m h (.int x))(q:Ek ks m' h (.int y))(hy:(0:Int)<(y:Nat)/\((y:Nat):Int)<=1000000000):Ek ks (cR .FloorDiv m m') h (.int ((x/y:Nat):Int)):=λg K _ k=>p g K _ (q g K _ (.mk hy k))
theorem Ux(p:Ek ks m h (.int j))(e:z.cps[j]?=some c)(hj:j<=1000000):Ek ks (a3 (bR z) m) h (.str ⟨#[c]⟩):=λg K _ k=>p g K _ (.str (tM hj) ((au (Option.bind · _) (Fy (rK.1 e).1)).trans (au (Option.map _) e)) k)
noncomputable def c5(j:Nat):Nat:=[65,66,97,98].getD j 99
theorem Tq:∀j<5,("ABabc":Str).cps[j]?=some (c5 j)/\(⟨#[c5 j]⟩:Str)=(tR j).1:=by decide+kernel
theorem aia(q:mX us h Q):Qs (us.map some++[none,none]) h λfl _ h'=>Q (c7 fl) h':=by
 cases q with
 | @mk k m hm q=>
  refine(v4 (ks:=[(1,.int (m:Nat)),(0,.int (k:Nat))]) (n:=3) e7 (bH _) λn hn=>a8 (rC (I:=LA h n m k) m (.mk (acc:=[]) rfl rfl) λj ks h' J=>J.casesOn λ{k' acc} hj eF=>?_)) _ (.dA rfl rfl)
  have md:Ek (vS n m k') (cR .Mod (an 0) (aM 6)) (h.upd (.ay n) (.lst (acc.map sv))) (.int ((k'%6:Nat):Int)):=UL (y:=6) (xk rfl) bF (by decide)
  have al:acc.length<=m:=hj▸rY _ _
  have len:Ek (vS n m k') (bv dQ (aA (an 2) aD)) (h.upd (.ay n) (.lst (acc.map sv))) (.int (acc.length:Nat)):=rI (xk rfl) H.aJ (eP (aw al (aw hm (by decide)))) (au _ (bx _))
  have out:fK j k'=[]->Wk 3 (vS n m k') aO (h.upd (.ay n) (.lst (acc.map sv))) (ij (eA (an 2)) λfl _ h'=>Q (c7 fl) h'):=λe=>bf (bi (il (xk rfl) λ_=>((au (acc++·) e).symm.trans eF).symm.trans (gy acc)▸q _ _ (.mk hn)))
  refine(aN (k'%6=0)).elim (λz=>.inl ⟨lZ (Ac md (au (λk:Nat=>(k:Int)!=0) z)),out ?_⟩) λz=>?_
  ·cases j with
   |zero=>rfl
   |succ j=>exact bz z
  ·have c1:Eb (vS n m k') (bE (cR .Mod (an 0) (aM 6))) (h.upd (.ay n) (.lst (acc.map sv))) true:=Ac md (lg.2 λw=>z (jJ w))
   cases j with
   |zero=>exact .inl ⟨hV c1 (lZ (qK len (xk rfl) (cQ (hj▸(og acc.length).symm▸Kb _)))),out rfl⟩
   |succ j=>
    have am:acc.length<m:=hj▸Nat.lt_add_of_pos_left (iA j)
    have s5:k'%6 - 1<5:=dD (Nat.sub_one_lt z) (ji (wB k' (by decide)))
    have eS:fK (j+1) k'=tR (k'%6 - 1)::fK j (k'/6):=bD z
    refine .inr ⟨hV c1 (hV (qK len (xk rfl) (cE (iW.2 am))) kE),λP' t=>a8 (t4 (e:=tR (k'%6 - 1)) (xk rfl) (dD am (aw hm (by decide))) ?_ (bi (lF (UB (y:=6) (xk rfl) bF (by decide)) (t.nx ⟨j,jM j,.mk ?_ ?_⟩ rfl))))⟩
    ·exact(show Ek (vS n m k') _ _ (V.str (tR (k'%6 - 1)).1) from(Tq _ s5).2▸Ux (y9 (z:=((k'%6 - 1:Nat):Int)) md bF (Kg (KO z)).symm) (Tq _ s5).1 (aw (cN s5) (by decide)))
    ·exact cw▸((wx j acc.length 1).symm.trans ((Dy j acc.length 1).trans hj))
    ·exact(kY ..).trans ((au (acc++·) eS.symm).trans eF)
end
inductive Nw(h:H)(vs:aj):ab
 |mk{n:Nat}{h':H}:h' (.ay n)=some (.lst vs)->Ext h h'->Nw h vs (.ref (.ay n)) h'
section
variable{α:Type}{f f':α->V}{xs:List α}{jx:Nat}{h1:H}{us:aj}{a b:EW}{Inv:List α->Ks->H->Prop}{t:SW}{l:L}{y:Str}
theorem Uu(p:Ex ks a h (fO h us))(q:∀h1,Ext h h1->Ex ks b h1 (fO h1 vs))(hl:us.length+vs.length<=1000000):Ex ks (cR .Add a b) h (Nw h (us++vs)):=λg K Q z=>by
 refine p g K _ λv1 h1 z1=>?_
 cases z1 with
 |mk f1=>
  refine q _ (aC.refl.new f1) g K _ λv2 h2 z2=>?_
  cases z2 with
  |mk f2=>exact .lst (dT H.aJ f2) H.aJ hl (gA λn3 f3=>z _ _ (.mk H.aJ (((aC.refl.new f1).new f2).new f3)))
theorem T0(p:Ek ks m h (.ref l))(hl:∀a ks h,Inv a ks h->h l=some (.lst (xs.map λx=>.tup [f x,f' x])))(h0:Inv [] bJ h)(step:∀a x r ks h,xs=a++x::r->Inv a ks h->∀P',Turn n P P' (Inv (a++[x]))->Wk n ((jx,f' x)::(ix,f x)::ks) s h P')
 (done:∀ks h,Inv xs ks h->Wk n ks t h P)(e0:Sub ks bJ:=by exact rfl)(hi:Nat.blt ix n=true:=by exact rfl)(hj:Nat.blt jx n=true:=by exact rfl):Wk n ks (bX (bB m) true (iN 2 (dE (a5 ix) (dE (a5 jx) ib))) s t) h P:=λg K=>p g K.at_ _ (.lst (.inl (hl _ _ _ h0)) ⟨gh,
 qj (λ_ x ks=>(jx,f' x)::(ix,f x)::ks) (λ_ x=>.tup [f x,f' x]) h0 (λa x r ks h I e=>(lD (hl a ks h I)).trans (au some (nU e))) (λks h I=>(lD (hl _ ks h I)).trans (au some nR)) (λ_ _ K q=>⟨rfl,rfl,q _ ((K.set hi).set hj)⟩) step done (K.sub e0)⟩)
theorem OE(hy:(y.cps.toList.map λc=>V.str ⟨#[c]⟩)=ys.map sv):Ei ks (bB (bR y)) h (.row (ys.map sv)):=λg K _ q=>.str (hy.symm▸q)
end
noncomputable abbrev lp:L:=lb 51
noncomputable abbrev oT:L:=lb 52
noncomputable abbrev IF(p:Sy×Int):V:=.tup [sv p.1,.int p.2]
structure LU(Γ:Px)(I:ak)(W:List (Sy×Int)):Prop where
 pos:∀p∈W,0<p.2->∃j:Nat,p.2=j/\Γ.Cs[j]?=some (bQ Γ.S Γ.R I p.1)/\bQ Γ.S Γ.R I p.1≠[]
 all:∀x,bQ Γ.S Γ.R I x≠[]->∃j:Nat,(x,(j:Int))∈W/\Γ.Cs[j]?=some (bQ Γ.S Γ.R I x)
structure nu(Γ:Px)(h:H):Prop where
 un:d9 Γ
 O:Fin Γ h
 nt:∀y,y∈a7 Γ.T Γ.R->y∈[nS,nA,nB]
 tm:∀y,jn Γ.S Γ.R y->y∈Γ.T->y∈[ta,tb,tc]
 sym:∀y,jn Γ.S Γ.R y->y∈a7 Γ.T Γ.R\/y∈Γ.T
 len:Γ.Cs.length<=5000
 X6:h lp=none
 X7:h oT=none
noncomputable abbrev DP(Γ:Px)(h:H)(Q:ab):Prop:=∀(n:Nat) (vs:List Nat) h',uA Γ (.ay n) vs h'->Fin Γ h'->aC (51::52::d6) h h'->Q (.ref (.ay n)) h'
inductive Ly(h:H)(Q:ab):aj->Prop
 |mk{Γ:Px}:nu Γ h->DP Γ h Q->Ly h Q [.ref gL,.ref bN]
noncomputable def zC:b6:=λus h Q=>Ly h Q us
noncomputable def acU:SW:=aB (aS (cu (an 2) (an 7)) (dw (an 1) "lr0_goto" .table mY (aA (a3 (an 2) (an 4)) (aA (an 6) aD)))) (cM (bY (an 3) "list" de (aA (an 7) aD)))
noncomputable def y2(y nm:Str):EW:=i7 (bB (bR y)) false [none,none,some 4,some 1] (a5 1) dI (eO (aA (an 1) (aA (bY (a3 (aE (an 3) nm) (an 2)) "dict" eY (aA (an 1) (aA (aM 0) aD))) aD)))
noncomputable def QO:SW:=a9 (du (aT .Gt (an 7) (aM 0)) (du (aT .NotIn (an 7) (an 2)) dI)) acU aO
noncomputable def GA:SW:=aB (aZ 5 (cR .Add (y2 "SAB" "lr_goto") (y2 "abc" "lr_action"))) (bX (bB (an 5)) true (iN 2 (dE (a5 6) (dE (a5 7) ib))) QO aO)
noncomputable def QP:SW:=eA (i7 (p6 yE (aA (bv dQ (aA (an 2) aD)) aD)) false [none,none,some 2] (a5 1) dI (a3 (an 2) (an 1)))
noncomputable def Qr:SW:=aB (bX (bB (an 3)) false (a5 4) GA aO) QP
noncomputable def acV:SW:=aB (aZ 3 (cx (aA (aM 0) aD))) Qr
noncomputable def acW:SW:=aB (aZ 2 (Nb (aM 0) (dw (an 1) "lr0_closure" .table rO (aA (cx (aA (a3 (aE (a3 (aE (an 0) "Productions") (aM 0)) "lr_items") (aM 0)) aD)) aD)))) acV
noncomputable def Qq:SW:=acW
noncomputable def wy(ks:ai)(f:Sy->Int)(s:Sy):Sy×Int:=(s,if s∈ks then f s else 0)
inductive LW(Γ:Px)(I:ak)(h:H)(v:V)(h':H):Prop
 |mk{W:List (Sy×Int)}:LU Γ I W->Nw h (W.map IF) v h'->LW Γ I h v h'
section
variable{Γ:Px}{q:Nat}{nm y:Str}{f:Nat->L}{l ka kg:ai}{fa:Sy->Int}{fg:Sy->Nat}{p:Sy×Int}
theorem Oa(h:bQ Γ.S Γ.R I x≠[]):∃p∈I,Γ.nx p=some x:=by
 cases e:fj Γ.S Γ.R I x with
 |nil=>exact absurd ((au (di Γ.S Γ.R) e).trans EF) h
 |cons p r=>exact(bg.1 (e▸.head _:p∈fj Γ.S Γ.R I x)).elim λq z=>⟨q,(fC.1 z.1).1,cU (fC.1 z.1).2⟩
theorem y6(m:p∈l.map (wy xs fa))(z:0<p.2):p.1∈xs/\p.2=fa p.1:=(bg.1 m).elim λs w=>by
 obtain⟨_,rfl⟩:=w
 exact(aN (s∈xs)).elim (λk=>⟨k,bz k⟩) λk=>absurd ((bD k:(wy xs fa s).2=0)▸z) (Kb 0)
theorem Ut(m:x∈l)(h:x∈xs):(x,fa x)∈l.map (wy xs fa):=bg.2 ⟨x,m,au (Prod.mk x) (bz h)⟩
theorem nu.ai5(C:nu Γ h)(A:Ll Γ I ka fa)(G:J2 Γ I kg fg):LU Γ I ([nS,nA,nB].map (wy kg λs=>(fg s:Nat))++[ta,tb,tc].map (wy ka fa)):=
 ⟨λp hp z=>(bO.1 hp).elim (λm=>⟨fg p.1,(y6 m z).2,G.at_ _ (y6 m z).1⟩) λm=>(A.pos _ (y6 m z).1 ((y6 m z).2▸z)).imp λj w=>⟨(y6 m z).2.trans w.1,w.2⟩,
  λx hx=>(Oa hx).elim λp w=>(C.sym x (vE w.2)).elim (λm=>have k:=G.all x m hx;⟨fg x,eM _ (Ut (fa:=λs=>(fg s:Nat)) (C.nt x m) k),(G.at_ x k).1⟩) λm=>have z:=A.all p w.1 x m w.2;(A.pos x z.1 z.2).elim λj e=>⟨j,cD _ (e.1▸Ut (fa:=fa) (C.tm x (vE w.2) m) z.1),e.2.1⟩⟩
theorem UW(tb:∀{h'},Ext h h'->fR h')(hq:q<n)(at_:∀c,(tS c).lookup nm=some (.ref (lb t)))(D:nh t f n h)(e:h (f q)=some (.aF (rows xs λy=>.int (fa y)) d))(ft:∀n,f q≠.ay n)(hy:(y.cps.toList.map λc=>V.str ⟨#[c]⟩)=l.map sv)(ll:l.length<=1000000)(l4:bj ks 4=some (.int q))(l1:bj ks 1=some (.ref bN)):Ex ks (y2 y nm) h (fO h ((l.map (wy xs fa)).map IF)):=by
 have u:=qn (b:=false) (ks:=ks) (js:=[none,none,some 4,some 1]) (j:=1) (h:=h) (xs:=l) (F:=sv) (mc:=dI) (me:=eO (aA (an 1) (aA (bY (a3 (aE (an 3) nm) (an 2)) "dict" eY (aA (an 1) (aA (aM 0) aD))) aD))) (c:=λ_=>true) (r:=λs=>IF (wy xs fa s)) (b8:=[(3,.ref bN),(2,.int q)]) (OE hy) gh (λn acc i _ hi=>qg (aw hi (aL (bx _).symm))) ll (λ_ _ _ _ _=>kE) (λn acc s hn _ _=>D.elim λi ed=>j4 (eE (xk rfl) (UD (uf ((tb (aC.refl.new hn)).qp (xk rfl) at_) (xk rfl) (dT ed hn) .int (RI hq)) (eE (xk rfl) bF) (aW e (ft n)) (fm s) ?_))) (by show [bj ks 1,bj ks 4]=_;rw [l1,l4];rfl) rfl λ_=>rfl
 ·rw [w8] at u
  exact gj.symm▸u
 ·exact(aN (s∈xs)).elim (λm=>(au (λo:Option V=>o.getD (.int 0)) (tJ m)).trans (au V.int (bz m).symm)) λm=>(au (λo:Option V=>o.getD (.int 0)) (yH m)).trans (au V.int (bD m).symm)
theorem nu.ajQ{av:H}(C:nu Γ av)(O:Fin Γ h)(eI:Γ.Cs[q]?=some I)(l4:bj ks 4=some (.int q))(l1:bj ks 1=some (.ref bN)):Ex ks (cR .Add (y2 "SAB" "lr_goto") (y2 "abc" "lr_action")) h (LW Γ I h):=λg K Q z=>(O.row q I eI).casesOn λ{ka kg fa fg i j} A ea G eg=>
 have hq:=(cm.1 eI).1
 have bt:∀{h'},Ext h h'->fR h':=λX=>(O.M.ext X).I.A.tb
 Uu (UW (fa:=λs=>(fg s:Nat)) bt hq (λ_=>by kernel_rfl) O.d3 eg (λ_=>dZ) (l:=[nS,nA,nB]) (by kernel_rfl) (by decide) l4 l1) (λh1 X=>UW (λX'=>bt (X.trans X')) hq (λ_=>by kernel_rfl) (O.d1.imp λ_ e=>(X.at_ _ _ rfl).trans e) ((X.at_ _ _ rfl).trans ea) (λ_=>dZ) (l:=[ta,tb,tc]) (by kernel_rfl) (by decide) l4 l1) (eH rfl) g K Q λv h' u=>z v h' (.mk (C.ai5 A G) (gF.symm▸u))
end
noncomputable abbrev oQ(qs:List Nat)(f:Nat->Nat):af:=p8 (λq:Nat=>V.int q) (λq=>bA (f q)) qs
noncomputable abbrev BQ:List Nat:=51::52::d6
structure SQ(Γ:Px)(av:H)(qs:List Nat)(f:Nat->Nat)(h:H):Prop where
 O:Fin Γ h
 nodup:qs.Nodup
 sub:∀q∈qs,q<Γ.Cs.length
 at_:∀q∈qs,∀I,Γ.Cs[q]?=some I->h (.ay (f q))=some (.lst (I.map a4))
 fd:∃i,h lp=some (.aF (oQ qs f) i)
 qu:h oT=some (.lst (qs.map λq=>.int (q:Nat)))
 zero:0∈qs
 fr:aC BQ av h
noncomputable def zZ(Γ:Px)(k:Nat)(qs:List Nat):Prop:=∀j q I,j<k->qs[j]?=some q->Γ.Cs[q]?=some I->∀x,bQ Γ.S Γ.R I x≠[]->∃t∈qs,Γ.Cs[t]?=some (bQ Γ.S Γ.R I x)
noncomputable def vw:Ks:=[(3,.ref oT),(2,.ref lp),(1,.ref bN),(0,.ref gL)]
noncomputable def oO(q:Nat):Ks:=(4,.int q)::vw
inductive SO(Γ:Px)(av:H)(k:Nat):Ks->H->Prop
 |mk{qs:List Nat}{f:Nat->Nat}{h:H}:SQ Γ av qs f h->zZ Γ k qs->k<=qs.length->SO Γ av k vw h
inductive SI(Γ:Px)(av az:H)(q:Nat)(vO:List Nat)(a:List (Sy×Int)):Ks->H->Prop
 |mk{qs:List Nat}{f:Nat->Nat}{h:H}:SQ Γ av qs f h->(∃r,qs=vO++r)->(∀p∈a,∀j:Nat,p.2=j->0<p.2->j∈qs)->aC BQ az h->SI Γ av az q vO a (oO q) h
section
variable{Γ:Px}{av:H}{q N:Nat}{W a:List (Sy×Int)}{us:aj}{qs vO:List Nat}{f:Nat->Nat}{l:L}{tw:TW}{p:Sy×Int}
theorem SQ.len(s:SQ Γ av qs f h):qs.length<=Γ.Cs.length:=aw (gP s.nodup λq m=>kZ.2 (s.sub q m)) (aL iw)
theorem SQ.ext(s:SQ Γ av qs f h)(X:Ext h h'):SQ Γ av qs f h':=⟨s.O.cO X rfl,s.nodup,s.sub,λq m I e=>X.old (s.at_ q m I e),s.fd.imp λi e=>(X.at_ _ _ rfl).trans e,(X.at_ _ _ rfl).trans s.qu,s.zero,s.fr.trans (.of X)⟩
theorem SQ.all(s:SQ Γ av qs f h)(d:zZ Γ qs.length qs)(hq:q<Γ.Cs.length):q∈qs:=by
 induction q using Nat.strongRecOn with
 |ind q ih=>
  refine(s.O.M.I.oG q _ (fu hq)).casesOn (λe=>e▸s.zero) λ{j I x} hj eI eJ=>(jL.1 (ih j hj (qB hj hq))).elim λi ei=>(d i j I (cm.1 ei).1 ei eI x λz=>s.O.M.I.ne (z▸eJ▸Dm hq)).elim λt w=>?_
  exact(wr hq s.O.M.I.nodup).mp (((fu hq).trans (au some eJ)).trans w.2.symm)▸w.1
theorem ajt(p:Ek ks m h (.ref l))(e:h l=some (.aF es i))(hl:es.length<=1000000):Ek ks (bv dQ (aA m aD)) h (.int (es.length:Nat)):=λg K _ q=>p g K _ (.got (.aF e hl q))
theorem Iv(p:Ex ks m h Φ)(q:∀v h',Φ v h'->Wk n ks (aS tw (cV v)) h' P):Wk n ks (aS tw m) h P:=λg K=>p g K.at_ _ λv h' z=>q v h' z g K
theorem SQ.more(s:SQ Γ av qs f h)(m:j∉qs)(eC:Γ.Cs[j]?=some I)(M:Γ.M h')(F:aC d6 h h')(en:h' (.ay n)=some (.lst (I.map a4))):SQ Γ av (qs++[j]) (λx=>if x=j then n else f x) ((h'.upd lp (.aF (oQ (qs++[j]) λx=>if x=j then n else f x) i)).upd oT (.lst (qs.map (λq=>.int (q:Nat))++[.int (j:Nat)]))):=by
 have F':aC BQ h ((h'.upd lp (.aF (oQ (qs++[j]) λx=>if x=j then n else f x) i)).upd oT (.lst (qs.map (λq=>.int (q:Nat))++[.int (j:Nat)]))):=((F.wide rfl).upd rfl).upd rfl
 have F2:aC [51,52] h' ((h'.upd lp (.aF (oQ (qs++[j]) λx=>if x=j then n else f x) i)).upd oT (.lst (qs.map (λq=>.int (q:Nat))++[.int (j:Nat)]))):=(aC.refl.upd rfl).upd rfl
 refine⟨(s.O.re M (F.same rfl)).cO F2 rfl,nV s.nodup m,λa ha=>(bO.1 ha).elim (s.sub a) λu=>a6.1 u▸(cm.1 eC).1,λa ha J eJ=>F2.old ?_,⟨i,aW H.aJ (bw rfl)⟩,H.aJ.trans (au (λl=>some (O.lst l)) (gF (f:=λq:Nat=>V.int q) (l₁:=qs) (l₂:=[j])).symm),eM _ s.zero,s.fr.trans F'⟩
 refine(aN (a=j)).elim (λu=>?_) λu=>?_
 ·subst u
  cases bc (eC.symm.trans eJ)
  exact(au (λk=>h' (.ay k)) (bz rfl)).trans en
 ·exact(au (λk=>h' (.ay k)) (bD u)).trans (F.old (s.at_ a ((bO.1 ha).resolve_right λw=>u (a6.1 w)) J eJ))
theorem aaD(un:d9 Γ)(hl:Γ.Cs.length<=5000)(s:SQ Γ av qs f h)(mq:q∈qs)(eI:Γ.Cs[q]?=some I)(w:0<p.2->∃j:Nat,p.2=j/\Γ.Cs[j]?=some (bQ Γ.S Γ.R I p.1)/\bQ Γ.S Γ.R I p.1≠[])(pre:∃r,qs=vO++r)(al:∀p∈a,∀j:Nat,p.2=j->0<p.2->j∈qs)(F0:aC BQ az h)
 (t:∀{h'},SI Γ av az q vO (a++[p]) (oO q) h'->Wf 8 (oO q) h' P):Wk 8 ((7,.int p.2)::(6,sv p.1)::oO q) QO h P:=by
 have bM:(∀j:Nat,p.2=j->0<p.2->j∈qs)->Wk 8 ((7,.int p.2)::(6,sv p.1)::oO q) aO h P:=λz=>bf ((t (.mk s pre (λp' hp=>(bO.1 hp).elim (al p') λu=>a6.1 u▸z) F0)).sub rfl)
 refine(Int.lt_or_le 0 p.2).elim (λpz=>?_) λpz=>dy (lZ (nE (xk rfl) bF (cQ (jI.2 pz)))) (bM λ_ _ z=>absurd z (jI.2 pz))
 refine(w pz).elim λj w=>s.fd.elim λi ei=>?_
 have Rm:∀{b:Bool},(!(cg (oQ qs f) (.int (j:Nat))).isSome)=b->Eb ((7,.int p.2)::(6,sv p.1)::oO q) (aT .NotIn (an 7) (an 2)) h b:=λe=>fS (v:=.int j) (w.1▸xk rfl) (xk rfl) λQ k'=>FC (Q:=λb=>Q (.bool (!b)) h) ei .int (e.symm▸k')
 have c1:Eb ((7,.int p.2)::(6,sv p.1)::oO q) (aT .Gt (an 7) (aM 0)) h true:=nE (xk rfl) bF (cE pz)
 refine(aN (j∈qs)).elim (λm=>dy (hV c1 (lZ (Rm (by rw [qV sV m];rfl)))) (bM λj' e' _=>jJ (e'.symm.trans w.1)▸m)) λm=>cX (hV c1 (hV (Rm (by rw [Rb sV m];rfl)) kE)) ?_
 have zl:=aw s.len hl
 refine(Oa w.2.2).elim λy hy=>a8 (Iv (un.Uw s.O.M (xk rfl) (eE (uf (l:=lp) (w:=.int (q:Nat)) (xk rfl) (xk rfl) ei .int (qV sV mq)) (xk rfl)) (s.at_ q mq I eI) (cP eI) (vE hy.2) w.2.2) λv h1 G=>?_)
 cases G with
 | @mk n h1 en M F=>
  refine kR (v:=bA n) (w:=.int j) lH (xk rfl) (w.1▸xk rfl) ((F.at_ _ _ rfl).trans ei) (aw (aL (bx _)) (aw zl (by decide))) .int λi'=>bi (kQ (w:=.int j) (xk rfl) ((H.bp (bw rfl)).trans ((F.at_ _ _ rfl).trans s.qu)) (map_lt (b7 zl (by decide))) (w.1▸xk rfl) ?_)
  have S2:=s.more (i:=i') m w.2.1 M F en
  have ep:dS (oQ qs f) (.int j) (bA n)=oQ (qs++[j]) λx=>if x=j then n else f x:=(au (λk=>dS (oQ qs f) (V.int j) (bA k)) (bz rfl).symm).trans (G7 (kf:=λq:Nat=>V.int q) (g':=λq=>bA (if q=j then n else f q)) sV m λy hy=>au bA (bD λu:y=j=>m (u▸hy)))
  refine(t (.mk (ep▸S2) (Hz pre ⟨_,rfl⟩) (λp' hp j' e' pz'=>(bO.1 hp).elim (λu=>eM _ (al p' u j' e' pz')) λu=>by
   cases a6.1 u;exact cD _ (a6.2 (jJ (e'.symm.trans w.1)))) (F0.trans (((F.wide rfl).upd rfl).upd rfl)))).sub rfl
end
inductive D1(a:L)(w:V)(Φ:ab):ab
 |mk{v:V}{h:H}{i:Nat}:Φ v h->D1 a w Φ (.ref a) (h.upd a (.aF [(w,v)] i))
section
variable{Γ:Px}{av:H}{q N:Nat}{W a:List (Sy×Int)}{us:aj}{qs vO:List Nat}{f:Nat->Nat}{l:L}
theorem aje(l:L)(f:h l=none)(pk:Ek ks m (h.upd l (.aF [] 0)) w)(hk:cz 8 w)(pv:Ex ks m' (h.upd l (.aF [] 0)) Φ)(st:∀v h',Φ v h'->h' l=some (.aF [] 0)):Ex ks (Nb m m') h (D1 l w Φ):=λg K Q z=>gO l f (pk g K _ (pv g K _ λv h' u=>⟨[],0,st v h' u,bH _,hk,z _ _ (.mk u)⟩))
theorem aaE(C:nu Γ az)(s:SQ Γ av qs f h)(mq:q∈qs)(eI:Γ.Cs[q]?=some I)(r:∀tH f' h',SQ Γ av tH f' h'->(∃r,tH=qs++r)->(∀x,bQ Γ.S Γ.R I x≠[]->∃t∈tH,Γ.Cs[t]?=some (bQ Γ.S Γ.R I x))->Wf 8 vw h' P):Wk 8 (oO q) GA h P:=by
 refine dO (C.ajQ s.O eI rfl rfl) λv h1 u=>u.casesOn λ{W} ok u=>?_
 cases u with
 | @mk n h1 eW X=>exact T0 (xs:=W) (f:=λp=>sv p.1) (f':=λp=>.int p.2) (bJ:=oO q) (Inv:=SI Γ av h1 q qs) (xk rfl) (λa ks h' J=>J.casesOn λ_ _ _ F=>F.old eW) (.mk (s.ext X) ⟨[],(gy _).symm⟩ (λ_ z=>absurd z a0) .refl) (λa p r ks h' ea J P' t=>J.casesOn λs pr al F=>aaD C.un C.len s (tG pr mq) eI (ok.pos p (ea▸cD _ (.head _))) pr al F λJ=>t.nx J rfl) λks h' J=>J.casesOn λ{tH f' h'} s pr al F=>bf ((r tH f' h' s pr λx hx=>(ok.all x hx).elim λj w=>(Nat.eq_zero_or_pos j).elim (λj0=>⟨0,s.zero,j0▸w.2⟩) λj0=>⟨j,al _ w.1 j rfl (Kc.2 j0),w.2⟩).sub rfl)
theorem aaH(C:nu Γ az)(q:DP Γ av Q)(s:SQ Γ av qs f h)(d:zZ Γ qs.length qs):Wk 8 vw QP h (Rt Q):=by
 have ln:qs.length=Γ.Cs.length:=iz s.len (aw (aL iw.symm) (gP List.nodup_range λq m=>s.all d (kZ.1 m)))
 have cl:Γ.Cs.length<=1000000:=aw C.len (by decide)
 refine s.fd.elim λi ei=>?_
 have es:(oQ qs f).length=Γ.Cs.length:=(bx _).trans ln
 have src:Ei vw (p6 yE (aA (bv dQ (aA (an 2) aD)) aD)) h (.row (AM 0 Γ.Cs.length)):=λg K Q z=>ajt (xk rfl) ei (es▸cl) g K _ (.mk (tM (es▸cl)) (es.symm▸z))
 have u:=qn (b:=false) (js:=[none,none,some 2]) (j:=1) (xs:=List.range Γ.Cs.length) (F:=λi:Nat=>V.int (0+(i:Int))) (mc:=dI) (me:=a3 (an 2) (an 1)) (c:=λ_=>true) (r:=λq=>bA (f q)) (b8:=[(2,.ref lp)]) src gh (λn acc i _ hi=>qg (aw hi (aL (bx _).symm))) (aw (aL iw) cl) (λ_ _ _ _ _=>kE) (λn acc q hn m _=>uf (l:=lp) (w:=.int (0+(q:Int))) (xk rfl) (xk rfl) (dT ei hn) .int ((au (λz=>cg (oQ qs f) (.int z)) (Int.zero_add (q:Int))).trans (qV sV (s.all d (kZ.1 m))))) rfl rfl λ_=>rfl
 rw [w8] at u
 refine yZ u λv h' z=>?_
 cases z with
 | @mk n hn=>
  have s2:=s.ext (aC.refl.new (o:=.lst ((List.range Γ.Cs.length).map λq=>bA (f q))) hn)
  exact λ_=>q n ((List.range Γ.Cs.length).map f) _ ⟨gj (g:=bA)▸H.aJ,(bx _).trans iw,λk m J ek eJ=>by
   have hk:=(cm.1 eJ).1
   cases bc ((eL.trans (au (Option.map f) (zJ hk))).symm.trans ek)
   exact s2.at_ k (s.all d hk) J eJ⟩ s2.O s2.fr
theorem aaG(C:nu Γ az)(s:SQ Γ av qs f h)(d:zZ Γ k qs)(ek:qs[k]?=some q)(t:Turn 8 P P' (SO Γ av (k+1))):Wk 8 (oO q) GA h P':=by
 have mq:=cP ek
 have hk:=(cm.1 ek).1
 have eI:=fu (s.sub q mq)
 refine aaE C s mq eI λtH f' h2 s2 pr w=>t.nx (.mk s2 (λj q' J' hj ej eJ x hx=>?_) (aw hk (Bs pr))) rfl
 have old:∀{j},j<qs.length->tH[j]?=qs[j]?:=λhj=>pr.elim λr er=>er▸uz hj
 refine(lR j k).elim (λu=>(d j q' J' u ((old (qB u hk)).symm.trans ej) eJ x hx).imp λt z=>⟨tG pr z.1,z.2⟩) λu=>?_
 cases iz (ji hj) u
 cases bc (ek.symm.trans ((old hk).symm.trans ej))
 cases bc (eI.symm.trans eJ)
 exact w x hx
theorem aaF(C:nu Γ az)(q:DP Γ av Q)(s:SQ Γ av [0] f h):Wk 8 vw Qr h (Rt Q):=by
 refine a8 (Im (I:=SO Γ av) Γ.Cs.length (l:=oT) (xk rfl) (λk ks h' J=>J.casesOn λ{qs f h'} s d le=>⟨_,s.qu,aw le (aL (bx _).symm),aw (aL (bx _)) s.len⟩) (.mk s (λ_ _ _ z=>absurd z (m9 _)) (bH _)) (λk vs v ks h' ev ek J P' t=>?_) λk vs ks h' ev ek J=>?_)
 ·cases J with
  | @mk qs f h' s d le=>
   cases(O.lst.inj (bc (s.qu.symm.trans ev)))
   exact nQ (eL.symm.trans ek) λq eq e=>e▸aaG C s d eq t
 ·cases J with
  | @mk qs f h' s d le=>
   cases(O.lst.inj (bc (s.qu.symm.trans ev)))
   exact bf (bi (aaH C q s ((ek.trans (bx _))▸d)))
theorem SQ.dA(C:nu Γ av)(O:Fin Γ h)(F:aC (51::[2,30]) av h)(el:h (.ay n)=some (.lst ((di Γ.S Γ.R [(0,0)]).map a4))):SQ Γ av [0] (λ_=>n) ((h.upd lp (.aF [(.int 0,bA n)] i)).upd oT (.lst [.int 0])):=
 have s0:=O.M.I.gT
 ⟨O.cO (ts:=[51,52]) ((aC.refl.upd rfl).upd rfl) rfl,gX.2 ⟨a0,jg⟩,λq m=>a6.1 m▸(cm.1 s0).1,λq m I e=>by
  cases a6.1 m
  cases bc (s0.symm.trans e)
  exact aW (aW el dB) dB,⟨i,aW H.aJ (bw rfl)⟩,H.aJ,.head _,((F.wide rfl).upd rfl).upd rfl⟩
theorem ah0(q:zC us h Q):Qq (us.map some++List.replicate 8 none) h λfl _ h'=>Q (c7 fl) h':=by
 cases q with
 | @mk Γ C q=>
  have O1:Fin Γ (h.upd lp (.aF [] 0)):=C.O.cO (ts:=[51]) (.upd .refl rfl) rfl
  have A:=O1.M.I.A
  refine(dO (ks:=[(1,.ref bN),(0,.ref gL)]) (n:=8) (aje (w:=.int 0) lp C.X6 bF .int (A.Uy (xk rfl) (o9 (j:=0) (v:=a4 (0,0)) (A.mR (i:=0) (x:=iO) (bd:=[Γ.S]) (v:=.ref (nP 0)) (A.L.wb (i:=0) (mS (xk rfl) A.L.G.g) bF (bH _)) rfl (by kernel_rfl)) bF (A.L.bS 0 iO [Γ.S] rfl) rfl (bH _)) (Ax (bH _))) λv h' u=>u.casesOn λ_ F _=>(F.at_ _ _ rfl).trans H.aJ) λv h1 u=>?_) _ (.dA rfl rfl)
  cases u with
  |mk u=>
   cases u with
   |mk A1 F1 el=>exact Iq oT ((H.bp (bw rfl)).trans ((F1.at_ _ _ rfl).trans ((H.bp (bw rfl)).trans C.X7))) (iS bF) (eH rfl) (aaF C q (SQ.dA C (O1.re (O1.M.goto A1 (F1.wide rfl)) (F1.same rfl)) ((aC.refl.upd rfl).trans (F1.wide rfl)) el))
end
noncomputable def vF(j:Nat):Sy:=[nS,nA].getD j nB
noncomputable def cJ(rs:List aH):Nat:=(rs.map λr=>r.2.length).sum
noncomputable def qe(rs:List aH)(n:Nat):aH:=(vF (n%3),fK (min (5 - cJ rs) (if rs.length=2 then 2 else 3)) (n/3))
noncomputable def gz(rs:List aH)(n:Nat):List aH:=if qe rs n∈rs then rs else rs++[qe rs n]
noncomputable def q7(t0 t1:Nat):List aH:=[(nS,fK 4 t0),(nA,fK (min 2 (5 - (fK 4 t0).length)) t1)]
noncomputable def yw(tp:List Nat):List Nat:=(tp[2]?.getD 0*3+2)::tp.drop 3
noncomputable def lC(tp:List Nat):List aH:=(yw tp).foldl gz (q7 (tp[0]?.getD 0) (tp[1]?.getD 0))
noncomputable abbrev nY:L:=lb 53
noncomputable abbrev Ru:=aH×(Nat×Nat)
noncomputable abbrev gS(z:Ru):V:=bA z.2.1
noncomputable abbrev bW(zs:List Ru):List aH:=zs.map λz=>z.1
structure pF(z:Ru)(h:H):Prop where
 e:h (.ay z.2.1)=some (.lst [sv z.1.1,bA z.2.2])
 b:h (.ay z.2.2)=some (.lst (z.1.2.map sv))
noncomputable abbrev fP(zs:List Ru)(h:H):Prop:=∀z∈zs,pF z h
inductive Nv(v:V)(h:H):ab
 |mk{h':H}:Ext h h'->Nv v h v h'
inductive Lo(r:aH)(h:H):ab
 |mk{n m:Nat}{h':H}:pF (r,n,m) h'->Ext h h'->Lo r h (bA n) h'
inductive Lk(tp:List Nat)(h:H):ab
 |mk{zs:List Ru}{h':H}:bW zs=q7 (tp[0]?.getD 0) (tp[1]?.getD 0)->h' nY=some (.lst (zs.map gS))->fP zs h'->aC [53] h h'->Lk tp h (.ref nY) h'
noncomputable abbrev kN(tp:List Nat):aj:=tp.map λt:Nat=>V.int t
section
variable{av:H}{s:aH}{rs:List aH}{u:Ru}{zs:List Ru}{tp:List Nat}{a:Nat}{d z:Int}{l:L}{cc:BW}
theorem TF:cJ (rs++[r])=cJ rs+r.2.length:=by unfold cJ;rw [List.map_append,List.sum_append];exact au (_+·) (KI _)
theorem yc(m:r∈rs):r.2.length<=cJ rs:=by
 induction rs with
 |nil=>cases m
 |cons s rs ih=>exact(dP.1 m).elim (λe=>e▸jh _ _) λm=>aw (ih m) (rY _ _)
theorem pF.old(R:pF u h)(F:aC ts h h'):pF u h':=⟨F.old R.e,F.old R.b⟩
theorem fP.old(R:fP zs h)(F:aC ts h h'):fP zs h':=λz m=>(R z m).old F
theorem RK(p:Ek ks m h v):Ex ks m h (Nv v h):=λg K Q z=>p g K _ (z _ _ (.mk .refl))
theorem IP(p:Ek ks e h (.int a))(q:Ex ks e' h (Nv (.int c) h))(hc:c<=100):Ex ks (bv mX (aA e (aA e' aD))) h (Nw h ((fK c a).map sv)):=λg K Q z=>p g K _ (q g K _ λv' h' u=>by
 cases u with
 |mk F=>exact .mk hc λv h2 w=>w.casesOn λhn=>z _ _ (.mk H.aJ (F.new hn)))
theorem x_rule(p:Ek ks e h (sv x))(q:Ex ks e' h (Nw h (b.map sv))):Ex ks (cx (aA e (aA e' aD))) h (Lo (x,b) h):=λg K Q z=>p g K _ (q g K _ λv h1 u=>by
 cases u with
 |mk em F=>exact⟨eH rfl,gA λn hn=>z _ _ (.mk ⟨H.aJ,dT em hn⟩ (F.new hn))⟩)
theorem UK(p:Ek ks e h (.int a))(q:Ex ks e' h (Nv (.int c) h)):Ex ks (bv vA (aA e (aA e' aD))) h (Nv (.int (min a c:Nat)) h):=λg K Q z=>p g K _ (q g K _ λv h' u=>by
 cases u with
 |mk F=>exact .mk ((lR c a).elim (λw=>(bz (iW.2 w)).symm▸Nat.min_eq_right (cN w)▸z _ _ (.mk F)) λw=>(bD (jI.2 (jK.2 w))).symm▸Nat.min_eq_left w▸z _ _ (.mk F)))
theorem UU(p:Ek ks e h (.int d))(q:Ex ks e' h (Nv (.int c) h))(ed:d - (c:Nat)=z):Ex ks (cR .Sub e e') h (Nv (.int z) h):=λg K Q y=>p g K _ (q g K _ λv h' u=>by
 cases u with
 |mk F=>exact .mk (ed▸y _ _ (.mk F)))
theorem ajs(q:Ex ks e h (Nw h vs))(hl:vs.length<=1000000)(e1:vs.length=a):Ex ks (bv dQ (aA e aD)) h (Nv (.int a) h):=λg K Q z=>q g K _ λv h' u=>by
 cases u with
 |mk el F=>exact .got (.lst (.inl el) hl (e1▸z _ _ (.mk F)))
theorem IR(p:Ek ks e h (bA n))(el:h (.ay n)=some (.lst (kN tp)))(hi:i<tp.length)(hl:tp.length<=1000):Ek ks (a3 e (aM i)) h (.int (tp[i]?.getD 0:Nat)):=
 o9 p bF el (eL.trans (fu hi▸rfl)) (aw (cN hi) (aw hl (by decide)))
theorem ajk(p:Eb ks cc h bb)(q:bb=true->Ek ks m h v)(q':bb=false->Ek ks m' h v):Ek ks (xw cc m m') h v:=λg K Q k=>p g K _ (by
 cases bb with
 |true=>exact q rfl g K _ k
 |false=>exact q' rfl g K _ k)
theorem agp(l0:bj ks 0=some (bA n))(el:h (.ay n)=some (.lst (kN tp)))(h3:3<=tp.length)(hl:tp.length<=1000)(f:h nY=none):
 Ex ks (cx (aA (cx (aA (bR "S") (aA (bv mX (aA (a3 (an 0) (aM 0)) (aA (aM 4) aD))) aD))) (aA (cx (aA (bR "A") (aA (bv mX (aA (a3 (an 0) (aM 1)) (aA (bv vA (aA (aM 2) (aA (cR .Sub (aM 5) (bv dQ (aA (bv mX (aA (a3 (an 0) (aM 0)) (aA (aM 4) aD))) aD))) aD))) aD))) aD))) aD))) h (Lk tp h):=λg K Q z=>by
 have s4:∀{h'},Ext h h'->Ex ks (bv mX (aA (a3 (an 0) (aM 0)) (aA (aM 4) aD))) h' (Nw h' ((fK 4 (tp[0]?.getD 0)).map sv)):=λF=>IP (IR (i:=0) (xk l0) (F.old el) (dD (by decide) h3) hl) (RK (v:=.int (4:Nat)) bF) (by decide)
 refine x_rule (x:=nS) df (s4 .refl) g K _ λv1 h1 u=>?_
 cases u with
 | @mk n1 m1 h1 R1 F1=>
  have l4:(fK 4 (tp[0]?.getD 0)).length<=4:=BU
  refine x_rule (x:=nA) df (IP (c:=min 2 (5 - (fK 4 (tp[0]?.getD 0)).length)) (IR (i:=1) (xk l0) (F1.old el) (dD (by decide) h3) hl) (UK (a:=2) bF (UU bF (ajs (s4 F1) (eP (aw l4 (by decide))) (bx _)) (Kg (aw l4 (by decide))).symm)) (aw (wA _ _) (by decide))) g K _ λv2 h2 u=>?_
  cases u with
  | @mk n2 m2 h2 R2 F2=>
   have F3:aC [53] h2 (h2.upd nY (.lst [bA n1,bA n2])):=aC.refl.upd rfl
   exact⟨eH rfl,gO nY (((F1.trans F2).at_ _ _ rfl).trans f) (z _ _ (.mk (zs:=[((nS,fK 4 (tp[0]?.getD 0)),n1,m1),((nA,fK (min 2 (5 - (fK 4 (tp[0]?.getD 0)).length)) (tp[1]?.getD 0)),n2,m2)]) rfl H.aJ (bq.2 ⟨(R1.old F2).old F3,bq.2 ⟨R2.old F3,λ_ z=>absurd z a0⟩⟩) (((F1.trans F2).wide rfl).trans F3)))⟩
noncomputable def oV(r:aH):PyData:=.list [.str r.1.1,.list (iG r.2)]
theorem BT:Kq 20 (b.map sv):=keysOk λu hu=>(bg.1 hu).elim λy z=>z.2▸(fm y).ok
theorem xr:(b.map sv).map V.toPy=iG b:=gj
theorem EJ:PyData.canLayAll0 (iG b)=true:=xr (b:=b)▸BT.lay
theorem EH:PyData.depthAll (iG b)<=20:=xr (b:=b)▸BT.depth
theorem EI{a b:ai}:PyData.eqvAll (iG a) (iG b)=true↔a=b:=⟨λe=>(Kx λx y z=>oY z).mp (BT.eqv (m:=20) (us:=b.map sv) (λu hu=>(bg.1 hu).elim λy z=>z.2▸fm y) (by rw [xr,xr];exact e)),λe=>e▸xr (b:=a)▸BT.refl⟩
theorem SL:PyData.eqv (oV s) (oV r)=true↔s=r:=⟨λe=>ni (wU (eq_of_beq (bu e).1)) (EI.mp (bu (bu e).2).1),λe=>e▸hM (iF _) (hM (EI.mpr rfl) rfl)⟩
theorem SM:(oV r).canLay0=true:=hM r.1.2 (hM EJ rfl)
theorem ahd:(oV r).depth<=100:=aw (cS (DB.2 ⟨bH _,DB.2 ⟨cS EH,bH _⟩⟩)) (by decide)
theorem ahh:PyData.canLayAll0 (zs.map λz=>oV z.1)=true:=by
 induction zs with
 |nil=>rfl
 |cons z zs ih=>exact hM SM ih
theorem pF.rd(R:pF u h):Rd h (gS u) (oV u.1):=.lst (.inl R.e) (.cons (.str _) (.cons (.lst (.inl R.b) An) .nil))
theorem fP.rds(R:fP zs h):jO h (zs.map gS) (zs.map λz=>oV z.1):=by
 induction zs with
 |nil=>exact .nil
 |cons z zs ih=>exact .cons (R z (.head _)).rd (ih λy m=>R y (.tail _ m))
theorem Wm(R:fP zs h)(p:Ek ks m h (gS u))(q:Ek ks m' h (.ref l))(e:h l=some (.lst (zs.map gS)))(er:pF u h):Eb ks (aT .NotIn m m') h (!decide (u.1∈bW zs)):=fS p q λQ k=>.lst (.inl e) (.mk _ _ R.rds er.rd ahh SM (aw (Nat.min_le_right _ _) ahd) ((Cq.2 (List.any_map (f:=λz:Ru=>oV z.1)▸Di.trans (Iff.trans ⟨λz=>z.elim λy w=>bg.2 ⟨y,w.1,SL.mp w.2⟩,λm=>(bg.1 m).elim λy w=>⟨y,w.1,SL.mpr w.2⟩⟩ EK.symm)):((zs.map λz=>oV z.1).any λy=>PyData.eqv y (oV u.1))=decide (u.1∈bW zs))▸k))
theorem ah6:(zs.map λz=>(z.1.2.length:Int)).sum=((cJ (bW zs):Nat):Int):=by
 induction zs with
 |nil=>rfl
 |cons z zs ih=>exact List.sum_cons.trans ((au _ ih).trans (Int.natCast_add _ _).symm)
theorem ajM(l1:bj ks 1=some (.ref nY))(e:h nY=some (.lst (zs.map gS)))(R:fP zs h)(hl:zs.length<=100)(ht:cJ (bW zs)<=1000):
 Ex ks (bv BS (aA (i7 (bB (an 1)) false [none,none,none] (a5 1) dI (bv dQ (aA (a3 (an 1) (aM 1)) aD))) aD)) h (Nv (.int (cJ (bW zs):Nat)) h):=by
 have u:=qn (b:=false) (ks:=ks) (js:=[none,none,none]) (j:=1) (xs:=zs) (F:=gS) (mc:=dI) (me:=bv dQ (aA (a3 (an 1) (aM 1)) aD)) (c:=λ_=>true) (r:=λz=>V.int z.1.2.length) (b8:=[]) (x3 (xk l1) e) gh (λn acc i hn _=>lD (dT e hn)) (aw hl (by decide)) (λ_ _ _ _ _=>kE) (λn acc z hn m _=>have q:=(R z m).old (aC.refl.new (ts:=[]) hn);rI (o9 (j:=1) (xk rfl) bF q.e rfl (by decide)) q.b (eP (aw (yc (bg.2 ⟨z,m,rfl⟩)) (aw ht (by decide)))) (au _ (bx _))) rfl rfl λ_=>rfl
 rw [w8] at u
 refine Ch u λv h' w Q z=>?_
 cases w with
 |mk hn=>exact .mk (H.aJ.trans (au (λl=>some (O.lst l)) gj.symm)) (ah6▸z _ _ (.mk (aC.refl.new hn)))
end
noncomputable def acP:SW:=aB (aZ 3 (cx (aA (a3 (bR "SAB") (cR .Mod (an 2) (aM 3))) (aA (bv mX (aA (cR .FloorDiv (an 2) (aM 3)) (aA (bv vA (aA (an 4) (aA (xw (aT .Eq (bv dQ (aA (an 1) aD)) (aM 2)) (aM 2) (aM 3)) aD))) aD))) aD)))) (a9 (aT .NotIn (an 3) (an 1)) (cM (bY (an 1) "list" de (aA (an 3) aD))) aO)
noncomputable def Gz:SW:=aB (aZ 4 (cR .Sub (aM 5) (bv BS (aA (i7 (bB (an 1)) false [none,none,none] (a5 1) dI (bv dQ (aA (a3 (an 1) (aM 1)) aD))) aD)))) acP
noncomputable def Od:EW:=cR .Add (an 5) (bY (bR "") "str" vq (aA (i7 (bB (bR "AB")) false [none,none,some 5,some 8] (a5 1) (du (aT .In (an 1) (an 3)) (du (aT .NotIn (an 1) (an 2)) dI)) (an 1)) aD))
noncomputable def QC:SW:=bX (bB (an 1)) true (iN 2 (dE (a5 7) (dE (a5 8) ib))) (a9 (aT .In (an 7) (an 5)) (aZ 5 Od) aO) aO
noncomputable def aae:EW:=i7 (bB (an 1)) false [none,none,some 5] (a5 1) (aT .In (a3 (an 1) (aM 0)) (an 2)) (an 1)
noncomputable def QD:SW:=eA (eO (aA aae (aA (an 5) aD)))
noncomputable def acQ:SW:=aB (bX (p6 yE (aA (aM 2) aD)) false (a5 6) QC aO) QD
noncomputable def acR:SW:=aB (aZ 5 (bR "S")) acQ
noncomputable def RJ:EW:=cR .Add (cx (aA (cR .Add (cR .Mult (a3 (an 0) (aM 2)) (aM 3)) (aM 2)) aD)) (nH (an 0) (aM 3))
noncomputable def acS:SW:=aB (bX (bB RJ) false (a5 2) Gz aO) acR
noncomputable def acT:SW:=aB (aZ 1 (cx (aA (cx (aA (bR "S") (aA (bv mX (aA (a3 (an 0) (aM 0)) (aA (aM 4) aD))) aD))) (aA (cx (aA (bR "A") (aA (bv mX (aA (a3 (an 0) (aM 1)) (aA (bv vA (aA (aM 2) (aA (cR .Sub (aM 5) (bv dQ (aA (bv mX (aA (a3 (an 0) (aM 0)) (aA (aM 4) aD))) aD))) aD))) aD))) aD))) aD)))) acS
noncomputable def Qp:SW:=acT
structure NL(av:H)(zs:List Ru)(h:H):Prop where
 R:fP zs h
 ru:h nY=some (.lst (zs.map gS))
 cJ:cJ (bW zs)<=5
 fr:aC [53] av h
noncomputable def oP(v:V):Ks:=[(1,.ref nY),(0,v)]
inductive KF(av az:H)(zs:List Ru)(v:V)(a:List Nat):Ks->H->Prop
 |mk{fY:List Ru}{h:H}:bW fY=a.foldl gz (bW zs)->fY.length<=zs.length+a.length->NL av fY h->aC [53] az h->KF av az zs v a (oP v) h
noncomputable def c3(j:Nat):Nat:=[83,65].getD j 66
theorem aez:∀j<3,("SAB":Str).cps[j]?=some (c3 j)/\(⟨#[c3 j]⟩:Str)=(vF j).1:=by decide+kernel
section
variable{av:H}{N:Nat}{rs:List aH}{zs:List Ru}{ns:List Nat}
theorem TE(h:cJ rs<=5):cJ (gz rs k)<=5:=by
 unfold gz
 split
 ·exact h
 ·exact TF▸aw (eV (aw BU (wA _ _)) _) (aL (Nat.add_sub_of_le h))
theorem O4:(gz rs k).length<=rs.length+1:=by
 unfold gz
 split
 ·exact jj _
 ·exact aL cw
theorem aiU(p:Ex ks m h (Nv v h))(q:∀h',Ext h h'->Wk N ((i,v)::ks) s h' P)(hi:Nat.blt i N=true:=by exact rfl):Wk N ks (aB (aZ i m) s) h P:=dO p (λv' h' u=>by
 cases u with
 |mk F=>exact q h' F) hi
theorem NL.ext(N:NL av zs h)(F:Ext h h'):NL av zs h':=⟨fP.old N.R F,(F.at_ _ _ rfl).trans N.ru,N.cJ,N.fr.trans (F.wide rfl)⟩
theorem aex(N:NL av zs h)(hl:zs.length<=100)(next:∀fY h',bW fY=gz (bW zs) k->NL av fY h'->aC [53] h h'->Wf 14 (oP v) h' P):Wk 14 ((2,.int k)::oP v) Gz h P:=by
 have rl:(bW zs).length=zs.length:=bx _
 refine aiU (UU (d:=5) bF (ajM rfl N.ru N.R hl (aw N.cJ (by decide))) (Kg N.cJ).symm) λh1 F1=>?_
 have N1:=N.ext F1
 have k3:=aez _ (wB k (by decide:0<3))
 have p1:Ek ((4,.int ((5 - cJ (bW zs):Nat):Int))::(2,.int k)::oP v) (a3 (bR "SAB") (cR .Mod (an 2) (aM 3))) h1 (V.str (vF (k%3)).1):=k3.2▸Ux (UL (y:=3) (xk rfl) bF (by decide)) k3.1 (aw (cN (wB k (by decide:0<3))) (by decide))
 have p2:Ek ((4,.int ((5 - cJ (bW zs):Nat):Int))::(2,.int k)::oP v) (xw (aT .Eq (bv dQ (aA (an 1) aD)) (aM 2)) (aM 2) (aM 3)) h1 (.int ((if(bW zs).length=2 then 2 else 3:Nat):Int)):=
  ajk (bb:=decide ((bW zs).length=2)) (kD (x:=((bW zs).length:Nat)) (rI (xk rfl) N1.ru (eP (aw hl (by decide))) (au _ ((bx _).trans rl.symm))) bF (Cq.2 (i6.trans ⟨λz=>cE (jJ z),λz=>au Int.ofNat (cU z)⟩))) (λz=>(bz (cU z):(if(bW zs).length=2 then 2 else 3)=2).symm▸bF) λz=>(bD (RP z):(if(bW zs).length=2 then 2 else 3)=3).symm▸bF
 refine dO (x_rule (x:=vF (k%3)) p1 (IP (UB (y:=3) (xk rfl) bF (by decide)) (UK (xk rfl) (RK p2)) (aw (wA _ _) (aw (wF _ _) (by decide))))) λv h2 u=>?_
 cases u with
 | @mk n m h2 er F2=>
  have N2:=N1.ext F2
  have F:=F1.trans F2
  refine o3 (p:=qe (bW zs) k∈bW zs) (Wm (u:=(qe (bW zs) k,n,m)) N2.R (xk rfl) (xk rfl) N2.ru er) (λz=>?_) λz=>bf ((next zs h2 (bz z).symm N2 (F.wide rfl)).sub rfl)
  have F3:aC [53] h2 (h2.upd nY (.lst (zs.map gS++[bA n]))):=aC.refl.upd rfl
  have ea:bW (zs++[(qe (bW zs) k,n,m)])=gz (bW zs) k:=gF.trans (bD z).symm
  exact kQ (xk rfl) N2.ru (map_lt (b7 hl (by decide))) (xk rfl) ((next (zs++[(qe (bW zs) k,n,m)]) _ ea ⟨λy hy=>(bO.1 hy).elim (λm=>(N2.R y m).old F3) λm=>a6.1 m▸er.old F3,H.aJ.trans (au (λl=>some (O.lst l)) (gF (f:=gS) (l₁:=zs) (l₂:=[(qe (bW zs) k,n,m)])).symm),ea▸TE N2.cJ,N2.fr.trans F3⟩ ((F.wide rfl).trans F3)).sub rfl)
theorem aey(p:Ex (oP v) m h (Nw h (kN ns)))(N:NL av zs h)(hl:zs.length+ns.length<=100)(next:∀fY h',bW fY=ns.foldl gz (bW zs)->NL av fY h'->Wk 14 (oP v) s h' P):Wk 14 (oP v) (aB (bX (bB m) false (a5 2) Gz aO) s) h P:=by
 refine a8 (yX p λv2 h2 u=>?_)
 cases u with
 | @mk n h2 en F=>
  refine fB (xs:=ns) (f:=λk:Nat=>V.int k) (bJ:=oP v) (Inv:=KF av h2 zs v) lH (λa ks h' J=>J.casesOn λ_ _ _ F=>F.old en) (.mk (a:=[]) rfl (cB _) (N.ext F) .refl) (λa x r ks h' ex J P' t=>J.casesOn λ{fY h'} e1 e2 N' F'=>?_) λks h' J=>J.casesOn λ{fY h'} e1 e2 N' F'=>bf (bi (next fY h' e1 N'))
  refine aex N' (aw e2 (aw (eV (cN (mid ex).2) _) hl)) λIS h3 e3 N3 F3=>t.nx (.mk (e3.trans (by rw [List.foldl_append,e1];rfl)) ?_ N3 (F'.trans F3)) rfl
  have l3:IS.length=(gz (bW fY) x).length:=(bx _).symm.trans (au List.length e3)
  exact l3▸aw O4 (cS ((bx _).symm▸e2))|>λz=>(cw (as:=a) (bs:=[x])).symm▸z
end
noncomputable def fk(l:ai):Str:=⟨(l.flatMap λx=>x.1.cps.toList).toArray⟩
noncomputable abbrev dF:List ai:=[[nS],[nS,nA],[nS,nB],[nS,nA,nB],[nS,nB,nA]]
noncomputable abbrev p4:ai:=[nS,nA,nB]
noncomputable abbrev xh:ai:=[nA,nB,ta,tb,tc]
noncomputable abbrev eQ:ai:=nS::xh
theorem Ym:(dF.all λl=>eQ.all λx=>qh x.1 (fk l)==decide (x∈l))=true:=by decide+kernel
theorem Yl:(dF.all λl=>[[],[nA],[nB],[nA,nB]].all λf=>f.any (λx=>decide (x∈l))||(decide (l++f∈dF)&&(fk l++Txt.join "" (f.map (·.1))==fk (l++f))))=true:=by decide+kernel
theorem Yo:(dF.all λl=>decide ((fk l).length<=3))=true:=by decide+kernel
noncomputable def lu(l:ai)(r:aH):ai:=[nA,nB].filter λs=>decide (s∈r.2)&&(!decide (s∈l)&&true)
noncomputable def grow(l:ai)(r:aH):ai:=if r.1∈l then l++lu l r else l
noncomputable def mK(rs:List aH)(n:Nat):ai:=n.rec [nS] λ_ y=>rs.foldl grow y
noncomputable def mE(tp:List Nat):ai:=mK (lC tp) 2
noncomputable def tK(tp:List Nat):List aH:=(lC tp).filter λr=>decide (r.1∈mE tp)
structure Vf(l f:ai):Prop where
 dF:l++f∈dF
 str:fk l++Txt.join "" (f.map (·.1))=fk (l++f)
structure RA(rs:List aH):Prop where
 hd:∀r∈rs,r.1∈p4
 bd:∀r∈rs,∀y∈r.2,y∈xh
 nodup:rs.Nodup
 cJ:cJ rs<=5
noncomputable def oN(y:ai)(v:V):Ks:=(5,.str (fk y))::oP v
inductive Du(av:H)(zs:List Ru)(y:ai)(v:V)(a:List Ru):Ks->H->Prop
 |mk{h:H}:NL av zs h->Du av zs y v a (oN ((bW a).foldl grow y) v) h
section
variable{av:H}{N jx:Nat}{rs:List aH}{zs:List Ru}{l:L}{c d:BW}{t:SW}{y f:ai}{b b':Bool}{u w:Str}{ys:List Str}{Inv:List Ru->Ks->H->Prop}{α:Type}{mi:IW}{kb:Bool}
theorem NN(hl:y∈dF)(hx:x∈eQ):qh x.1 (fk y)=decide (x∈y):=eq_of_beq (d5.1 (d5.1 Ym y hl) x hx)
theorem Yn(hl:y∈dF):(fk y).length<=3:=cU (d5.1 Yo y hl)
theorem Yd{a b:α}{p:α->Bool}:[a,b].filter p∈[[],[a],[b],[a,b]]:=by
 change (cond (p a) (a::cond (p b) [b] []) (cond (p b) [b] []))∈_
 cases p a
 ·cases p b
  ·exact .head _
  ·exact .tail _ (.tail _ (.head _))
 ·cases p b
  ·exact .tail _ (.head _)
  ·exact .tail _ (.tail _ (.tail _ (.head _)))
theorem Oe(hl:y∈dF):Vf y (lu y r):=(Bool.or_eq_true_iff.mp (d5.1 (d5.1 Yl y hl) (lu y r) Yd)).elim (λz=>(Di.1 z).elim λx z=>absurd (cU z.2) (RP (jU (bu (bu (fC.1 z.1).2).2).1))) λz=>⟨cU (bu z).1,eq_of_beq (bu z).2⟩
theorem Y0(hl:y∈dF):grow y r∈dF:=by
 unfold grow;split
 ·exact(Oe hl).dF
 ·exact hl
theorem Og(hl:y∈dF):rs.foldl grow y∈dF:=by
 induction rs generalizing y with
 |nil=>exact hl
 |cons r rs ih=>exact ih (Y0 hl)
theorem yz:mK rs n∈dF:=by
 induction n with
 |zero=>exact .head _
 |succ n ih=>exact Og ih
theorem getD_mem{l:List α}{d:α}:l.getD j d∈l++[d]:=by
 rw [List.getD_eq_getElem?_getD]
 cases e:l[j]? with
 |none=>exact cD _ (.head _)
 |some a=>exact eM _ (cP e)
theorem H3:∀z∈fK n k,z∈xh:=by
 induction n generalizing k with
 |zero=>exact λ_ z=>absurd z a0
 |succ n ih=>
  show ∀z∈(if k%6=0 then [] else tR (k%6 - 1)::fK n (k/6)),z∈xh
  split
  ·exact λ_ z=>absurd z a0
  ·exact bq.2 ⟨getD_mem,ih⟩
theorem RA.add(A:RA rs):RA (gz rs k):=by
 have t:=TE (k:=k) A.cJ
 unfold gz at t⊢
 split at t
 ·rename_i z
  rw [if_pos z];exact A
 ·rename_i z
  rw [if_neg z];exact⟨λr m=>(bO.1 m).elim (A.hd r) λm=>a6.1 m▸getD_mem,λr m=>(bO.1 m).elim (A.bd r) λm=>a6.1 m▸H3,nV A.nodup z,t⟩
theorem RA.adds{ns:List Nat}(A:RA rs):RA (ns.foldl gz rs):=by
 induction ns generalizing rs with
 |nil=>exact A
 |cons n ns ih=>exact ih A.add
theorem RA.dA{a b:Nat}:RA (q7 a b):=⟨bq.2 ⟨.head _,bq.2 ⟨.tail _ (.head _),λ_ z=>absurd z a0⟩⟩,bq.2 ⟨H3 (n:=4) (k:=a),bq.2 ⟨H3 (n:=min 2 (5 - (fK 4 a).length)) (k:=b),λ_ z=>absurd z a0⟩⟩,gX.2 ⟨λz=>absurd (au Prod.fst (a6.1 z)) (by decide+kernel:nS≠nA),gX.2 ⟨a0,jg⟩⟩,
 aw (eV (aw (BU (j:=min 2 (5 - (fK 4 a).length)) (k:=b)) (Nat.min_le_right _ _)) _) (aL (Nat.add_sub_of_le (aw (BU (j:=4) (k:=a)) (by decide:4<=5))))⟩
theorem SN{tp:List Nat}:RA (lC tp):=RA.dA.adds
theorem Eo(hl:y∈dF)(hx:x∈eQ)(p:Ek ks m h (sv x))(q:Ek ks m' h (.str (fk y)))(e:decide (x∈y)=b):Eb ks (aT .In m m') h b:=fS p q λQ k=>.str (((NN hl hx).trans e).symm▸k)
theorem Wn(hl:y∈dF)(hx:x∈eQ)(p:Ek ks m h (sv x))(q:Ek ks m' h (.str (fk y))):Eb ks (aT .NotIn m m') h (!decide (x∈y)):=fS p q λQ k=>.str ((NN hl hx).symm▸k)
theorem Ab(p:Eb ks c h b)(q:Eb ks d h b'):Eb ks (du c d) h (b&&b'):=λg K Q k=>p g K _ (by
 cases b with
 |true=>exact q g K _ k
 |false=>exact k)
theorem ai'(p:Ek ks m h (.str u))(q:Ex ks m' h (Nv (.str w) h))(hl:u.length+w.length<=1000000):Ex ks (cR .Add m m') h (Nv (.str (u++w)) h):=λg K Q z=>p g K _ (q g K _ λv h' e=>by
 cases e with
 |mk F=>exact .str hl (z _ _ (.mk F)))
theorem ajq(q:Ex ks m h (fO h (ys.map .str)))(hl:JoinOk "" ys):Ex ks (bY (bR "") "str" vq (aA m aD)) h (Nv (.str (Txt.join "" ys)) h):=λg K Q z=>⟨.str,q g K _ λv h' e=>by
 cases e with
 |mk hn=>exact .lst (.inl H.aJ) hl (z _ _ (.mk (aC.refl.new hn)))⟩
theorem T5{xs:List α}{f:α->V}{Inv:List α->Ks->H->Prop}(p:Ei ks mi h (.row (xs.map f)))(h0:Inv [] bJ h)(step:∀a x r ks h,xs=a++x::r->Inv a ks h->∀P',Turn n P P' (Inv (a++[x]))->Wk n ((ix,f x)::ks) s h P')(done:∀ks h,Inv xs ks h->Wk n ks t h P)(e0:Sub ks bJ:=by exact rfl)(hi:Nat.blt ix n=true:=by exact rfl):Wk n ks (bX mi kb (a5 ix) s t) h P:=λg K=>p g K.at_ _ ⟨gh,
 qj (λ_ x ks=>(ix,f x)::ks) (λ_=>f) h0 (λa x r ks h I e=>(qg (aw (cN (mid e).2) (aL (bx _).symm))).trans (au some (nU e))) (λks h I=>(qg (aL (bx _).symm)).trans (au some nR)) (λ_ _ K q=>q _ (K.set hi)) step done (K.sub e0)⟩
theorem Io(p:Ek ks m h (.ref l))(hl:∀a ks h,Inv a ks h->h l=some (.lst (zs.map gS))/\fP zs h)(h0:Inv [] bJ h)(step:∀a z r ks h,zs=a++z::r->Inv a ks h->pF z h->∀P',Turn n P P' (Inv (a++[z]))->Wk n ((jx,bA z.2.2)::(ix,sv z.1.1)::ks) s h P')
 (done:∀ks h,Inv zs ks h->Wk n ks t h P)(e0:Sub ks bJ:=by exact rfl)(hi:Nat.blt ix n=true:=by exact rfl)(hj:Nat.blt jx n=true:=by exact rfl):Wk n ks (bX (bB m) true (iN 2 (dE (a5 ix) (dE (a5 jx) ib))) s t) h P:=λg K=>p g K.at_ _ (.lst (.inl (hl _ _ _ h0).1) ⟨gh,
 qj (λ_ z ks=>(jx,bA z.2.2)::(ix,sv z.1.1)::ks) (λ_=>gS) h0 (λa x r ks h I e=>(lD (hl a ks h I).1).trans (au some (nU e))) (λks h I=>(lD (hl _ ks h I).1).trans (au some nR)) (λ{a z r ks g h Q} I e K q=>⟨_,.inl ((hl a ks h I).2 z (e▸cD _ (.head _))).e,rfl,rfl,q _ ((K.set hi).set hj)⟩) (λa z r ks h e I=>step a z r ks h e I ((hl a ks h I).2 z (e▸cD _ (.head _)))) done (K.sub e0)⟩)
theorem aji(hl:y∈dF)(l5:bj ks 5=some (.str (fk y)))(l8:bj ks 8=some (bA n))(en:h (.ay n)=some (.lst (r.2.map sv))):Ex ks Od h (Nv (.str (fk (y++lu y r))) h):=by
 have a2:∀s∈[nA,nB],s∈eQ:=by decide+kernel
 have p:=qn (b:=false) (ks:=ks) (js:=[none,none,some 5,some 8]) (j:=1) (h:=h) (xs:=[nA,nB]) (F:=sv) (r:=sv) (mc:=du (aT .In (an 1) (an 3)) (du (aT .NotIn (an 1) (an 2)) dI)) (me:=an 1) (c:=λs=>decide (s∈r.2)&&(!decide (s∈y)&&true)) (b8:=[(3,bA n),(2,.str (fk y))]) (OE (y:="AB") (by kernel_rfl)) gh (λn acc i _ hi=>qg hi) (by decide) (λn' acc s hn ms=>Ab (Mn (xk rfl) (xk rfl) (dT en hn) rfl) (Ab (Wn hl (a2 s ms) (xk rfl) (xk rfl)) kE)) (λn' acc s hn ms _=>xk rfl) (by show [bj ks 8,bj ks 5]=_;rw [l8,l5];rfl) rfl λ_=>rfl
 have g:=Oe (r:=r) hl
 have l3:=Yn g.dF
 rw [<-g.str] at l3⊢
 have ls:JoinOk "" ((lu y r).map (·.1)):=by
  have l1:∀x∈lu y r,x.1.length=1:=λx mx=>(by decide+kernel:∀x∈[nA,nB],x.1.length=1) x (fC.1 mx).1
  show _+_*0<=_
  rw [List.map_map,show(lu y r).map (Str.length∘(·.1))=(lu y r).map λ_=>1 from List.map_congr_left l1,List.map_const',List.sum_replicate_nat,Nat.mul_zero,Nat.mul_one]
  exact aw (rX _ _) (by decide)
 have ej:(lu y r).map sv=((lu y r).map (·.1)).map V.str:=gj.symm
 exact ai' (xk l5) (ajq (ej▸p) ls) (aw (aL (strLen_append _ _).symm) (aw l3 (by decide)))
end
noncomputable abbrev VH(tp:List Nat)(h:H)(Q:ab):Prop:=∀h' n zs,aC [53] h h'->h' (.ay n)=some (.lst (zs.map gS))->fP zs h'->bW zs=tK tp->Q (.tup [bA n,.str (fk (mE tp))]) h'
inductive Lp(h:H)(Q:ab):aj->Prop
 |mk{tp:List Nat}{n:Nat}:h (.ay n)=some (.lst (kN tp))->3<=tp.length->tp.length<=50->h nY=none->VH tp h Q->Lp h Q [bA n]
noncomputable def CJ:b6:=λus h Q=>Lp h Q us
inductive T2(Φ:ab)(w:V):ab
 |mk{u:V}{h:H}:Φ u h->T2 Φ w (.tup [u,w]) h
inductive Dv(av:H)(zs:List Ru)(v:V)(a:List Nat):Ks->H->Prop
 |mk{h:H}:NL av zs h->Dv av zs v a (oN (mK (bW zs) a.length) v) h
section
variable{av:H}{zs:List Ru}{y:ai}{tp:List Nat}{us:aj}{z x:Int}
theorem ajy(p:Ek ks m h (.int x))(q:Ek ks m' h (.int k))(hy: -1000000000<=(k:Int)/\(k:Int)<=1000000000):Ek ks (cR .Mult m m') h (.int (x*k)):=λg K Q r=>p g K _ (q g K _ (.mk hy r))
theorem AC{x:Sy}(h:x∈p4):x∈eQ:=(by decide+kernel:∀x∈p4,x∈eQ) x h
theorem aaB(N:NL av zs h)(A:RA (bW zs))(hy:y∈dF)(next:∀h',NL av zs h'->Wf 14 (oN ((bW zs).foldl grow y) v) h' P):Wk 14 (oN y v) QC h P:=by
 refine Io (zs:=zs) (bJ:=oN y v) (Inv:=Du av zs y v) (xk rfl) (λa ks h J=>J.casesOn λN=>⟨N.ru,N.R⟩) (.mk (a:=[]) N) (λa z r ks h1 ea J _ P' t=>J.casesOn λ{h1} N=>?_) λks h' J=>J.casesOn λN=>bf (next _ N)
 have mz:z∈zs:=ea▸cD _ (.head _)
 have h5:=Og (rs:=bW a) hy
 have key:∀{y' h},grow ((bW a).foldl grow y) z.1=y'->NL av zs h->Du av zs y v (a++[z]) (oN y' v) h:=λe N=>(((au (List.foldl grow y) (gF (l₁:=a) (l₂:=[z]))).trans wq).trans e:(bW (a++[z])).foldl grow y=_)▸.mk N
 have hr:=AC (A.hd z.1 (bg.2 ⟨z,mz,rfl⟩))
 refine n6 (p:=z.1.1∈(bW a).foldl grow y) (Eo h5 hr (xk rfl) (xk rfl) rfl) (λw=>λg K=>aji (r:=z.1) h5 rfl rfl (N.R z mz).b g K.at_ _ λv h2 u=>?_) λw=>bf (t.nx (key (bD w) N) rfl)
 cases u with
 |mk F=>exact(t.nx (key (bz w) (N.ext F)) rfl:Wf 14 ((5,.str (fk ((bW a).foldl grow y++lu ((bW a).foldl grow y) z.1)))::(8,bA z.2.2)::(7,sv z.1.1)::oN ((bW a).foldl grow y) v) _ P') _ (K.set rfl)
theorem ajN(p:Ex ks m h Φ)(q:∀v h',Φ v h'->Ek ks m' h' w):Ex ks (eO (aA m (aA m' aD))) h (T2 Φ w):=λg K Q z=>p g K _ λv h' u=>q v h' u g K _ ⟨eH rfl,z _ _ (.mk u)⟩
theorem aaA(N:NL av zs h)(A:RA (bW zs))(hl:zs.length<=100)(hy:y∈dF)(next:∀h' n fY,aC [53] av h'->h' (.ay n)=some (.lst (fY.map gS))->fP fY h'->bW fY=(bW zs).filter (λr=>decide (r.1∈y))->Wr (.tup [bA n,.str (fk y)]) h' P):Wk 14 (oN y v) QD h P:=by
 have u:=qn (mi:=bB (an 1)) (b:=false) (ks:=oN y v) (js:=[none,none,some 5]) (j:=1) (h:=h) (xs:=zs) (F:=gS) (r:=gS) (mc:=aT .In (a3 (an 1) (aM 0)) (an 2)) (me:=an 1) (c:=λz=>decide (z.1.1∈y)) (b8:=[(2,.str (fk y))]) (x3 (xk rfl) N.ru) gh (λn acc i hn _=>lD (dT N.ru hn)) (aw hl (by decide)) (λn acc z hn m=>Eo hy (AC (A.hd z.1 (bg.2 ⟨z,m,rfl⟩))) (o9 (j:=0) (xk rfl) bF (dT (N.R z m).e hn) rfl (by decide)) (xk rfl) rfl) (λn acc z hn _ _=>xk rfl) rfl rfl λ_=>rfl
 refine yZ (ajN u λv h' _=>xk (i:=5) rfl) λv h' w=>?_
 cases w with
 |mk w=>cases w with
 | @mk n hn=>exact next _ n (zs.filter λz=>decide (z.1.1∈y)) (N.fr.trans ((aC.refl.new hn).wide (ts:=[]) rfl)) H.aJ (λz m=>(N.R z (fC.1 m).1).old (aC.refl.new (ts:=[]) hn)) (List.filter_map (p:=λr:aH=>decide (r.1∈y)) (f:=λz:Ru=>z.1) (l:=zs)).symm
theorem O5{ns:List Nat}{rs:List aH}:(ns.foldl gz rs).length<=rs.length+ns.length:=by
 induction ns generalizing rs with
 |nil=>exact cB _
 |cons a ns ih=>exact aw ih (aw (uB O4 _) (aL (uD ..)))
theorem Hj(h:tp.length<=50):(yw tp).length<=51:=cS (aw (aL rW) (aw (wF _ _) h))
theorem ajA(l0:bj ks 0=some (bA n))(el:h (.ay n)=some (.lst (kN tp)))(h3:3<=tp.length)(hl:tp.length<=50):Ex ks RJ h (Nw h (kN (yw tp))):=
 have e:V.int ((tp[2]?.getD 0*3+2:Nat):Int)::(kN tp).drop 3=kN (yw tp):=au (List.cons _) Dp.symm
 e▸Uu (us:=[V.int ((tp[2]?.getD 0*3+2:Nat):Int)]) (v9 (iS (rD (ajy (k:=3) (IR (i:=2) (xk l0) el h3 (aw hl (by decide))) bF (by decide)) bF rfl)) (eH rfl)) (λh1 F=>II (j:=3) (xk l0) bF (F.old el) (eP (aw hl (by decide)))) (aw (aL ((wz ..).trans ((au List.length e).trans (bx _)))) (aw (Hj hl) (by decide)))
theorem ahg(q:CJ us h Q):Qp (us.map some++List.replicate 13 none) h λfl _ h'=>Q (c7 fl) h':=by
 cases q with
 | @mk tp n el h3 h5 f q=>
  refine(dO (n:=14) (agp rfl el h3 (aw h5 (by decide)) f) λv h1 u=>?_) _ (.dA (ks:=[(0,bA n)]) rfl rfl)
  cases u with
  | @mk zs h1 ez e1 R1 F1=>
   have N1:NL h zs h1:=⟨R1,e1,ez▸RA.dA.cJ,F1⟩
   have lz:zs.length=2:=(bx _).symm.trans (au List.length ez)
   refine aey (ajA rfl (F1.old el) h3 h5) N1 (lz▸aw (eV (Hj h5) 2) (by decide)) λfY h2 X0 N2=>?_
   have er:bW fY=lC tp:=X0.trans (au (List.foldl gz · (yw tp)) ez)
   have A:RA (bW fY):=er▸SN
   have ll:fY.length<=100:=(bx _).symm.trans (au List.length er)▸aw O5 (aw (eV (Hj h5) 2) (by decide))
   refine dC (v:=.str (fk [nS])) df (a8 (T5 (xs:=List.range 2) (f:=λi:Nat=>V.int (0+(i:Int))) (bJ:=oN [nS] (bA n)) (Inv:=Dv h fY (bA n)) (λg K Q z=>.mk (tM (j:=2) (by decide)) z) (.mk (a:=[]) N2) (λa x r ks h' ea J P' t=>J.casesOn λN=>(aaB N A yz λh3 N3=>t.nx ((cw:(a++[x]).length=a.length+1)▸Dv.mk (a:=a++[x]) N3) rfl).sub rfl) λks h' J=>J.casesOn λN=>bf (bi (aaA N A ll yz λh3 n IS F e R Nq _=>?_))))
   show Q (.tup [bA n,.str (fk (mK (bW fY) 2))]) h3
   rw [er] at Nq⊢
   exact q h3 n IS F e R Nq
end
structure MG(Γ:Px)(N:ai)(F:ah):Prop where
 gr:Gr Γ.T Γ.R
 nul:zT Γ.R N
 fh:lO Γ.T Γ.R F
 sh:Γ.S∈bL Γ.R
 gT:Γ.Cs[0]?=some (di Γ.S Γ.R [(0,0)])
 ff:∀J∈Γ.Cs,∀x,bQ Γ.S Γ.R J x≠[]->bQ Γ.S Γ.R J x∈Γ.Cs
 oG:∀J∈Γ.Cs,∃K,J=di Γ.S Γ.R K
 ok:∀I∈Γ.Cs,∀p∈I,Γ.ok p
 vG:∀r∈Γ.R,Γ.S∉r.2
 reach:∀J:Sy->Prop,J Γ.S->(∀r∈Γ.R,J r.1->∀y∈r.2,y∈bL Γ.R->J y)->∀x∈bL Γ.R,J x
noncomputable abbrev Px.rest(Γ:Px)(p:It):ai:=(gc Γ.S Γ.R p.1).drop p.2
inductive Rl(Γ:Px)(N:ai)(t z:Tr):Prop
 |mk{I:ak}:Γ.Cs[t.1]?=some I->uG Γ (fJ N) I t z->Rl Γ N t z
inductive RT(Γ:Px)(N:ai):Tr->Tr->Prop
 |refl(t:Tr):RT Γ N t t
 |head{t z w:Tr}:Rl Γ N t z->RT Γ N z w->RT Γ N t w
inductive oi(Γ:Px)(N:ai)(t:Tr)(y:Sy):Prop
 |mk{z:Tr}{I:ak}:RT Γ N t z->Γ.Cs[z.1]?=some I->rL Γ I z y->oi Γ N t y
inductive iq(Γ:Px)(F:ah)(t:Tr)(y:Sy):Prop
 |e:y=cH->t=(0,Γ.S)->iq Γ F t y
 |i{I:ak}{p:It}:Γ.Cs[t.1]?=some I->p∈bQ Γ.S Γ.R I t.2->0<p.2->y≠bV->fN F y (Γ.rest p)->iq Γ F t y
inductive zh(Γ:Px)(i:Nat):Prop
 |z:i=0->gc Γ.S Γ.R i=[Γ.S]->zh Γ i
 |n:gc Γ.S Γ.R i=[]->zh Γ i
 |r{r:aH}:r∈Γ.R->gc Γ.S Γ.R i=r.2->(cY Γ.S Γ.R)[i]?=some r->0<i->zh Γ i
section
variable{Γ:Px}{t z w:Tr}{P:It->Prop}
theorem RT.tail(r:RT Γ N t z)(e:Rl Γ N z w):RT Γ N t w:=by
 induction r with
 |refl t=>exact .head e (.refl _)
 |head a _ ih=>exact .head a (ih e)
theorem By(e:Γ.nx p=some x):Γ.rest p=x::Γ.rest (p.1,p.2+1):=(cm.1 e).elim λl z=>(Vo l).trans (au (·::_) z)
theorem Ai:zh Γ i:=by
 cases i with
 |zero=>exact .z rfl rfl
 |succ i=>
  cases e:Γ.R[i]? with
  |none=>exact .n (au (Option.elim · [] λr:aH=>r.2) e)
  |some r=>exact .r (cP e) (l6 (x:=r.1) (b:=r.2) e) e (iA _)
theorem MG.body(M:MG Γ N F)(h:y∈gc Γ.S Γ.R i):y∈Γ.T\/y∈bL Γ.R:=(Ai (Γ:=Γ) (i:=i)).casesOn (λ_ e=>.inr (a6.1 (e▸h)▸M.sh)) (λe=>absurd (e▸h) a0) λm e _ _=>M.gr.syms _ m y (e▸h)
theorem MM(hp:p∈di Γ.S Γ.R K)(e:Γ.nx p=some r.1)(m:r∈Γ.R):∃i,(i,0)∈di Γ.S Γ.R K/\(cY Γ.S Γ.R)[i]?=some r:=(Sk (S:=Γ.S) (x:=r.1) (b:=r.2) m).elim λi z=>⟨i,cD _ (bg.2 ⟨i,nG.ff p hp i (show i∈(Γ.nx p).elim [] λy=>ig y Γ.R from e.symm▸z.1),rfl⟩),z.2⟩
theorem V6(h:i∈ga Γ.S Γ.R p):∃r,Γ.nx p=some r.1/\r∈Γ.R/\(cY Γ.S Γ.R)[i]?=some r:=by
 unfold ga at h
 cases e:gu Γ.S Γ.R p with
 |none=>rw [e] at h;exact absurd h a0
 |some x=>rw [e] at h;exact(Q7 (S:=Γ.S) h).elim λb z=>⟨(x,b),e,z.2,z.1⟩
theorem Xj(h0:∀p∈K,P p)(h1:∀p r i,P p->Γ.nx p=some r.1->r∈Γ.R->(cY Γ.S Γ.R)[i]?=some r->P (i,0))(hp:p∈di Γ.S Γ.R K):P p:=(bO.1 hp).elim (h0 p) λh=>(bg.1 h).elim λi z=>z.2▸nG.least P ⟨h0,λp hp i hi=>(V6 hi).elim λr z=>h1 p r i hp z.1 z.2.1 z.2.2⟩ i z.1
theorem AO:p∈fj Γ.S Γ.R I x↔∃q∈I,Γ.nx q=some x/\(q.1,q.2+1)=p:=bg.trans ⟨λz=>z.elim λq z=>have w:=fC.1 z.1;⟨q,w.1,cU w.2,z.2⟩,λz=>z.imp λq z=>⟨fC.2 ⟨z.1,cE z.2.1⟩,z.2.2⟩⟩
theorem Az(hp:p∈I)(e:Γ.nx p=some x):(p.1,p.2+1)∈bQ Γ.S Γ.R I x:=eM _ (AO.mpr ⟨p,hp,e,rfl⟩)
theorem N8(hp:p∈bQ Γ.S Γ.R I x):(∃q∈I,Γ.nx q=some x/\(q.1,q.2+1)=p)\/(p.2=0/\0<p.1):=(bO.1 hp).imp AO.mp λh=>(bg.1 h).elim λi z=>by
 cases z.2;exact⟨rfl,(nG.ok.r i z.1).1⟩
theorem Ob(hp:p∈bQ Γ.S Γ.R I x)(h:0<p.2):∃q∈I,Γ.nx q=some x/\(q.1,q.2+1)=p:=(N8 hp).resolve_right λz=>absurd z.1 (jk h)
theorem zH{I:Sy->Sy->Prop}:qx I bV b↔∀y∈b,I y bV:=by
 induction b with
 |nil=>exact⟨λ_ _ h=>absurd h a0,λ_=>rfl⟩
 |cons x b ih=>exact⟨λh=>h.elim (λz=>absurd rfl z.1) λz=>bq.2 ⟨z.1,ih.mp z.2⟩,λh=>.inr ⟨h x (.head _),ih.mpr λy hy=>h y (.tail _ hy)⟩⟩
theorem MG.term(M:MG Γ N F)(h:x∈Γ.T)(e:y∈F x):y=x:=a6.1 (M.fh.good.term x (.inl h)▸e)
theorem MG.qO(M:MG Γ N F)(h:x∈Γ.T\/x∈bL Γ.R):bV∈F x↔x∈N:=⟨λe=>h.elim (λh=>absurd (M.term h e▸h) M.gr.qO) λh=>((M.fh.good.nt x h).2 _ e).i (λx t=>t=bV->x∈N) ⟨λx hx e=>absurd (e▸hx) M.gr.qO,λr hr t ht e=>M.nul.ff r.1 r.2 hr λy hy=>(zH (I:=λx t=>t=bV->x∈N)).mp (e▸ht) y hy rfl⟩ rfl,M.nul.least (λx=>bV∈F x) (λx b m w=>M.fh.ff (x,b) m _ (zH.mpr w)) x⟩
theorem Bg(e:Γ.nx p=some x):x∈gc Γ.S Γ.R p.1:=cP e
theorem MG.FB(M:MG Γ N F)(h:x∈Γ.T):x≠bV/\x∈F x:=⟨λe=>M.gr.qO (e▸h),M.fh.good.term x (.inl h)▸.head _⟩
theorem MG.M9(M:MG Γ N F)(eI:Γ.Cs[t.1]?=some I)(hp:p∈bQ Γ.S Γ.R I t.2)(hy:y≠bV):fN F y (Γ.rest p)->iq Γ F t y:=Xj (P:=λp=>fN F y (Γ.rest p)->iq Γ F t y) (λp hp h=>(AO.mp hp).elim λq z=>.i eI (eM _ hp) (z.2.2▸iA _) hy h) (λp r i hp e m ei h=>hp (By e▸.inl ⟨hy,M.fh.ff r m y (by rwa [Px.rest,l6 (x:=r.1) (b:=r.2) ei] at h)⟩)) hp
theorem MG.Ry(M:MG Γ N F)(hp:p∈bQ Γ.S Γ.R I x):Γ.nx p≠some Γ.S:=λe=>(Ai (Γ:=Γ) (i:=p.1)).casesOn (λz e'=>by
 have l:=(cm.1 e).1
 rw [e'] at l
 exact(N8 hp).elim (λw=>w.elim λq w=>absurd (w.2.2▸l) (wE.2 (cS (bH _)))) λw=>absurd z (jk w.2)) (λe'=>absurd (e'▸Bg e) a0) λm e' _ _=>M.vG _ m (e'▸Bg e)
theorem MG.XL(M:MG Γ N F)(r:Rl Γ N t z)(h:iq Γ F z y):iq Γ F t y:=r.casesOn λeI w=>w.2.2.elim λp ez=>h.casesOn (λ_ e=>absurd (ez.2.trans (au (λt:Tr=>some t.2) e)) (M.Ry ez.1)) λ{J q} eJ hq h0 hy h=>by
 cases bc (w.1.symm.trans eJ)
 exact(Ob hq h0).elim λq' z=>M.M9 eI z.1 hy (By z.2.1▸.inr ⟨(M.qO (M.body (Bg z.2.1))).mpr (tu.mp w.2.1),(au Γ.rest z.2.2:Γ.rest (q'.1,q'.2+1)=Γ.rest q)▸h⟩)
theorem MG.agi(M:MG Γ N F)(h:oi Γ N t y):iq Γ F t y:=by
 cases h with
 |mk r eI h=>induction r with
 |refl t=>exact h.elim (λz=>z.2.elim λp w=>M.M9 eI w.1 (M.FB z.1).1 (By w.2▸.inl (M.FB z.1))) λz=>.e z.1 z.2
 |head a _ ih=>exact M.XL a (ih eI h)
noncomputable def I0(Γ:Px)(N:ai)(x y:Sy):Prop:=(y=bV->x∈N)/\(y≠bV->∀t I,Γ.Cs[t.1]?=some I->lT Γ (bQ Γ.S Γ.R I t.2) x->oi Γ N t y)
theorem MG.Ss(M:MG Γ N F)(hy:y≠bV)(eb:Γ.rest p=b)(eI:Γ.Cs[t.1]?=some I)(hp:p∈bQ Γ.S Γ.R I t.2)(h:qx (I0 Γ N) y b):oi Γ N t y:=by
 induction b generalizing p t I with
 |nil=>exact absurd h hy
 |cons x b ih=>
  have e:Γ.nx p=some x:=(au (λk=>(gc Γ.S Γ.R p.1)[k]?) (KI p.2)).symm.trans (List.getElem?_drop.symm.trans (au (·[0]?) eb))
  refine h.elim (λh=>h.2.2 hy t I eI ⟨p,hp,e⟩) λh=>(jL.1 (M.ff I (cP eI) t.2 λz=>a0 (z▸hp))).elim λj ej=>?_
  exact(ih (t:=(j,x)) (gE ((By e).symm.trans eb)).2 ej (Az hp e) h.2).casesOn λr a b=>.mk (.head (.mk eI ⟨ej,tu.mpr (h.1.1 rfl),p,hp,e⟩) r) a b
theorem MG.MN(M:MG Γ N F):Cv Γ.T Γ.R (I0 Γ N):=⟨λx hx=>⟨λe=>absurd e (M.FB hx).1,λ_ t I eI z=>.mk (.refl t) eI (.inl ⟨hx,z⟩)⟩,λr hr y h=>⟨λe=>M.nul.ff r.1 r.2 hr λy' hy=>(zH.mp (e▸h) y' hy).1 rfl,λhy t I eI z=>z.elim λp z=>(MM z.1 z.2 hr).elim λi w=>M.Ss (p:=(i,0)) (b:=r.2) hy (l6 (x:=r.1) (b:=r.2) w.2) eI w.1 h⟩⟩
theorem MG.Yh(M:MG Γ N F)(hx:x∈Γ.T\/x∈bL Γ.R)(h:y∈F x):I0 Γ N x y:=hx.elim (λhx=>M.term hx h▸M.MN.1 x hx) λhx=>((M.fh.good.nt x hx).2 y h).i _ M.MN
theorem MG.HK(M:MG Γ N F)(eI:Γ.Cs[t.1]?=some I):oi Γ N t y↔iq Γ F t y:=⟨M.agi,λh=>h.casesOn (λa b=>.mk (.refl t) eI (.inr ⟨a,b⟩)) λ{J p} eJ hp _ hy h=>by
 cases bc (eI.symm.trans eJ)
 exact M.Ss hy rfl eI hp (h.mono λx hx t ht=>M.Yh (M.body (zL hx)) ht)⟩
end
structure Ends(R:List aH)(N:ai)(x B:Sy)(r:aH)(j:Nat):Prop where
 m:r∈R
 hd:r.1=x
 at_:r.2[j]?=some B
 hB:B∈bL R
 n:∀s∈r.2.drop (j+1),s∈N
structure Jj(Γ:Px)(N:ai)(F:ah)(Bh:Sy->Sy->Prop):Prop where
 dA:∀t y,m6 Γ t->iq Γ F t y->Bh t.2 y
 ff:∀{x B r j},Ends Γ.R N x B r j->∀y,Bh x y->Bh B y
 least:∀J:Sy->Sy->Prop,(∀t y,m6 Γ t->iq Γ F t y->J t.2 y)->(∀{x B r j},Ends Γ.R N x B r j->∀y,J x y->J B y)->∀x y,Bh x y->J x y
section
variable{Γ:Px}{t z w:Tr}{Bh:Sy->Sy->Prop}
theorem MG.go(M:MG Γ N F)(mI:I∈Γ.Cs)(h:(i,0)∈I)(e:(cY Γ.S Γ.R)[i]?=some r)(hj:j<=r.2.length):∃I∈Γ.Cs,(i,j)∈I:=by
 induction j with
 |zero=>exact⟨_,mI,h⟩
 |succ j ih=>exact(ih (cN hj)).elim λI z=>have g:=Az z.2 ((mF (x:=r.1) (b:=r.2) e).trans (fu hj));⟨_,M.ff I z.1 _ λw=>a0 (w▸g),g⟩
theorem MG.has(M:MG Γ N F)(mI:I∈Γ.Cs)(hp:p∈I)(e:Γ.nx p=some r.1)(m:r∈Γ.R)(hj:j<=r.2.length):∃I∈Γ.Cs,∃i,(cY Γ.S Γ.R)[i]?=some r/\(i,j)∈I:=(M.oG I mI).elim λK eK=>(MM (K:=K) (eK▸hp) e m).elim λi z=>(M.go mI (eK▸z.1) z.2 hj).elim λI w=>⟨I,w.1,i,z.2,w.2⟩
theorem MG.await(M:MG Γ N F):∀x∈bL Γ.R,∃I∈Γ.Cs,∃p∈I,Γ.nx p=some x:=M.reach _ ⟨_,cP M.gT,(0,0),eM _ (.head _),rfl⟩ λr hr z y hy _=>z.elim λI z=>z.2.elim λp w=>(jL.1 hy).elim λj hj=>(M.has z.1 w.1 w.2 hr (cN (cm.1 hj).1)).elim λI u=>u.2.elim λi v=>⟨I,u.1,(i,j),v.2,(mF (x:=r.1) (b:=r.2) v.1).trans hj⟩
theorem MG.ends(M:MG Γ N F)(m:r∈Γ.R):(∀s∈r.2.drop (j+1),s∈N)↔fN F bV (r.2.drop (j+1)):=(forall_congr' λs=>forall_congr' λhs=>(M.qO (M.gr.syms r m s (zL hs))).symm).trans zH.symm
theorem MG.XJ(M:MG Γ N F)(FS:mZ Γ.T Γ.R Γ.S F Fo)(ht:t.2∈bL Γ.R)(d:iq Γ F t y):y∈Fo t.2:=by
 cases d with
 |e a b=>cases a;cases b;exact FS.good.st
 | @i I p eI hp h0 hy h=>
  refine(Ob hp h0).elim λq z=>?_
  obtain⟨_,e,rfl⟩:=z
  have e':(gc Γ.S Γ.R q.1)[q.2]?=some t.2:=e
  refine(Ai (Γ:=Γ) (i:=q.1)).casesOn (λ_ z=>?_) (λz=>absurd (z▸Bg e) a0) λ{r} m z _ _=>(FS.ff.2 r.1 r.2 m q.2 t.2 (z▸e') ht).1 y hy (by rw [<-z];exact h)
  exact absurd (show fN F y [] from(List.drop_eq_nil_of_le (aw (aL (au List.length z)) (cS (bH _))):Γ.rest (q.1,q.2+1)=[])▸h) hy
theorem MG.Wu(M:MG Γ N F)(H:Jj Γ N F Bh)(FS:mZ Γ.T Γ.R Γ.S F Fo)(hx:x∈bL Γ.R):Bh x y↔y∈Fo x:=
 ⟨λh=>H.least (λx y=>x∈bL Γ.R->y∈Fo x) (λt y _ d ht=>M.XJ FS ht d) (λ{x B r j} E y h _=>(FS.ff.2 r.1 r.2 E.m j B E.at_ E.hB).2 ((M.ends E.m).mp E.n) y (E.hd▸h (iK.mpr ⟨r,E.m,E.hd⟩))) x y h hx,λh=>((FS.good.nt x hx).2 y h).i Bh
  ⟨H.dA (0,Γ.S) cH (.mk (M.gr.a7.mpr M.sh) M.gT (p:=(0,0)) (eM _ (.head _)) rfl) (.e rfl rfl),λx b m j B ej hB=>⟨λy hy hi=>(M.await x (iK.mpr ⟨_,m,rfl⟩)).elim λI z=>z.2.elim λp w=>(M.has (r:=(x,b)) z.1 w.1 w.2 m (cN (cm.1 ej).1)).elim λI u=>u.2.elim λi v=>(jL.1 u.1).elim λk ek=>
   have en:Γ.nx (i,j)=some B:=(mF v.1).trans ej
   H.dA (k,B) y (.mk (M.gr.a7.mpr hB) ek v.2 en) (.i ek (Az v.2 en) (iA _) hy (by show fN F y ((gc Γ.S Γ.R i).drop (j+1));rw [l6 v.1];exact hi)),λhi y=>H.ff (r:=(x,b)) ⟨m,rfl,ej,hB,(M.ends m).mpr hi⟩ y⟩⟩⟩
end
noncomputable def cd(y:Sy):Nat:=y.1.cps.toList.headD 0
noncomputable def isLt(c:Nat):Bool:=[65,66,83,97,98,99].contains c
noncomputable def qt(y:Sy):List Nat:=(reprText y.1).cps.toList
structure Tx(s d:List Nat)(n:Nat):Prop where
 f:s.filter isLt=d
 l:s.length<=n
 ok:∀c∈s,c<0x110000
noncomputable def sep(k:Nat):Str:=(if k>0 then ", " else "":String)
noncomputable def H8(b:ai):Nat->List Nat:=b.rec (λ_=>[]) λy _ f k=>(sep k).cps.toList++qt y++f (k+1)
theorem Tp:∀y∈eQ,Tx y.1.cps.toList [cd y] 1/\Tx (qt y) [cd y] 3:=λy hy=>by
 have e:(eQ.all λy=>decide (y.1.cps.toList.filter isLt=[cd y])&&(decide (y.1.cps.toList.length<=1)&&(y.1.cps.toList.all (λc=>decide (c<0x110000))&&(decide ((qt y).filter isLt=[cd y])&&(decide ((qt y).length<=3)&&(qt y).all λc=>decide (c<0x110000))))))=true:=by decide+kernel
 have e:=bu (d5.1 e y hy)
 have e2:=bu e.2
 have e3:=bu e2.2
 have e4:=bu e3.2
 have e5:=bu e4.2
 exact⟨⟨cU e.1,cU e2.1,λc m=>cU (d5.1 e3.1 c m)⟩,cU e4.1,cU e5.1,λc m=>cU (d5.1 e5.2 c m)⟩
theorem To:∀y∈eQ,wV y:=λy hy=>by
 have e:(eQ.all λy=>AH y.1&&(!qh ⟨#[cd y]⟩ "'\""&&(decide (y.1.cps[0]?=some (cd y))&&(decide (y.1≠"%prec")&&decide (y.1.length<=100)))))=true:=by decide+kernel
 have e:=bu (d5.1 e y hy)
 have e2:=bu e.2
 have e3:=bu e2.2
 have e4:=bu e3.2
 exact⟨e.1,⟨_,cU e3.1,jU e2.1⟩,cU e4.1,cU e4.2⟩
theorem W5:∀x∈eQ,∀y∈eQ,cd x=cd y->x=y:=by decide+kernel
section
variable{s s' d d':List Nat}{n':Nat}{acc:Str}{t:aH}{a c:Str}
theorem Tx.app(x:Tx s d n)(y:Tx s' d' n'):Tx (s++s') (d++d') (n+n'):=⟨(List.filter_append ..).trans (kG (au _ x.f) y.f),aw (aL cw) (fw x.l y.l),λc m=>(bO.1 m).elim (x.ok c) (y.ok c)⟩
theorem yV(h:(decide (s.filter isLt=[])&&(decide (s.length<=n)&&s.all λc=>decide (c<0x110000)))=true):Tx s [] n:=
 have h1:=bu h
 have h2:=bu h1.2
 ⟨cU h1.1,cU h2.1,λc m=>cU (d5.1 h2.2 c m)⟩
theorem u3:(a++c).cps.toList=a.cps.toList++c.cps.toList:=Jf
theorem ait(w:∀y∈b,y∈eQ):Tx (H8 b k) (b.map cd) (5*b.length):=by
 induction b generalizing k with
 |nil=>exact⟨rfl,cB _,λ_ z=>absurd z a0⟩
 |cons y b ih=>
  have hs:Tx (sep k).cps.toList [] 2:=by
   cases k with
   |zero=>exact yV (by decide+kernel)
   |succ k=>exact(show sep (k+1)=Str.ofString ", " from au Str.ofString (bz (iA k)))▸yV (by decide+kernel)
  have h:=(hs.app (Tp y (w y (.head _))).2).app (ih (k:=k+1) λz hz=>w z (.tail _ hz))
  exact⟨h.f,aw h.l (aL ((wz ..).trans (KN ..).symm)),h.ok⟩
theorem ail:(textFrom k acc (PyData.shownAll (iG b))).cps.toList=acc.cps.toList++H8 b k:=by
 induction b generalizing k acc with
 |nil=>exact(gy _).symm
 |cons y b ih=>exact ih.trans ((au (·++H8 b (k+1)) (u3.trans (au (·++qt y) u3))).trans ((au (·++_) (kY ..)).trans (kY ..)))
theorem S4(w:∀y∈b,y∈eQ):Tx (PyData.shown (.list (iG b))).cps.toList (b.map cd) (1+5*b.length+1):=by
 have h:=((yV (n:=1) (by decide+kernel:_=true)).app (s:=("[":Str).cps.toList) (ait (k:=0) w)).app (yV (s:=("]":Str).cps.toList) (n:=1) (by decide+kernel))
 rw [List.append_nil] at h
 exact(show(PyData.shown (.list (iG b))).cps.toList=_ from u3.trans (au (·++_) ail))▸h
theorem GT(h:r.1∈eQ)(w:∀y∈r.2,y∈eQ):Tx (fG r).cps.toList ((r.1::r.2).map cd) (1+4+(1+5*r.2.length+1)):=by
 have x:=((Tp r.1 h).1.app (yV (s:=(" -> ":Str).cps.toList) (n:=4) (by decide+kernel))).app (S4 w)
 exact(show(fG r).cps.toList=_ from u3.trans (au (·++_) (u3.trans (au (·++_) u3))))▸x
theorem W6{a b:ai}(ha:∀y∈a,y∈eQ)(hb:∀y∈b,y∈eQ)(e:a.map cd=b.map cd):a=b:=by
 induction a generalizing b with
 |nil=>exact(List.map_eq_nil_iff.mp e.symm).symm
 |cons x a ih=>
  cases b with
  |nil=>cases e
  |cons y b=>exact kG (au _ (W5 x (ha x (.head _)) y (hb y (.head _)) (gE e).1)) (ih (λz hz=>ha z (.tail _ hz)) (λz hz=>hb z (.tail _ hz)) (gE e).2)
structure ww(r:aH):Prop where
 h:r.1∈eQ
 b:∀y∈r.2,y∈eQ
theorem map_inj(lr:ww r)(lt:ww t)(e:fG r=fG t):r=t:=
 have q:=gE (W6 (a:=r.1::r.2) (b:=t.1::t.2) (bq.2 ⟨lr.h,lr.b⟩) (bq.2 ⟨lt.h,lt.b⟩) ((GT lr.h lr.b).f.symm.trans ((au (λx:Str=>x.cps.toList.filter isLt) e).trans (GT lt.h lt.b).f)))
 ni q.1 q.2
theorem S1:PyData.showableAll (iG b)=true/\PyData.hasDictAll (iG b)=false:=by
 induction b with
 |nil=>exact⟨rfl,rfl⟩
 |cons x b ih=>exact⟨hM rfl ih.1,ih.2⟩
theorem ww.ok(l:ww r)(hl:r.2.length<=100):wQ r:=⟨To _ l.h,λy hy=>To y (l.b y hy),Array.all_toList.symm.trans (d5.2 λc m=>cE ((GT l.h l.b).ok c m)),S1.1,S1.2,aw EH (by decide),aw (aL mT.symm) (aw (S4 l.b).l (aw (cS (eV (wC 5 hl) 1)) (by decide))),hl⟩
end
structure eG(R:List aH)(ns:ai):Prop where
 A:RA R
 len:R.length<=5
 first:∃b,R[0]?=some (nS,b)
 dF:ns∈dF
 names:∀x,x∈ns↔x∈bL R
 ff:∀r∈R,∀y∈r.2,y∈[nA,nB]->y∈bL R
 reach:∀J:Sy->Prop,J nS->(∀r∈R,J r.1->∀y∈r.2,y∈bL R->J y)->∀x∈bL R,J x
theorem aeH:∀l∈dF,∀a∈[nA,nB],∀b∈[nA,nB],a∉l->b∉l->a≠b->l=[nS]:=by decide+kernel
theorem NM:∀l∈dF,∀x∈l,x∈p4:=by decide+kernel
section
variable{rs:List aH}{ns:List Nat}{tp:List Nat}{l:ai}{J:Sy->Prop}
theorem Ma:∃r,gz rs k=rs++r:=(aN (qe rs k∈rs)).elim (λz=>⟨[],(bz z).trans (gy _).symm⟩) λz=>⟨_,bD z⟩
theorem Mb:∃r,ns.foldl gz rs=rs++r:=by
 induction ns generalizing rs with
 |nil=>exact⟨[],(gy _).symm⟩
 |cons n ns ih=>exact Hz Ma ih
theorem HN(m:r∈gz (q7 (tp[0]?.getD 0) (tp[1]?.getD 0)) (tp[2]?.getD 0*3+2)):r∈lC tp:=(Mb (ns:=tp.drop 3) (rs:=gz (q7 (tp[0]?.getD 0) (tp[1]?.getD 0)) (tp[2]?.getD 0*3+2))).elim λq e=>(show lC tp=_ from e)▸eM _ m
theorem ahf(hx:x∈p4):∃r∈lC tp,r.1=x:=by
 have p:=Ma (rs:=q7 (tp[0]?.getD 0) (tp[1]?.getD 0)) (k:=tp[2]?.getD 0*3+2)
 have e2:vF ((tp[2]?.getD 0*3+2)%3)=nB:=au vF (Nat.mul_add_mod_self_right _ 3 2)
 have h2:qe (q7 (tp[0]?.getD 0) (tp[1]?.getD 0)) (tp[2]?.getD 0*3+2)∈gz (q7 (tp[0]?.getD 0) (tp[1]?.getD 0)) (tp[2]?.getD 0*3+2):=by
  unfold gz;split
  ·assumption
  ·exact cD _ (.head _)
 exact(bq.2 ⟨⟨_,HN (tG p (.head _)),rfl⟩,bq.2 ⟨⟨_,HN (tG p (.tail _ (.head _))),rfl⟩,bq.2 ⟨⟨_,HN h2,e2⟩,λ_ z=>absurd z a0⟩⟩⟩:∀x∈p4,∃r∈lC tp,r.1=x) x hx
theorem ahe:∃q,lC tp=(nS,fK 4 (tp[0]?.getD 0))::q:=Mb.elim λq e=>⟨_,e⟩
theorem Fd(h:x∈l):x∈grow l r:=by
 unfold grow;split
 ·exact eM _ h
 ·exact h
theorem ve(h:x∈l):x∈rs.foldl grow l:=by
 induction rs generalizing l with
 |nil=>exact h
 |cons r rs ih=>exact ih (Fd h)
theorem Y2(h:x∈grow l r):x∈l\/(r.1∈l/\x∈r.2):=by
 unfold grow at h
 split at h
 ·rename_i z
  exact(bO.1 h).imp_right λw:x∈lu l r=>⟨z,cU (bu (fC.1 w).2).1⟩
 ·exact .inl h
theorem Y1(h:r.1∈l)(hy:y∈r.2)(hn:y∈[nA,nB]):y∈grow l r:=(show grow l r=l++lu l r from bz h)▸(aN (y∈l)).elim (eM _) λz=>cD _ (fC.2 ⟨hn,hM (cE hy) (hM (au Bool.not (cQ z)) rfl)⟩)
theorem Y3(m:r∈rs)(h:r.1∈l)(hy:y∈r.2)(hn:y∈[nA,nB]):y∈rs.foldl grow l:=by
 induction rs generalizing l with
 |nil=>cases m
 |cons s rs ih=>exact(dP.1 m).elim (λe=>ve (rs:=rs) (e▸Y1 h hy hn)) λm=>ih m (Fd h)
theorem Rf:nS∈mK rs n:=by
 induction n with
 |zero=>exact .head _
 |succ n ih=>exact ve ih
theorem agh(A:RA rs)(m:r∈rs)(h:r.1∈mK rs 2)(hy:y∈r.2)(hn:y∈[nA,nB]):y∈mK rs 2:=by
 refine(aN (r.1∈mK rs 1)).elim (λz=>Y3 m z hy hn) λz=>(aN (y∈mK rs 1)).elim ve λw=>(aN (y=r.1)).elim (λe=>e▸h) λe=>absurd ?_ z
 have e1:mK rs 1=[nS]:=aeH _ yz _ ((dP.1 (A.hd r m)).resolve_left λe=>z (e▸Rf)) _ hn z w λu=>e u.symm
 exact(show mK rs 2=mK rs 1 from au (λl=>rs.foldl grow l) e1)▸h
theorem Oh(s:∀x∈rs.foldl grow l,x∈N)(w:∀r∈rs,r.1∈N->J r.1->∀y∈r.2,y∈N->J y)(h:∀x∈l,J x):∀x∈rs.foldl grow l,J x:=by
 induction rs generalizing l with
 |nil=>exact h
 |cons r rs ih=>exact ih s (λr m=>w r (.tail _ m)) λx hx=>(Y2 hx).elim (h x) λz=>w r (.head _) (s _ (ve (rs:=rs) (Fd z.1))) (h _ z.1) x z.2 (s _ (ve (rs:=rs) hx))
theorem tj:r∈tK tp↔r∈lC tp/\r.1∈mE tp:=fC.trans (sA λ_=>EK)
theorem A9:x∈mE tp↔x∈bL (tK tp):=⟨λh=>(ahf (NM _ yz x h)).elim λr z=>iK.mpr ⟨r,tj.mpr ⟨z.1,z.2▸h⟩,z.2⟩,λh=>(iK.mp h).elim λr z=>z.2▸(tj.mp z.1).2⟩
theorem aiv{p:aH->Bool}:cJ (rs.filter p)<=cJ rs:=by
 induction rs with
 |nil=>exact cB _
 |cons r rs ih=>
  rw [List.filter_cons]
  split
  ·exact eV ih _
  ·exact aw ih (rY _ _)
theorem aap(h5:tp.length<=5):eG (tK tp) (mE tp):=
 have A:=SN (tp:=tp)
 have ln:(lC tp).length<=5:=aw O5 (eV (cS (aw (aL rW) (Nat.sub_le_sub_right h5 3))) 2)
 have w:∀{J:Sy->Prop},(∀r∈tK tp,J r.1->∀y∈r.2,y∈bL (tK tp)->J y)->∀r∈lC tp,r.1∈mE tp->J r.1->∀y∈r.2,y∈mE tp->J y:=λw r m hr hj y hy hn=>w r (tj.mpr ⟨m,hr⟩) hj y hy (A9.mp hn)
 ⟨⟨λr m=>A.hd r (tj.mp m).1,λr m=>A.bd r (tj.mp m).1,A.nodup.filter _,aw aiv A.cJ⟩,aw (rX _ _) ln,ahe.elim λq e=>⟨fK 4 (tp[0]?.getD 0),by
  unfold tK
  rw [e,List.filter_cons_of_pos (p:=λr:aH=>decide (r.1∈mE tp)) (decide_eq_true Rf)];rfl⟩,yz,λx=>A9,λr m y hy hn=>A9.mp (agh A (tj.mp m).1 (tj.mp m).2 hy hn),λJ h0 h1 x hx=>Oh (rs:=lC tp) (N:=mE tp) (λx hx=>hx) (w h1) (Oh (l:=[nS]) (N:=mE tp) (λx hx=>ve hx) (w h1) λx hx=>a6.1 hx▸h0) x (A9.mpr hx)⟩
end
noncomputable def BA(l:ak)(n:Nat):List ak:=n.rec [[]] λ_ f=>[]::l.flatMap λx=>f.map (x::·)
noncomputable def FN(R:List aH):ak:=(R.zipIdx 1).flatMap λp=>(List.range p.1.2.length).map λj=>(p.2,j+1)
inductive wp(R:List aH):It->Prop
 |mk{i j:Nat}{r:aH}:R[i]?=some r->j<r.2.length->wp R (i+1,j+1)
noncomputable abbrev jb:ai:=[ta,tb,tc,oC]
noncomputable def sZ(R:List aH):List ak:=di nS R [(0,0)]::di nS R [(0,1)]::((BA (FN R) 5).filter λK=>decide K.Nodup).map (di nS R)
noncomputable def aaq(R:List aH):aj:=eQ.map sv++(sZ R).flatMap λI=>eQ.map λy=>.tup [d7 I,sv y]
noncomputable def yb(R:List aH):Px:={T:=jb,R:=R,S:=nS,U:=aaq R,fc:=sZ R,Fo:=λ_=>[],w:=11,vs:=[],Cs:=[],st:=0,nI:=0,I:=[],av:=λ_=>none}
inductive DE(S:Sy)(R:List aH)(x:Sy):It->Prop
 |z:x=S->DE S R x (0,0)
 |r{i j:Nat}{r:aH}:R[i]?=some r->r.2[j]?=some x->DE S R x (i+1,j)
inductive iX(R:List aH):ak->Prop
 |a:iX R [(0,0)]
 |b:iX R [(0,1)]
 |c{K:ak}:K.Nodup->(∀p∈K,wp R p)->K.length<=5->iX R K
section
variable{R:List aH}{l:ak}
theorem agu(h:l.length<=5):(BA l n).length<=n.rec 1 λ_ c=>5*c+1:=by
 induction n with
 |zero=>exact cB _
 |succ n ih=>exact aw (cS (EY (f:=λx=>(BA l n).map (x::·)) λx=>aw (aL (bx _)) ih)) (cS (jN _ h))
theorem SC:K∈BA l n↔(∀p∈K,p∈l)/\K.length<=n:=by
 induction n generalizing K with
 |zero=>exact a6.trans ⟨λe=>e▸⟨λ_ z=>absurd z a0,cB _⟩,λz=>rV (zO.1 z.2)⟩
 |succ n ih=>
  refine⟨λh=>(dP.1 h).elim (λe=>e▸⟨λ_ z=>absurd z a0,bH _⟩) λh=>(wu.1 h).elim λp z=>(bg.1 z.2).elim λK' w=>w.2▸⟨bq.2 ⟨z.1,(ih.mp w.1).1⟩,cS (ih.mp w.1).2⟩,λz=>?_⟩
  cases K with
  |nil=>exact .head _
  |cons p K=>exact .tail _ (wu.2 ⟨p,z.1 p (.head _),bg.2 ⟨K,ih.mpr ⟨λq hq=>z.1 q (.tail _ hq),Vs z.2⟩,rfl⟩⟩)
theorem FP:p∈FN R↔wp R p:=⟨λh=>(wu.1 h).elim λq z=>(bg.1 z.2).elim λj w=>by
 have m:=zM.1 z.1
 cases w.2
 obtain⟨r,k⟩:=q
 cases k with
 |zero=>exact absurd m.1 (zQ 0)
 |succ k=>exact .mk (r:=r) m.2 (kZ.1 w.1),λh=>h.casesOn λ{i j r} e hj=>wu.2 ⟨(r,i+1),zM.2 ⟨cS (bH _),e⟩,bg.2 ⟨j,kZ.2 hj,rfl⟩⟩⟩
theorem OX:(FN R).length=cJ R:=by
 have k:∀{n},((R.zipIdx n).flatMap λp=>(List.range p.1.2.length).map λj=>(p.2,j+1)).length=cJ R:=λ{n}=>by
  induction R generalizing n with
  |nil=>rfl
  |cons r R ih=>exact(au List.length List.flatMap_cons).trans (cw.trans (kG (au _ ((bx _).trans iw)) ih))
 exact k
theorem RL(e:gu S R p=some x):DE S R x p:=by
 obtain⟨i,j⟩:=p
 cases i with
 |zero=>
  cases j with
  |zero=>exact .z (bc e).symm
  |succ j=>cases e
 |succ i=>
  cases z:R[i]? with
  |none=>exact cK e (au (λo:Option aH=>(o.elim [] (·.2))[j]?) z)
  |some r=>exact .r z ((au (λb:ai=>b[j]?) (l6 (S:=S) (x:=r.1) (b:=r.2) z)).symm.trans e)
theorem EE:p∈di S R K↔p∈K\/∃i∈l9 S R K,(i,0)=p:=bO.trans (fH bg)
theorem Ay(m:i∈l9 S R K):1<=i/\i<=R.length:=nG.ok.r i m
theorem iX.nz(k:iX R K)(hp:p∈K)(h:p.2=0):p.1=0:=by
 cases k with
 |a=>exact a6.1 hp▸rfl
 |b=>exact a6.1 hp▸rfl
 |c n s l=>exact(s p hp).casesOn (motive:=λp _=>p.2=0->p.1=0) (λ_ _ z=>absurd z (wH _)) h
theorem iX.nodup(k:iX R K):(di S R K).Nodup:=pp.2 ⟨k.casesOn (qz _ _) (qz _ _) λn _ _=>n,Dh _ (λa b n e=>n (wN e).1) nG.ok.nodup,λp hp q hq e=>(bg.1 hq).elim λi z=>by
 cases z.2;cases e;exact absurd (k.nz hp rfl) (jk (Ay z.1).1)⟩
theorem iX.len(k:iX R K):K.length<=5:=k.casesOn (by decide) (by decide) λ_ _ l=>l
theorem iX.zero(k:iX R K)(hp:p∈di S R K)(h:p.1=0):K=[p]:=(EE.mp hp).elim (λhp=>by
 cases k with
 |a=>exact a6.1 hp▸rfl
 |b=>exact a6.1 hp▸rfl
 |c n s l=>exact(s p hp).casesOn (motive:=λq _=>q.1=0->K=[p]) (λ_ _ z=>absurd z (wH _)) h) λz=>z.elim λi z=>by
 cases z.2;exact absurd h (jk (Ay z.1).1)
theorem iX.goto(k:iX R K)(vG:∀r∈R,nS∉r.2)(h5:cJ R<=5):iX R (fj nS R (di nS R K) x):=by
 have kn:(fj nS R (di nS R K) x).Nodup:=Dh _ (λa b n e=>n (ni (wN e).1 (zR (wN e).2))) (k.nodup.filter _)
 have nx:∀{q},q∈di nS R K->gu nS R q=some x->q=(0,0)\/wp R (q.1,q.2+1):=λ{q} hq e=>(RL e).casesOn (λ_=>.inl rfl) λer ex=>.inr (.mk er (cm.1 ex).1)
 refine(aN ((0,0)∈di nS R K/\gu nS R (0,0)=some x)).elim (λz=>?_) λz=>?_
 ·cases k.zero z.1 rfl
  cases bc (show some nS=some x from z.2)
  have e:fj nS R (di nS R [(0,0)]) nS=[(0,1)]:=by
   unfold fj di
   rw [List.singleton_append,List.filter_cons_of_pos (by rfl),show(fresh (l9 nS R [(0,0)])).filter (λp=>decide (gu nS R p=some nS))=[] from List.filter_eq_nil_iff.mpr λp hp e=>(List.mem_map.mp hp).elim λi w=>?_];rfl
   cases w.2
   have c:=RL (cU e)
   cases c with
   |z _=>exact absurd (Ay w.1).1 (zQ 0)
   |r er ex=>exact vG _ (cP er) (cP ex)
  exact e▸.b
 ·have s:∀p∈fj nS R (di nS R K) x,wp R p:=λp hp=>(AO (Γ:=yb R).mp hp).elim λq w=>w.2.2▸(nx w.1 w.2.1).resolve_left λe=>z (e▸⟨w.1,w.2.1⟩)
  exact .c kn s (aw (gP kn λp hp=>FP.mpr (s p hp)) (OX▸h5))
end
section
variable{R:List aH}
theorem GY(h5:cJ R<=5):I∈sZ R↔∃K,iX R K/\di nS R K=I:=⟨λh=>(dP.1 h).elim (λe=>⟨_,.a,e.symm⟩) λh=>(dP.1 h).elim (λe=>⟨_,.b,e.symm⟩) λh=>(bg.1 h).elim λK z=>
 have f:=fC.1 z.1
 have w:=SC.mp f.1
 ⟨K,.c (cU f.2) (λp hp=>FP.mp (w.1 p hp)) w.2,z.2⟩,λz=>z.elim λK z=>z.2▸z.1.casesOn (.head _) (.tail _ (.head _)) λ{K} n s l=>.tail _ (.tail _ (bg.2 ⟨K,fC.2 ⟨SC.mpr ⟨λp hp=>FP.mpr (s p hp),l⟩,cE n⟩,rfl⟩))⟩
theorem H1(h5:cJ R<=5):(sZ R).length<=3908:=cS (cS (aw (aL (bx _)) (aw (rX _ _) (agu (n:=5) (OX▸h5)))))
theorem iX.ok(k:iX R K)(hp:p∈di nS R K):d4 nS R p:=(EE.mp hp).elim (λhp=>by
 cases k with
 |a=>exact a6.1 hp▸.mk (x:=iO) (b:=[nS]) rfl (bH _)
 |b=>exact a6.1 hp▸.mk (x:=iO) (b:=[nS]) rfl (cB _)
 |c n s l=>exact(s p hp).casesOn λ{i j r} e hj=>.mk (x:=r.1) (b:=r.2) e hj) λz=>z.elim λi z=>z.2▸Ax (Ay z.1).2
theorem eG.vG(L:eG R ns):∀r∈R,nS∉r.2:=λr m h=>absurd (L.A.bd r m _ h) (by decide+kernel)
theorem eG.sym(L:eG R ns)(h:jn nS R y):y∈eQ:=h.casesOn λ{i x b} e hy=>by
 cases i with
 |zero=>cases e;exact a6.1 hy▸.head _
 |succ i=>exact .tail _ (L.A.bd _ (cP e) y hy)
theorem eG.univ(L:eG R ns):d9 (yb R):=
 have m:∀{I},I∈sZ R↔_:=GY L.A.cJ
 have sl:=H1 L.A.cJ
 ⟨.head _,λI hI x=>(m.mp hI).elim λK z=>z.2▸m.mpr ⟨_,z.1.goto L.vG L.A.cJ,rfl⟩,λI hI p hp=>(m.mp hI).elim λK z=>z.1.ok (z.2.symm▸hp),λI hI=>(m.mp hI).elim λK z=>z.2▸aw ED (aw (fw z.1.len L.len) (by decide)),λy hy=>eM _ (bg.2 ⟨y,L.sym hy,rfl⟩),λI hI y hy=>cD _ (wu.2 ⟨I,hI,bg.2 ⟨y,L.sym hy,rfl⟩⟩),
  aw (aL cw) (aw (fw (aL (bx _)) (aw (EY (f:=λI=>eQ.map λy=>V.tup [d7 I,sv y]) λa=>aL (bx _)) (jN _ sl))) (by decide)),aw sl (by decide)⟩
theorem eG.acc(L:eG R ns):∀I∈sZ R,((0,1):It)∈I->∀p∈I,p=(0,1):=λI hI h0 p hp=>(GY L.A.cJ |>.mp hI).elim λK z=>by
 cases z.2
 cases z.1.zero h0 rfl
 exact(EE.mp hp).elim a6.1 λw=>w.elim λi w=>absurd (au Prod.snd (nG.least (λp=>p=(0,1)) ⟨λp hp=>a6.1 hp,λp e i hi=>absurd ((show p=(0,1) from e)▸hi:i∈ga nS R (0,1)) a0⟩ i w.1)) (Nat.zero_ne_one)
theorem eG.wl(L:eG R ns):∀I∈sZ R,I.length<=11:=λI hI=>(GY L.A.cJ |>.mp hI).elim λK z=>z.2▸aw ED (aw (fw z.1.len L.len) (by decide))
theorem eG.hd(L:eG R ns)(h:x∈bL R):x∈p4:=NM _ L.dF x ((L.names x).mpr h)
theorem eG.gr(L:eG R ns):Gr jb R:=⟨by decide+kernel,by decide,aw L.len (by decide),by decide+kernel,by decide+kernel,λz=>absurd (L.hd z) (by decide+kernel),λz=>absurd (L.hd z) (by decide+kernel),λx hx z=>(by decide+kernel:∀x∈jb,x∉p4) x hx (L.hd z),
 λr m y hy=>((by decide+kernel:∀y∈xh,y∈jb\/y∈[nA,nB]) y (L.A.bd r m y hy)).imp_right (L.ff r m y hy),λr m=>aw (yc m) (aw L.A.cJ (by decide))⟩
theorem eG.sh(L:eG R ns):nS∈bL R:=L.first.elim λb e=>iK.mpr ⟨_,cP e,rfl⟩
theorem eG.top(L:eG R ns):iO∉bL R:=λz=>absurd (L.hd z) (by decide+kernel)
theorem eG.lt{r:aH}(L:eG R ns)(m:r∈R):ww r:=⟨AC (L.A.hd r m),λy hy=>.tail _ (L.A.bd r m y hy)⟩
end
noncomputable abbrev MO(c:CN)(Fi:b6):b6:=λvs h Q=>dJ (.inst c λ_=>none) h λv h'=>Fi (v::vs) h' λr bP=>r= .none/\Q v bP
noncomputable def JQ:b6:=MO .dX zv
noncomputable def CF:b6:=MO .table λus=>zx (us++[.none])
noncomputable def zA:b6:=λus=>JT (us++[.none,.str "",.int 0])
noncomputable def rg(m:EW):EW:=bv BN (aA m aD)
noncomputable def xf(m:EW):EW:=bv rP (aA m aD)
noncomputable def yp(m:EW)(js:List (Option Nat))(c:EW):EW:=i7 (bB m) false (none::none::js) (a5 1) (aT .NotIn (an 1) c) (an 1)
noncomputable def sK(o m:EW):SW:=cM (bY o "list" ET (aA m aD))
noncomputable def tT(i j:Nat):TW:=iN 2 (dE (a5 i) (dE (a5 j) ib))
noncomputable def Qb:SW:=aB (aS (cu (an 11) (an 13)) (dw (an 7) "dr_relation" .table CG (aA (an 8) (aA (an 13) (aA (an 9) aD))))) (aS (cu (an 12) (an 13)) (rg (xf (dw (an 7) "reads_relation" .table zE (aA (an 8) (aA (an 13) (aA (an 9) aD)))))))
noncomputable def acH:SW:=aB (sK (an 18) (yp (a3 (an 11) (an 19)) [some 18] (an 2))) (sK (an 17) (yp (a3 (an 12) (an 19)) [some 17] (an 2)))
noncomputable def Ql:SW:=aB (a9 (aT .NotIn (an 19) (an 11)) (eA (hX false)) aO) acH
noncomputable def Qm:SW:=aB (sK (an 20) (i7 (bB (a3 (an 10) (an 22))) false [none,none] (a5 1) (aT .NotEq (an 1) (bR "<empty>")) (an 1))) (a9 (aT .NotIn (an 22) (an 9)) q8 aO)
noncomputable def Qn:SW:=aB (a9 (aT .NotEq (rg (an 18)) (rg (xf (an 20)))) (eA (hX false)) aO) (sK (a3 (an 15) (an 14)) (yp (an 18) [some 15,some 14] (a3 (an 2) (an 3))))
noncomputable def QQ:SW:=bX (bB (nH (aE (an 21) "prod") (cR .Add (aE (an 21) "lr_index") (aM 1)))) false (a5 22) Qm aO
noncomputable def Qo:SW:=aB (bX (bB (a3 (an 8) (a3 (a3 (aE (an 7) "lr_goto") (an 16)) (an 14)))) false (a5 21) (a9 (aT .Gt (aE (an 21) "lr_index") (aM 0)) QQ aO) aO) Qn
noncomputable def Gy:SW:=aB (aZ 20 (xw (du (aT .Eq (an 16) (aM 0)) (du (aT .Eq (an 14) (bR "S")) dI)) (cx (aA (bR "$end") aD)) (cx aD))) Qo
noncomputable def acN:SW:=aB (bX (bB (an 17)) false (a5 19) Ql aO) Gy
noncomputable def acO:SW:=aB (aZ 18 (cx aD)) acN
noncomputable def Qc:SW:=aB (aZ 17 (cx (aA (eO (aA (an 16) (aA (an 14) aD))) aD))) acO
noncomputable def HQ(i:Nat):EW:=EN (bB (an i)) false [none,none,none,some i] (a5 1) dI (an 1) (rg (a3 (an 3) (an 1)))
noncomputable def Gu:SW:=aB (aZ 25 (dw (an 4) "compute_follow" .dX rN aD)) (eA (u5 .Eq (HQ 25) (HQ 15)))
noncomputable def ad3:SW:=sK (a3 (an 15) (an 22)) (yp (a3 (an 15) (an 5)) [some 15,some 22] (a3 (an 2) (an 3)))
noncomputable def Gv:SW:=aB (bX (bB (an 3)) false (a5 24) (bX (bB (an 23)) true (tT 22 5) ad3 aO) aO) Gu
noncomputable def QR:SW:=a9 (du (aT .In (an 22) (an 3)) (du (bE (bv uO (aA (i7 (bB (nH (an 6) (cR .Add (an 19) (aM 1)))) false [none,none,some 9] (a5 1) dI (u5 .In (an 1) (an 2))) aD))) dI)) (cM (bY (an 23) "list" de (aA (eO (aA (an 22) (aA (an 5) aD))) aD))) aO
noncomputable def acF:SW:=aB (bX (bB (an 2)) true (tT 5 6) (bX (p6 qN (aA (an 6) aD)) true (tT 19 22) QR aO) aO) Gv
noncomputable def Gw:SW:=aB (aZ 23 (cx aD)) acF
noncomputable def A7:SW:=aB (bX (bB (an 11)) true (tT 16 14) Qc aO) Gw
noncomputable def Qd:SW:=aB (aZ 15 (EN (bB (an 3)) false [none,none] (a5 1) dI (an 1) (cx aD))) A7
noncomputable def Qe:SW:=aB (bX (bB (dw (an 7) "find_nonterminal_transitions" .table CH (aA (an 8) aD))) false (a5 13) Qb aO) Qd
noncomputable def acG:SW:=aB (aZ 12 fz) Qe
noncomputable def Qf:SW:=aB (aZ 11 fz) acG
noncomputable def acI:SW:=aB (aZ 10 (dw (an 4) "compute_first" .dX uu aD)) Qf
noncomputable def acJ:SW:=aB (aZ 9 (dw (an 7) "compute_nullable_nonterminals" .table zB aD)) acI
noncomputable def Qg:SW:=aB (aZ 8 (bv zC (aA (an 4) (aA (an 7) aD)))) acJ
noncomputable def acK:SW:=aB (aZ 7 (bv CF (aA (an 4) (aA (bR "SLR") aD)))) Qg
noncomputable def Gx:SW:=aB (cM (dw (an 4) "set_start" .dX wh (aA (bR "S") aD))) acK
noncomputable def Qh:SW:=aB (bX (bB (an 2)) true (tT 5 6) (cM (dw (an 4) "add_production" .dX zA (aA (an 5) (aA (bv yf (aA (an 6) aD)) aD)))) aO) Gx
noncomputable def Qi:SW:=aB (aZ 4 (bv JQ (aA (cx (aA (bR "a") (aA (bR "b") (aA (bR "c") aD)))) aD))) Qh
noncomputable def Qj:SW:=aB (aS (tT 2 3) (bv CJ (aA (an 1) aD))) Qi
noncomputable def acM:SW:=aB (aZ 1 (cR .Add (an 1) (nH (cx (aA (aM 193) (aA (aM 3) (aA (aM 0) aD)))) (bv dQ (aA (an 1) aD))))) Qj
noncomputable def Qk:SW:=aB (aZ 1 (i7 (bB (Nd (an 0) (aM 5))) false [none,none] (a5 1) dI (cR .Mod (an 1) (aM 720720)))) acM
noncomputable def Qa:SW:=Qk
set_option genInjectivity false in
structure Lw where
 Γ:Px
 ns:ai
 F:ah
 N:ai
 l:Nat
 vs:List Nat
 el:Nat
 tr:List Tr
 nr:Nat
 zs:List Ru
structure cZ(W:Lw):Prop where
 iJ:eG W.Γ.R W.ns
 M:MG W.Γ W.N W.F
 FS:mZ W.Γ.T W.Γ.R W.Γ.S W.F W.Γ.Fo
 un:d9 W.Γ
 len:W.Γ.Cs.length<=5000
 eT:W.Γ.T=jb
 eS:W.Γ.S=nS
 nodup:W.tr.Nodup
 mem:∀t,t∈W.tr↔m6 W.Γ t
 cn:W.Γ.Cs.Nodup
 zs:bW W.zs=W.Γ.R
structure gG(W:Lw)(h:H):Prop where
 O:Fin W.Γ h
 ls:uA W.Γ (.ay W.l) W.vs h
 fh:Tab 13 14 (ju W.Γ.T W.Γ.R) W.F h
 es:h (.ay W.el)=some (.set (fJ W.N))
 ru:h (.ay W.nr)=some (.lst (W.zs.map gS))
 ra:fP W.zs h
noncomputable def Pj(W:Lw):Ks:=[(10,.ref kH),(9,bA W.el),(8,bA W.l),(7,.ref bN),(4,.ref gL),(3,.str (fk W.ns)),(2,bA W.nr)]
noncomputable abbrev pX:L:=lb 60
noncomputable abbrev qc:L:=lb 61
noncomputable abbrev o0(n:Nat)(tr:List Tr):af:=p8 cF (λt=>.ref (bU n t)) tr
inductive uM(W:Lw)(t:Tr)(h:H):Prop
 |mk{I:ak}{ys:ai}{zs:List Tr}:W.Γ.Cs[t.1]?=some I->ys.Nodup->(∀y,y∈ys↔rL W.Γ I t y)->h (bU 48 t)=some (.lst (ys.map sv))->zs.Nodup->(∀z,z∈zs↔Rl W.Γ W.N t z)->h (bU 62 t)=some (.lst (zs.map cF))->uM W t h
noncomputable abbrev ya:List Nat:=[48,49,62]
noncomputable abbrev M8:List Nat:=[48,49,60,61,62]++d6
structure DR(W:Lw)(av:H)(a:List Tr)(h:H):Prop where
 A:gG W h
 d:∃i,h pX=some (.aF (o0 48 a) i)
 r:∃i,h qc=some (.aF (o0 62 a) i)
 at_:∀t∈a,uM W t h
 free:∀{n} t,ca n ya=true->t∉a->h (bU n t)=none
 fr:aC M8 av h
noncomputable def pW(W:Lw):Ks:=(12,.ref qc)::(11,.ref pX)::Pj W
inductive Jy(Γ:Px)(I:ak)(t:Tr)(h:H):ab
 |mk{ys:ai}{h':H}:ys.Nodup->(∀y,y∈ys↔rL Γ I t y)->h' (bU 48 t)=some (.lst (ys.map sv))->Γ.M h'->aC (48::d6) h h'->qD 48 t h h'->Jy Γ I t h (.ref (bU 48 t)) h'
inductive DK(Γ:Px)(E:List Str)(I:ak)(t:Tr)(h:H):ab
 |mk{zs:List Tr}{h':H}:(∀z,z∈zs↔uG Γ E I t z)->h' (bU 49 t)=some (.lst (zs.map cF))->Γ.M h'->aC (49::d6) h h'->qD 49 t h h'->DK Γ E I t h (.ref (bU 49 t)) h'
inductive Ls(Γ:Px)(E:List Str)(I:ak)(t:Tr)(h:H):ab
 |mk{zs:List Tr}{av:H}{n:Nat}{o:O}:DK Γ E I t h (.ref (bU 49 t)) av->av (.ay n)=none->zs.Nodup->(∀z,z∈zs↔uG Γ E I t z)->Ls Γ E I t h (.ref (bU 62 t)) ((av.upd (.ay n) o).upd (bU 62 t) (.lst (zs.map cF)))
section
variable{W:Lw}{av:H}{t z:Tr}{zs:List Tr}{α:Type}{f:α->V}{ws:aj}
theorem gG.re(A:gG W h)(M:W.Γ.M h')(F:aC ts h h')(w:jS [13,14,15,16,44,46,31,32] ts=true):gG W h':=
 have s:=F.same w
 ⟨A.O.re M (s.sub rfl),⟨F.old A.ls.lst,A.ls.st.old F.old⟩,A.fh.same (s.sub rfl),F.old A.es,F.old A.ru,fP.old A.ra F⟩
theorem gG.cO(A:gG W h)(F:aC ts h h')(w:jS ([13,14,15,16,44,46,31,32]++q4) ts=true):gG W h':=
 have s:=F.same w
 ⟨A.O.re (A.O.M.old (s.sub rfl) F.old) (s.sub rfl),⟨F.old A.ls.lst,A.ls.st.old F.old⟩,A.fh.same (s.sub rfl),F.old A.es,F.old A.ru,fP.old A.ra F⟩
theorem uM.at_(T:uM W t h)(e1:h' (bU 48 t)=h (bU 48 t))(e2:h' (bU 62 t)=h (bU 62 t)):uM W t h':=T.casesOn λa b c d e f g=>.mk a b c (e1.trans d) e f (e2.trans g)
theorem cZ.yT(D:cZ W)(m:t∈W.tr):∃I,W.Γ.Cs[t.1]?=some I/\bQ W.Γ.S W.Γ.R I t.2≠[]/\jn W.Γ.S W.Γ.R t.2/\t.2∈a7 W.Γ.T W.Γ.R:=((D.mem t).mp m).casesOn λ{I p} n eI hp e=>⟨I,eI,λz=>a0 (z▸Az hp e),vE e,n⟩
theorem cZ.cs(D:cZ W)(e:W.Γ.Cs[i]?=some I):i<=1000000:=aw (cN (cm.1 e).1) (aw D.len (by decide))
theorem cZ.nm(D:cZ W)(q:z.2.1∈fJ W.N):z.2∈bL W.Γ.R:=D.M.nul.least (λx=>x∈bL W.Γ.R) (λx b m _=>iK.mpr ⟨_,m,rfl⟩) _ (tu.mp q)
theorem cZ.agq(D:cZ W)(r:uG W.Γ (fJ W.N) I t z):z.2∈[nA,nB]:=(dP.1 (D.iJ.hd (D.nm r.2.1))).resolve_left λe=>r.2.2.elim λp w=>D.M.Ry w.1 (w.2.trans (au some (e.trans D.eS.symm)))
theorem Yb(D:cZ W)(w:∀z∈zs,uG W.Γ (fJ W.N) I t z):∃us:aj,us.length<=2/\∀v∈zs.map cF,v∈us:=by
 cases zs with
 |nil=>exact⟨[],bH _,λ_ z=>absurd z a0⟩
 |cons IT zs=>exact⟨[nA,nB].map λy=>cF (IT.1,y),cB 2,λv hv=>(bg.1 hv).elim λz q=>q.2▸bg.2 ⟨z.2,D.agq (w z q.1),au (λi=>cF (i,z.2)) ((wr (cm.1 (w IT (.head _)).1).1 D.cn).mp ((w IT (.head _)).1.trans (w z q.1).1.symm))⟩⟩
theorem Bc{l:List α}(h:(l.map f).Nodup):l.Nodup:=List.Pairwise.of_map f (λa b n e=>n (au f e)) h
theorem GR(h:∀w∈ws,∃z,f z=w):∃zs:List α,zs.map f=ws:=by
 induction ws with
 |nil=>exact⟨[],rfl⟩
 |cons w ws ih=>exact(h w (.head _)).elim λz e=>(ih λw m=>h w (.tail _ m)).elim λzs e'=>⟨z::zs,kG (au _ e) e'⟩
theorem TH{v:V}(h:v∈zs.map cF):IsPair v:=(bg.1 h).elim λz q=>q.2▸.mk z.2.2
end
noncomputable def ko(t:Tr)(h h':H):Prop:=∀n t',ca n ya=true->t'≠t->h' (bU n t')=h (bU n t')
structure DH(W:Lw)(t:Tr)(a:List Tr)(I:ak)(ys:ai)(h h2:H):Prop where
 A:gG W h2
 d:∃i,h2 pX=some (.aF (o0 48 (a++[t])) i)
 nd:ys.Nodup
 mem:∀y,y∈ys↔rL W.Γ I t y
 e:h2 (bU 48 t)=some (.lst (ys.map sv))
 fA:ko t h h2
 fr:aC ([48,60]++d6) h h2
section
variable{W:Lw}{av:H}{t z:Tr}{a zs:List Tr}{o:O}{E:List Str}
theorem ko.trans(a:ko t h h')(b:ko t h' h2):ko t h h2:=λn t' m ne=>(b n t' m ne).trans (a n t' m ne)
theorem ko.cO(F:aC ts h h')(w:jS ya ts=true):ko t h h':=λ_ t' m _=>F.at_ _ _ (fT w m)
theorem ko.of(F:aC (n::ts) h h')(o:qD n t h h')(w:jS ya ts=true):ko t h h':=λk t' m ne=>(aN (k=n)).elim (λe=>e▸o t' ne) λe=>F.at_ _ _ (Bool.or_eq_false_iff.mpr ⟨j7.2 λz=>e (Dz z),fT w m⟩)
theorem ko.upd:ko t h (h.upd (bU n t) o):=λ_ t' _ ne=>H.bp (yR ne)
theorem Ue{dn ln:Nat}(e:∃i,h (lb dn)=some (.aF (o0 ln a) i))(nt:t∉a)(la:a.length<=900000)(q:∀i,Wf n ks (h.upd (lb dn) (.aF (o0 ln (a++[t])) i)) P)(po:Ek ks m h (.ref (lb dn))){m':EW}(pk:Ek ks m' h (cF t)):Wk n ks (aS (cu m m') (cV (.ref (bU ln t)))) h P:=e.elim λi e=>kR (v:=.ref (bU ln t)) (w:=cF t) lH po pk e (aw (aL (bx _)) (aw la (by decide))) vr λi=>(G7 (kf:=cF) (g:=λt=>.ref (bU ln t)) (g':=λt=>.ref (bU ln t)) yS nt λ_ _=>rfl).symm▸q i
theorem ajH(D:cZ W)(p:Ex ks m h (DK W.Γ (fJ W.N) I t h))(f:h (bU 62 t)=none):Ex ks (rg (xf m)) h (Ls W.Γ (fJ W.N) I t h):=λg K Q q=>p g K _ λv h0 u=>by
 cases u with
 | @mk zs h0 mz el M F o=>
  refine(Yb D λz hz=>(mz z).mp hz).elim λus w=>.inr (.mk rfl el (.q3 us w.1 w.2 λv hv=>TH hv) λws nd mw=>gA λn hn=>.mk rfl (.inr H.aJ) (.q3 (λw hw=>TH ((mw w).mp hw)) (aw (gP nd λv hv=>w.2 v ((mw v).mp hv)) w.1) λlG pm=>?_))
  refine(GR (f:=cF) λw hw=>(bg.1 ((mw w).mp (pm.mem_iff.mp hw))).imp λz q=>q.2).elim λfY e=>?_
  subst e
  exact gO (bU 62 t) ((H.bp dZ).trans ((F.at_ _ _ rfl).trans f)) (q _ _ (.mk (.mk mz el M F o) hn (Bc (pm.nodup_iff.mpr nd)) λz=>(A8.symm.trans (pm.mem_iff.trans ((mw _).trans A8))).trans (mz z)))
theorem aaT(D:cZ W)(C:DR W av a h)(eI:W.Γ.Cs[t.1]?=some I)(T:uJ W.Γ W.l W.vs I t h2)(nt:t∉a)(la:a.length<=900000)(B:DH W t a I ys h h2)(q:∀h',DR W av (a++[t]) h'->Wf 36 (pW W) h' P):Wk 36 ((13,cF t)::pW W) (aS (cu (an 12) (an 13)) (rg (xf (dw (an 7) "reads_relation" .table zE (aA (an 8) (aA (an 13) (aA (an 9) aD))))))) h2 P:=by
 have NU:∀{n},ca n [49,62]=true->h2 (bU n t)=none:=λm=>(B.fr.at_ _ _ (fT (ts:=[49,62]) rfl m)).trans (C.free t (jC (ts:=[49,62]) rfl m) nt)
 refine Iv (ajH D (B.A.O.M.I.A.tb.gU (xk rfl) (by decide+kernel) (λ_=>by kernel_rfl) (kS (xk rfl) (eE (xk rfl) (xk rfl))) λQ k=>.mk T B.A.es (NU rfl) λzs h' _ b c d e f=>k _ _ (.mk b c d e f)) (NU rfl)) λv h3 u=>?_
 cases u with
 | @mk zs h3 n o R fn zn zm=>
  cases R with
  |mk w e M F ot=>
   refine Ue (a:=a) (C.r.imp λi e=>(H.bp (bw rfl)).trans ((H.bp dZ).trans ((F.at_ _ _ rfl).trans ((B.fr.at_ _ _ rfl).trans e)))) nt la (λi=>?_) (xk rfl) (xk rfl)
   have F4:aC [62,61] h3 (((h3.upd (.ay n) o).upd (bU 62 t) (.lst (zs.map cF))).upd qc (.aF (o0 62 (a++[t])) i)):=((aC.refl.new fn).upd rfl).upd rfl
   have CD:=(F.wide (fq:=[49,62,61]++d6) rfl).trans (F4.wide rfl)
   have o4:ko t h (((h3.upd (.ay n) o).upd (bU 62 t) (.lst (zs.map cF))).upd qc (.aF (o0 62 (a++[t])) i)):=((B.fA.trans (.of F ot rfl)).trans (.cO (aC.refl.new (ts:=[]) fn) rfl)).trans (ko.upd.trans (.cO (aC.refl.upd (ts:=[61]) rfl) rfl))
   refine(q _ ⟨(B.A.re M F rfl).cO F4 rfl,B.d.imp λi e=>(CD.at_ _ _ rfl).trans e,⟨i,H.aJ⟩,λt' ht=>(aN (t'=t)).elim (λe'=>?_) λne=>(C.at_ t' ((bO.1 ht).resolve_right λw=>ne (a6.1 w))).at_ (o4 48 t' rfl ne) (o4 62 t' rfl ne),λ{k} t' m ht=>(o4 k t' m λe=>ht (e▸cD _ (.head _))).trans (C.free t' m λz=>ht (eM _ z)),C.fr.trans ((B.fr.wide rfl).trans (CD.wide rfl))⟩).sub rfl
   subst e'
   exact .mk eI B.nd B.mem ((CD.at_ _ _ rfl).trans B.e) zn (λz=>(zm z).trans ⟨.mk eI,λr=>r.casesOn λe r=>by
    cases bc (eI.symm.trans e);exact r⟩) (aW H.aJ (bw rfl))
theorem aaJ(D:cZ W)(C:DR W av a h)(m:t∈W.tr)(nt:t∉a)(la:a.length<=900000)(q:∀h',DR W av (a++[t]) h'->Wf 36 (pW W) h' P):Wk 36 ((13,cF t)::pW W) Qb h P:=(D.yT m).elim λI z=>by
 have T:∀{h},gG W h->uJ W.Γ W.l W.vs I t h:=λA=>⟨A.O.M,D.un,A.ls,z.1,D.cs z.1,z.2.2.1,z.2.1⟩
 refine a8 (Iv (C.A.O.M.I.A.tb.gU (Φ:=Jy W.Γ I t h) (xk rfl) (by decide+kernel) (λ_=>by kernel_rfl) (kS (xk rfl) (eE (xk rfl) (xk rfl))) λQ k=>.mk (T C.A) (C.free t rfl nt) λys h' a b c d e f=>k _ _ (.mk a b c d e f)) λv h1 u=>?_)
 cases u with
 | @mk ys h1 yn ym e1 M1 F1 o1=>
  refine Ue (a:=a) (C.d.imp λi e=>(F1.at_ _ _ rfl).trans e) nt la (λi=>?_) (xk rfl) (xk rfl)
  have Fu:aC [60] h1 (h1.upd pX (.aF (o0 48 (a++[t])) i)):=aC.refl.upd rfl
  have A2:=(C.A.re M1 F1 rfl).cO Fu rfl
  exact bi (aaT D C z.1 (T A2) nt la ⟨A2,⟨i,H.aJ⟩,yn,ym,aW e1 (bw rfl),(ko.of F1 o1 rfl).trans (.cO Fu rfl),(F1.wide rfl).trans (Fu.wide rfl)⟩ q)
end
structure uI(ys zs:ai):Prop where
 nd:zs.Nodup
 m:∀x,x∈zs↔x∈ys
 s:sortedS (zs.map (·.1))=true
inductive Jg(a:L)(p:ai->Prop)(h:H):ab
 |mk{zs:ai}:p zs->Jg a p h (.ref a) (h.upd a (.lst (zs.map sv)))
inductive Cw(d t:Nat)(xs:ai)(p:Sy->ai->Prop)(h:H):ab
 |mk{F:ah}{h':H}:(∀x∈xs,p x (F x))->Tab d t xs F h'->aC [d,t] h h'->Cw d t xs p h (.ref (lb d)) h'
section
variable{av:H}{mv:EW}{N:Nat}{l:L}{b:Bool}{zs a' b':ai}{js:List (Option Nat)}{ss:List Str}{p:Str}{mi:IW}{src:Src}{Pr:Sy->ai->Prop}
theorem ago(h:risingS p ss=true):(p::ss).Pairwise λa b=>¬b.cps.toList<a.cps.toList:=by
 induction ss generalizing p with
 |nil=>exact qz _ _
 |cons x ss ih=>
  have h:=bu h
  have k:=ih h.2
  have h1:¬x.cps.toList<p.cps.toList:=λz=>absurd ((ltCps_eq ..).trans (cE z)) (j7.1 (jU h.1))
  exact .cons (bq.2 ⟨h1,λy hy=>List.le_trans h1 ((List.pairwise_cons.mp k).1 y hy)⟩) k
theorem Tf(h:sortedS ss=true):ss.Pairwise λa b=>¬b.cps.toList<a.cps.toList:=by
 cases ss with
 |nil=>exact .nil
 |cons x ss=>exact ago h
theorem ah3{a b:Str}(e:a.cps.toList=b.cps.toList):a=b:=by
 cases a;cases b;exact au Str.mk (zc.1 e)
theorem uI.one(sa:uI xs a')(sb:uI ys b')(m:∀x,x∈xs↔x∈ys):a'=b':=(Kx λx y e=>wU e).mp (List.Perm.eq_of_pairwise (λx y _ _ h1 h2=>ah3 (List.le_antisymm h1 h2)) (Tf sa.s) (Tf sb.s) (((List.perm_ext_iff_of_nodup sa.nd sb.nd).mpr λx=>(sa.m x).trans ((m x).trans (sb.m x).symm)).map (·.1)))
theorem HX(e:h l=some (.lst (ys.map sv))\/h l=some (.pR (ys.map sv)))(nd:ys.Nodup)(hl:ys.length<64)(q:∀zs,uI ys zs->dJ (.lst (zs.map sv)) h Q):BN [.ref l] h Q:=.mk rfl e (.txt (λv hv=>(bg.1 hv).elim λy z=>⟨y.1,z.2.symm⟩) (b7 (aL (bx _)) hl) λws pm s=>(GR (f:=V.str) (ws:=ys.map sv) λw hw=>(bg.1 hw).elim λy z=>⟨y.1,z.2⟩).elim λ_ _=>by
 have hw:∀w∈ws,V.str w∈ys.map sv:=λw hw=>pm.mem_iff.mp (bg.2 ⟨w,hw,rfl⟩)
 have ex:∃zs:ai,zs.map (·.1)=ws:=by
  clear s pm
  induction ws with
  |nil=>exact⟨[],rfl⟩
  |cons w ws ih=>exact(bg.1 (hw w (.head _))).elim λy z=>(ih λw m=>hw w (.tail _ m)).elim λzs e=>⟨y::zs,kG (au _ (V.str.inj z.2)) e⟩
 refine ex.elim λzs ez=>?_
 subst ez
 have e2:(zs.map (·.1)).map V.str=zs.map sv:=gj
 rw [e2] at pm⊢
 exact q zs ⟨Bc (pm.nodup_iff.mpr (Dh sv (λa b n e=>n (oY e)) nd)),λx=>tq.symm.trans (pm.mem_iff.trans tq),s⟩)
theorem O9:bj ((j,v)::ks) j=some v:=au (λc=>cond c (some v) (bj ks j)) (Nat.beq_refl j)
theorem UA(hi:Ei ks mi h src)(ok:src.ok b)(hs:∀h',aC [d,t] h h'->∀i,i<=xs.length->src.next h' i=some (xs.map sv)[i]?)(nd:xs.Nodup)(hl:xs.length<=1000000)(fd:h (lb d)=none)(ft:∀x,h (ls t x)=none)(n1:Nat.beq t d=false)
 (ev:∀h' x,aC [d,t] h h'->x∈xs->h' (ls t x)=none->Ex ((j,sv x)::b8) mv h' (Jg (ls t x) (Pr x) h'))(w:b8.map (λp=>(js[p.1]?).join.bind (bj ks))=b8.map λp=>some p.2)(hj:Nat.blt j js.length=true)(kj:∀x,Sub ((j,sv x)::b8) b8):Ex ks (EN mi b js (a5 j) dI (an j) mv) h (Cw d t xs Pr h):=λg K Q q=>hi g K _ ⟨ok,gO (lb d) fd λP hP=>by
 have key:∀{ys a:ai} {g:Fm} {h':H} {F:ah},xs=a++ys->Tab d t a F h'->(∀x∈a,Pr x (F x))->aC [d,t] h h'->Kn js.length b8 g->P a.length g h':=λ{ys}=>by
  induction ys with
  |nil=>exact λ{a g h' F} e T pr Fr K=>hP _ _ _ (by
   cases e.trans (gy a)
   rw [hs h' Fr _ (Nat.le_refl _),nR]
   exact q _ _ (.mk pr T Fr))
  |cons x ys ih=>exact λ{a g h' F} e T pr Fr K=>hP _ _ _ (by
   have nx:x∉a:=vH (e▸nd)
   have K':=K.set (v:=sv x) hj
   rw [hs h' Fr _ (Nat.le_of_lt (mid e).2),nU e]
   show LY (an j) mv (lb d) (g.set j (some (sv x))) h' (P (a.length+1) (g.set j (some (sv x))))
   refine xk O9 _ K'.at_ _ ?_
   refine ev h' x Fr (e▸cD _ (.head _)) (T.free nx) _ K'.at_ _ λv h2 u=>T.d.elim λi ei=>?_
   cases u with
   | @mk zs pz=>
    have T':=Dl.put (c':=λy=>(if y=x then zs else F y).map sv) T n1 (au (List.map sv) (bz rfl)) (λy _ z=>au (List.map sv) (bD z)) (q5 (rows a λx=>.ref (ls t x)) (sv x) i)
    rw [iD nx] at T'
    refine⟨_,_,aW ei λz=>wD n1 (L.mk.inj z).1.symm,aw (aL nX) (aw (cN (mid e).2) hl),fm x,?_⟩
    rw [SD (f:=λx=>V.ref (ls t x)),iD nx]
    exact(cw:(a++[x]).length=a.length+1)▸ih (e.trans (kY a [x] ys).symm) T' (λy hy=>(aN (y=x)).elim (λz=>by
     cases z;rw [if_pos rfl];exact pz) λz=>(bD z:(if y=x then zs else F y)=F y).symm▸pr y ((bO.1 hy).resolve_right λw=>z (a6.1 w))) ((Fr.upd (fF.mpr (.tail _ (.head _)))).upd (fF.mpr (.head _))) (K'.sub (kj x)))
 exact key (a:=[]) (F:=λ_=>[]) rfl (.nil H.aJ λx=>(H.bp λz=>wD n1 (L.mk.inj z).1).trans (ft x)) (λ_ z=>absurd z a0) (aC.refl.upd (fF.mpr (.head _))) (NY (Nat.ble_eq_true_of_le (cB _)) w K)⟩
end
noncomputable abbrev Ag:L:=lb 63
noncomputable abbrev th:List Nat:=[48,49,60,61,62,63,64,66,67,68,69]
noncomputable abbrev Lw.mM(W:Lw)(tr:List Tr):Lw:={W with tr:=tr}
structure RW(W:Lw)(h:H):Prop where
 A:gG W h
 d:∃i,h pX=some (.aF (o0 48 W.tr) i)
 r:∃i,h qc=some (.aF (o0 62 W.tr) i)
 at_:∀t∈W.tr,uM W t h
noncomputable def jr(W:Lw):Ks:=(15,.ref Ag)::pW W
inductive LN(Γ:Px)(h:H):ab
 |mk{n:Nat}{tr:List Tr}:h (.ay n)=none->tr.Nodup->(∀t,t∈tr↔m6 Γ t)->LN Γ h (.ref (.ay n)) (h.upd (.ay n) (.lst (tr.map cF)))
inductive Ju(W:Lw)(az:H)(a:List Tr):Ks->H->Prop
 |mk{h:H}:DR W az a h->Ju W az a (pW W) h
theorem Yp:∀l∈dF,((fk l).cps.toList.map λc=>(⟨#[c]⟩:Str))=l.map (·.1):=by decide+kernel
theorem NO:∀l∈dF,l.Nodup:=by decide+kernel
theorem NH:∀l∈dF,l.length<=3:=by decide+kernel
section
variable{W:Lw}{av:H}{tr:List Tr}{l:ai}
theorem OD(hl:l∈dF)(p:Ek ks m h (.str (fk l))):Ei ks (bB m) h (.row (l.map sv)):=λg K _ q=>p g K _ (.str ((gj.symm.trans ((au (List.map V.str) (Yp l hl)).trans gj):((fk l).cps.toList.map λc=>V.str ⟨#[c]⟩)=l.map sv).symm▸q))
theorem gG.mM(A:gG W h):gG (W.mM tr) h:=⟨A.O,A.ls,A.fh,A.es,A.ru,A.ra⟩
theorem RW.cO(C:RW W h)(F:aC ts h h')(w:jS ([48,60,61,62]++([13,14,15,16,44,46,31,32]++q4)) ts=true):RW W h':=
 have s:=F.same w
 ⟨C.A.re (C.A.O.M.old (s.sub rfl) F.old) F (d5.2 λt m=>d5.1 w t (cD _ (eM _ m))),C.d.imp λ_ e=>(s _ _ _ rfl).trans e,C.r.imp λ_ e=>(s _ _ _ rfl).trans e,λt ht=>(C.at_ t ht).at_ (s _ _ _ rfl) (s _ _ _ rfl)⟩
noncomputable abbrev Cp(W:Lw)(h:H)(P:Pt):Prop:=∀F h',(∀x∈W.ns,F x=[])->RW W h'->Tab 63 64 W.ns F h'->aC ([48,49,60,61,62,63,64]++d6) h h'->Wk 36 (jr W) A7 h' P
theorem aaQ(D:cZ W)(C:RW W h)(X8:h Ag=none)(X9:∀x,h (ls 64 x)=none)(q:Cp W h P):Wk 36 (pW W) Qd h P:=
 dO (UA (d:=63) (t:=64) (b8:=[]) (Pr:=λ_ zs=>zs=[]) (OD D.iJ.dF (xk rfl)) gh (λh' _ i hi=>qg (aw hi (aL (bx _).symm))) (NO _ D.iJ.dF) (aw (NH _ D.iJ.dF) (by decide)) X8 X9 rfl (λh' x _ _ f g K Q z=>⟨bH _,gO _ f (z _ _ (.mk (zs:=[]) rfl))⟩) rfl rfl λ_=>rfl) λv h' u=>by
  cases u with
  |mk pr T F=>exact(q _ _ pr (C.cO F rfl) T (F.wide rfl)).sub rfl
theorem Ic(len:W.Γ.Cs.length<=5000)(G:Gr W.Γ.T W.Γ.R)(nd:tr.Nodup)(w:∀t,t∈tr->m6 W.Γ t):tr.length<=450000:=TG len G nd λt ht=>(w t ht).casesOn λn e _ _=>⟨(cm.1 e).1,n⟩
theorem aaR(D:∀tr:List Tr,tr.Nodup->(∀t,t∈tr↔m6 W.Γ t)->cZ (W.mM tr))(M0:MG W.Γ W.N W.F)(len:W.Γ.Cs.length<=5000)(A:gG W h)(e1:h pX=some (.aF [] 0))(e2:h qc=some (.aF [] 0))(free:∀{t} s ix,ca t [48,49,62,63,64]=true->h (.mk t s ix)=none)
 (q:∀tr,cZ (W.mM tr)->Cp (W.mM tr) h P):Wk 36 (pW W) Qe h P:=by
 refine a8 (yX (A.O.M.I.A.tb.gU (Φ:=LN W.Γ h) (xk rfl) (by decide+kernel) (λ_=>by kernel_rfl) (iS (v:=bA W.l) (xk rfl)) λQ z=>.mk A.O.M.I.A.L A.O.M.I.A.tb A.ls M0.ok len λn tr hn nd mm=>z _ _ (.mk hn nd mm)) λv h1 u=>?_)
 cases u with
 | @mk n tr hn nd mm=>
  have D1:=D tr nd mm
  have F1:Ext h (h.upd (.ay n) (.lst (tr.map cF))):=aC.refl.new hn
  have tl:tr.length<=450000:=Ic len M0.gr nd λt=>(mm t).mp
  refine fB (xs:=tr) (f:=cF) (bJ:=pW W) (Inv:=Ju (W.mM tr) (h.upd (.ay n) (.lst (tr.map cF)))) lH (λa ks h' I=>I.casesOn λC=>C.fr.old H.aJ) (.mk ⟨(A.cO F1 rfl).mM,⟨0,(F1.at_ _ _ rfl).trans e1⟩,⟨0,(F1.at_ _ _ rfl).trans e2⟩,λ_ z=>absurd z a0,λ{k} t m _=>(F1.at_ _ _ rfl).trans (free _ _ (jC (ts:=ya) rfl m)),.refl⟩) (λa t r ks h' ea I P' tt=>I.casesOn λC=>aaJ (W:=W.mM tr) D1 C (ea▸cD _ (.head _)) (λz=>(pp.1 (ea▸nd)).2.2 t z t (.head _) rfl) (aw (cN (mid ea).2) (aw tl (by decide))) λh2 C=>tt.nx (.mk C) rfl) λks h' I=>I.casesOn λC=>bf (bi ?_)
  have F:aC M8 h _:=(F1.wide rfl).trans C.fr
  exact aaQ (W:=W.mM tr) D1 ⟨C.A,C.d,C.r,C.at_⟩ ((F.at_ _ _ rfl).trans (free _ _ rfl)) (λx=>(F.at_ _ _ rfl).trans (free _ _ rfl)) λBh h2 a b c d=>q tr D1 Bh h2 a b c ((F.wide rfl).trans d)
theorem aaS(D:∀tr:List Tr,tr.Nodup->(∀t,t∈tr↔m6 W.Γ t)->cZ (W.mM tr))(M0:MG W.Γ W.N W.F)(len:W.Γ.Cs.length<=5000)(A:gG W h)(free:∀{t} s ix,ca t th=true->h (.mk t s ix)=none)(q:∀tr,cZ (W.mM tr)->Cp (W.mM tr) h P):Wk 36 (Pj W) Qf h P:=
 have F:aC [60,61] h ((h.upd pX (.aF [] 0)).upd qc (.aF [] 0)):=(aC.refl.upd rfl).upd rfl
 rB pX (free _ _ rfl) (rB qc ((H.bp (bw rfl)).trans (free _ _ rfl)) (aaR D M0 len (A.cO F rfl) (aW H.aJ (bw rfl)) H.aJ (λ{t} s ix m=>(F.at_ _ _ (fT (ts:=[48,49,62,63,64]) rfl m)).trans (free _ _ (jC (ts:=[48,49,62,63,64]) rfl m))) λtr D1 Bh h' a b c d=>q tr D1 Bh h' a b c ((F.wide rfl).trans d)))
end
inductive rM(Γ:Px)(z:Tr)(y:Sy):Prop
 |mk{I:ak}:Γ.Cs[z.1]?=some I->rL Γ I z y->rM Γ z y
structure k8(W:Lw)(t:Tr)(k:Nat)(xs:List Tr)(ys:ai):Prop where
 nd:xs.Nodup
 sub:∀z∈xs,RT W.Γ W.N t z/\z∈W.tr
 st:t∈xs
 cl:∀z∈xs.take k,∀w,Rl W.Γ W.N z w->w∈xs
 yn:ys.Nodup
 ym:∀y,y∈ys↔∃z∈xs.take k,rM W.Γ z y
 le:k<=xs.length
noncomputable def HJ(W:Lw)(t:Tr)(a b:Nat):Ks:=(18,.ref (.ay b))::(17,.ref (.ay a))::(16,.int (t.1:Nat))::(14,sv t.2)::jr W
inductive DJ(W:Lw)(av:H)(t:Tr)(a b k:Nat):Ks->H->Prop
 |mk{xs:List Tr}{ys:ai}{h:H}:k8 W t k xs ys->h (.ay a)=some (.lst (xs.map cF))->h (.ay b)=some (.lst (ys.map sv))->Ext av h->DJ W av t a b k (HJ W t a b) h
section
variable{α:Type}{f:α->V}{c:α->Bool}{as bs:List α}{u:α}{W:Lw}{av:H}{t z w:Tr}{xs vs:List Tr}{us:ai}{a b:Nat}{l l':L}{mc:BW}{js:List (Option Nat)}
theorem B8(b8:Ks)(po:Ek ks o h (.ref l))(e:h l=some (.lst (as.map f)))(pm:Ek ks m h (.ref l'))(e':h l'=some (.lst (bs.map f)))(hl:as.length+bs.length<=1000000)(eb:∀n acc x,h (.ay n)=none->x∈bs->Eb ((1,f x)::b8) mc (h.upd (.ay n) (.lst acc)) (c x))
 (q:∀k o',h (.ay k)=none->Wf n ks ((h.upd (.ay k) o').upd l (.lst ((as++bs.filter c).map f))) P)(w:b8.map (λp=>(js[p.1]?).join.bind (bj ks))=b8.map λp=>some p.2)(hj:Nat.blt 1 js.length=true)(kj:∀x,Sub ((1,f x)::b8) b8):Wk n ks (sK o (i7 (bB m) false js (a5 1) mc (an 1))) h P:=λg K=>
 po g K.at_ _ ⟨.lst e,qn (b:=false) (xs:=bs) (F:=f) (r:=f) (x3 pm e') gh (λn acc i hn _=>lD (dT e' hn)) (aw (rY _ _) hl) eb (λn acc x _ _ _=>xk O9) w hj kj g K.at_ _ λv h' u=>by
  cases u with
  |mk hn=>exact .mk (dT e hn) H.aJ (aw (fw (aL (bx _)) (aw (aL (bx _)) (rX _ _))) hl) (gF.symm▸q _ _ hn g K)⟩
theorem Eh(hc:∀x,c x=true↔x∉as)(na:as.Nodup)(nb:bs.Nodup):(as++bs.filter c).Nodup:=pp.2 ⟨na,nb.filter _,λx hx y hy e=>(hc y).mp (fC.1 hy).2 (e▸hx)⟩
theorem w9(hc:∀x,c x=true↔x∉as):u∈as++bs.filter c↔u∈as\/u∈bs:=bO.trans ⟨λh=>h.imp_right λz=>(fC.1 z).1,λh=>h.elim .inl λh=>(aN (u∈as)).imp_right λn=>fC.2 ⟨h,(hc u).mpr n⟩⟩
theorem yu{p:Prop}[Decidable p]:(!decide p)=true↔¬p:=⟨λz=>RP (jU z),λn=>au not (cQ n)⟩
theorem Ts(e:as[k]?=some u):(as++bs).take (k+1)=as.take k++[u]:=(List.take_append_of_le_length (cm.1 e).1).trans (List.take_add_one.trans (au (λo:Option α=>as.take k++o.toList) e))
theorem cZ.Sw(D:cZ W)(r:Rl W.Γ W.N z w):w∈W.tr:=r.casesOn λ_ r=>r.2.2.elim λp q=>(D.mem w).mpr (.mk (D.M.gr.a7.mpr (D.nm r.2.1)) r.1 q.1 q.2)
theorem four(D:cZ W)(h:rM W.Γ z y):y∈[ta,tb,tc,cH]:=h.casesOn λ_ h=>h.elim (λh=>h.2.elim λp w=>(by decide+kernel:∀y∈jb,y∈eQ->y∈[ta,tb,tc,cH]) y (D.eT▸h.1) (D.iJ.sym (D.eS▸vE w.2))) λh=>h.1▸.tail _ (.tail _ (.tail _ (.head _)))
theorem Xz(e:W.Γ.Cs[z.1]?=some I):rM W.Γ z y↔rL W.Γ I z y:=⟨λh=>h.casesOn λe' d=>bc (e'.symm.trans e)▸d,.mk e⟩
theorem k8.dA(m:t∈W.tr):k8 W t 0 [t] []:=⟨qz _ _,λz hz=>(a6.1 hz).symm▸⟨.refl t,m⟩,.head _,λ_ z=>absurd z a0,.nil,λy=>⟨λz=>absurd z a0,λz=>z.elim λ_ w=>absurd w.1 a0⟩,bH _⟩
theorem k8.step(D:cZ W)(C:k8 W t k xs ys)(ez:xs[k]?=some z){cy:Sy->Bool}{cv:Tr->Bool}(hy:∀x,cy x=true↔x∉ys)(hv:∀x,cv x=true↔x∉xs)
 (un:us.Nodup)(um:∀y,y∈us↔rM W.Γ z y)(vn:vs.Nodup)(vm:∀w,w∈vs↔Rl W.Γ W.N z w):k8 W t (k+1) (xs++vs.filter cv) (ys++us.filter cy):=by
 have hz:=C.sub z (cP ez)
 refine⟨Eh hv C.nd vn,λw hw=>((w9 hv).mp hw).elim (C.sub w) λm=>⟨hz.1.tail ((vm w).mp m),D.Sw ((vm w).mp m)⟩,(w9 hv).mpr (.inl C.st),λz' m w r=>?_,Eh hy C.yn un,λy=>?_,aw (cm.1 ez).1 (cw▸jh _ _)⟩
 ·rw [Ts ez] at m
  exact(w9 hv).mpr ((bO.1 m).imp (λm=>C.cl z' m w r) λm=>(vm w).mpr ((a6.1 m:z'=z)▸r))
 ·rw [Ts ez]
  exact(w9 hy).trans ((Bm (C.ym y) (um y)).trans ⟨λh=>h.elim (λz=>z.imp λz w=>⟨eM _ w.1,w.2⟩) λd=>⟨z,cD _ (.head _),d⟩,λh=>h.elim λz' w=>(bO.1 w.1).elim (λm=>.inl ⟨z',m,w.2⟩) λm=>.inr ((a6.1 m:z'=z)▸w.2)⟩)
theorem k8.all(C:k8 W t xs.length xs ys)(r:RT W.Γ W.N t z):z∈xs:=by
 have key:∀{a b},RT W.Γ W.N a b->a∈xs->b∈xs:=λr=>by
  induction r with
  |refl=>exact id
  |head e _ ih=>exact λh=>ih (C.cl _ (List.take_length.symm▸h) _ e)
 exact key r C.st
theorem k8.read(C:k8 W t xs.length xs ys):y∈ys↔oi W.Γ W.N t y:=(C.ym y).trans (List.take_length.symm▸⟨λh=>h.elim λz w=>w.2.casesOn λe d=>.mk (C.sub z w.1).1 e d,λh=>h.casesOn λ{z I} r e d=>⟨z,C.all r,.mk e d⟩⟩)
theorem k8.len(D:cZ W)(C:k8 W t k xs ys):xs.length<=450000:=Ic D.len D.M.gr C.nd λz hz=>(D.mem z).mp (C.sub z hz).2
theorem O7(D:cZ W)(n:us.Nodup)(m:∀y∈us,∃z,rM W.Γ z y):us.length<=4:=gP (U:=[ta,tb,tc,cH]) n λy hy=>(m y hy).elim λz d=>four D d
theorem aaY{P':Pt}(D:cZ W)(R:RW W av)(hb:av (.ay b)=none)(ha:av (.ay a)=none)(vg:L.ay a≠L.ay b)(C:k8 W t k xs ys)(ex:h (.ay a)=some (.lst (xs.map cF)))(ey:h (.ay b)=some (.lst (ys.map sv)))(F:Ext av h)(ez:xs[k]?=some z)(tt:Turn 36 P P' (DJ W av t a b (k+1))):Wk 36 ((19,cF z)::HJ W t a b) Ql h P':=by
 have mz:=(C.sub z (cP ez)).2
 have R1:=R.cO F rfl
 refine(R1.at_ z mz).casesOn λ{I us vs} eI un um eu vn vm ev=>R.d.elim λi1 e1=>R.r.elim λi2 e2=>?_
 have TM:∀y,y∈us↔rM W.Γ z y:=λy=>(um y).trans (Xz eI).symm
 have ul:=O7 D un λy m=>⟨z,(TM y).mp m⟩
 have yl:=O7 D C.yn λy m=>((C.ym y).mp m).imp λz w=>w.2
 have vl:=Ic D.len D.M.gr vn λw m=>(D.mem w).mp (D.Sw ((vm w).mp m))
 refine io (fS (xk rfl) (xk rfl) λQ k'=>FC (Q:=λb=>Q (.bool (!b)) h) ((F.at_ _ _ rfl).trans e1) vr ((qV yS mz).symm▸k')) (a8 (B8 (l:=.ay b) [(2,.ref (.ay b))] (xk rfl) ey (uf (l:=pX) (w:=cF z) (xk rfl) (xk rfl) ((F.at_ _ _ rfl).trans e1) vr (qV yS mz)) eu (aw (fw yl ul) (by decide)) (λn acc x hn _=>oy (xk rfl) (xk rfl) (dT ey hn) rfl) (λn o hn=>bi ?_) rfl rfl λ_=>rfl))
 have F1:Ext av ((h.upd (.ay n) o).upd (.ay b) (.lst ((ys++us.filter λy=>!decide (y∈ys)).map sv))):=(F.new hn).ay hb
 have x1:=(aW (dT ex hn) vg:((h.upd (.ay n) o).upd (.ay b) (.lst ((ys++us.filter λy=>!decide (y∈ys)).map sv))) (.ay a)=_)
 have y1:=(H.aJ:((h.upd (.ay n) o).upd (.ay b) (.lst ((ys++us.filter λy=>!decide (y∈ys)).map sv))) (.ay b)=_)
 have v1:((h.upd (.ay n) o).upd (.ay b) (.lst ((ys++us.filter λy=>!decide (y∈ys)).map sv))) (bU 62 z)=_:=aW (aW ev dZ) dZ
 generalize ((h.upd (.ay n) o).upd (.ay b) (.lst ((ys++us.filter λy=>!decide (y∈ys)).map sv)))=h1 at F1 x1 y1 v1⊢
 exact B8 (l:=.ay a) [(2,.ref (.ay a))] (xk rfl) x1 (uf (l:=qc) (w:=cF z) (xk rfl) (xk rfl) ((F1.at_ _ _ rfl).trans e2) vr (qV yS mz)) v1 (aw (fw (C.len D) vl) (by decide)) (λn acc x hn _=>Mp (xk rfl) (xk rfl) (dT x1 hn) rfl) (λn o hn=>tt.nx (.mk (C.step D ez (λ_=>yu) (λ_=>yu) un TM vn vm) H.aJ (aW (dT y1 hn) vg.symm) ((F1.new hn).ay ha)) rfl) rfl rfl λ_=>rfl
theorem aaK(D:cZ W)(R:RW W av)(m:t∈W.tr)(q:∀(b:Nat) (ys:ai) (h':H),ys.Nodup->(∀y,y∈ys↔oi W.Γ W.N t y)->h' (.ay b)=some (.lst (ys.map sv))->av (.ay b)=none->Ext av h'->Wk 36 ((18,.ref (.ay b))::(16,.int (t.1:Nat))::(14,sv t.2)::jr W) Gy h' P):
 Wk 36 ((14,sv t.2)::(16,.int (t.1:Nat))::jr W) Qc av P:=v4 (vs:=[cF t]) (iS (j4 (eE (xk rfl) (xk rfl)))) (eH rfl) λa ha=>v4 e7 (bH _) λb Fg=>by
 have vg:L.ay a≠L.ay b:=old_ne H.aJ Fg
 have hb:av (.ay b)=none:=(H.bp vg.symm).symm.trans Fg
 refine a8 (Im (I:=DJ W av t a b) (bJ:=HJ W t a b) 450000 (xk rfl) (λi ks h' J=>J.casesOn λC e _ _=>⟨_,e,aw C.le (aL (bx _).symm),eP (C.len D)⟩) (.mk (.dA m) (aW H.aJ vg) H.aJ ((aC.refl.new ha).new Fg)) (λk vs v ks h' ev eu J P' tt=>J.casesOn (λ{xs ys h'} C ex ey F ev tt=>?_) ev tt) (λk vs ks h' ev ek J=>J.casesOn (λ{xs ys h'} C ex ey F ev=>?_) ev) rfl rfl)
 ·cases O.lst.inj (bc (ex.symm.trans ev))
  exact(zV.1 (eL.symm.trans eu)).elim λz w=>w.2▸aaY D R hb ha vg C ex ey F w.1 tt
 ·cases O.lst.inj (bc (ex.symm.trans ev))
  rw [List.length_map] at ek
  cases ek
  exact bf (bi ((q b ys h' C.yn (λy=>C.read) ey hb F).sub rfl))
end
noncomputable def mn(W:Lw)(t:Tr)(b c:Nat):Ks:=(20,.ref (.ay c))::(18,.ref (.ay b))::(16,.int (t.1:Nat))::(14,sv t.2)::jr W
noncomputable def r8(F:ah)(y:Sy)(b:ai):Prop:=y≠bV/\fN F y b
inductive JC(W:Lw)(az:H)(t:Tr)(b c:Nat)(p:It)(ds a:ai):Ks->H->Prop
 |mk{mf r:ai}{h:H}:W.Γ.rest p=a++r->(∀y,y∈mf\/r8 W.F y r↔y∈ds\/r8 W.F y (W.Γ.rest p))->mf.length<=ds.length+a.length*5->h (.ay c)=some (.lst (mf.map sv))->Ext az h->JC W az t b c p ds a ((21,a4 p)::mn W t b c) h
section
variable{W:Lw}{t:Tr}{a r:ai}{b:Nat}{R:List aH}
theorem aij(e:bV∈F x):r8 F y (x::r)↔(y≠bV/\y∈F x)\/r8 F y r:=⟨λh=>h.2.imp id λw=>⟨h.1,w.2⟩,λh=>h.elim (λw=>⟨w.1,.inl w⟩) λw=>⟨w.1,.inr ⟨e,w.2⟩⟩⟩
theorem aii(n:bV∉F x):r8 F y (x::r)↔y≠bV/\y∈F x:=⟨λh=>h.2.elim id λw=>absurd w.1 n,λw=>⟨w.1,.inl w⟩⟩
theorem Tv:y∈ds++(F x).filter (λy=>!decide (y=bV))↔y∈ds\/(y≠bV/\y∈F x):=bO.trans (fH (fC.trans (and_comm.trans (Mf λ_=>yu))))
theorem cZ.NQ(D:cZ W)(h:x∈W.Γ.T\/x∈bL W.Γ.R):(W.F x).length<=5:=h.elim (λh=>D.M.fh.good.term x (.inl h)▸eH rfl) λh=>aw (gP (D.M.fh.good.nt x h).1 (U:=bV::W.Γ.T) λy hy=>((D.M.fh.good.nt x h).2 y hy).u) (D.eT▸by decide)
theorem cZ.pZ(D:cZ W)(h:x∈W.Γ.T\/x∈bL W.Γ.R):x∈ju W.Γ.T W.Γ.R:=h.elim (λh=>eM _ (eM _ h)) λh=>cD _ (D.M.gr.a7.mpr h)
theorem Xx{b:ai}(h:j<=b.length):((jt b j).map sv).drop (j+1)=(b.drop j).map sv:=Dp.symm.trans (au (List.map sv) (List.drop_append.trans (by
 rw [List.length_take_of_le h,List.drop_eq_nil_of_le (Nat.le_trans (List.length_take_le _ _) (Nat.le_succ _)),Nat.add_sub_cancel_left];rfl)))
theorem LB.ajD(L:LB T R S h)(q:Ek ks m h (a4 p))(r:Ek ks m' h (a4 p))(o:d4 S R p):Ek ks (nH (aE m "prod") (cR .Add (aE m' "lr_index") (aM 1))) h (.tup (((gc S R p.1).drop p.2).map sv)):=λg K Q w=>by
 have i:=rD (z:=((p.2+1:Nat):Int)) (L.ue r o) (bF (x:=1)) rfl
 cases o with
 | @mk i' j x b e hj=>
  have dl:((jt b j).map sv).length=b.length+1:=(bx _).trans (xu hj)
  rw [l6 e] at w
  exact L.UC q e hj g K _ (i g K _ (.tup (jK.2 (iA _)) (dl▸jK.2 (cS hj)) (dl▸aw (cS (l6 e▸Aj (i:=i') L)) (by decide)) ((Xx hj).symm▸w)))
theorem aaZ(D:cZ W)(A:gG W az)(hc:az (.ay c)=none)(e:h (.ay c)=some (.lst (ds.map sv)))(F:Ext az h)(hx:x∈W.Γ.T\/x∈bL W.Γ.R)(dl:ds.length<=900000)
 (q:∀h',h' (.ay c)=some (.lst ((ds++(W.F x).filter λy=>!decide (y=bV)).map sv))->Ext az h'->(x∈W.N->Wf 36 ((21,a4 p)::mn W t b c) h' P)/\(x∉W.N->Wb 36 ((21,a4 p)::mn W t b c) h' P)):Wk 36 ((22,sv x)::(21,a4 p)::mn W t b c) Qm h P:=by
 have A1:=A.cO F rfl
 refine A1.fh.d.elim λi ei=>a8 (B8 (l:=.ay c) (f:=sv) (bs:=W.F x) (c:=λy=>!decide (y=bV)) [] (xk rfl) e (lJ (f:=λx=>.ref (ls 14 x)) (xk rfl) (xk rfl) ei (D.pZ hx)) (A1.fh.get (D.pZ hx)) (aw (fw dl (D.NQ hx)) (by decide)) (λn acc y hn _=>Ep (x:=y) (y:=bV) (xk rfl) df rfl) (λn o hn=>bi ?_) rfl rfl λ_=>rfl)
 have F2:=(F.new (o:=o) hn).ay (o:=.lst ((ds++(W.F x).filter λy=>!decide (y=bV)).map sv)) hc
 have z:=q _ H.aJ F2
 have es:=(A.cO F2 rfl).es
 exact(aN (x∈W.N)).elim (λn=>dy (Es es (xk rfl) (xk rfl) (au not (cE n))) (bf ((z.1 n).sub rfl))) λn=>cX (Es es (xk rfl) (xk rfl) (au not (cQ n))) (t5 λg K=>z.2 n g (K.sub rfl))
theorem agm(D:cZ W):∀s∈W.Γ.rest p,s∈W.Γ.T\/s∈bL W.Γ.R:=λs hs=>D.M.body (zL hs)
theorem agl(D:cZ W):(W.Γ.rest p).length<=5:=aw (rW▸wF _ _) ((Ai (Γ:=W.Γ) (i:=p.1)).casesOn (λ_ e=>e▸eH rfl) (λe=>e▸bH _) λm e _ _=>e▸aw (yc m) D.iJ.A.cJ)
theorem aa4(D:cZ W)(A:gG W az)(hc:az (.ay c)=none)(e:h (.ay c)=some (.lst (ds.map sv)))(F:Ext az h)(o:W.Γ.ok p)(dl:ds.length<=800000)
 (q:∀(mf:ai) h',(∀y,y∈mf↔y∈ds\/r8 W.F y (W.Γ.rest p))->mf.length<=ds.length+25->h' (.ay c)=some (.lst (mf.map sv))->Ext az h'->Wf 36 (mn W t b c) h' P):Wk 36 ((21,a4 p)::mn W t b c) QQ h P:=by
 have rl:=agl (p:=p) D
 have up:∀{a:ai},a.length<=5->ds.length+a.length*5<=ds.length+25:=λl=>eV (jN 5 l) _
 refine B9 (xs:=W.Γ.rest p) (f:=sv) (Inv:=JC W az t b c p ds) ((A.cO F rfl).O.M.I.A.L.ajD (xk rfl) (xk rfl) o) (.mk (r:=W.Γ.rest p) rfl (λ_=>.rfl) (cB _) e F) (λa x r ks h' ea J P' tt=>J.casesOn (λ{mf r' h'} er mm ln ed F' tt=>?_) tt) λks h' J=>J.casesOn λ{mf r' h'} er mm ln ed F'=>bf ((q mf h' (λy=>?_) (aw ln (up rl)) ed F').sub rfl)
 ·cases Kt (er.symm.trans ea)
  have hx:=agm D x (ea▸cD _ (.head _))
  have la:=aw (mid ea).2 rl
  have fl:=aw (rX (λy=>!decide (y=bV)) (W.F x)) (D.NQ hx)
  have l2:(mf++(W.F x).filter λy=>!decide (y=bV)).length<=ds.length+(a.length+1)*5:=cw▸qC _ _▸wx _ _ _▸fw ln fl
  refine aaZ D A hc ed F' hx (aw ln (aw (up (qA la)) (aw (uB dl 25) (by decide)))) λh2 e2 F2=>⟨λn=>tt.nx (.mk (r:=r) (ea.trans (kY a [x] r).symm) (λy=>.trans ?_ (mm y)) (aw l2 (aL (au (λk=>ds.length+k*5) (cw (as:=a) (bs:=[x])).symm))) e2 F2) rfl,λn=>tt.brk ((q _ h2 (λy=>.trans ?_ (mm y)) (aw l2 (up (a:=x::a) la)) e2 F2).sub rfl)⟩
  ·exact(qZ Tv).trans (tD.trans (fH (aij ((D.M.qO hx).mpr n)).symm))
  ·exact Tv.trans (fH (aii λz=>n ((D.M.qO hx).mp z)).symm)
 ·cases Kt (er.symm.trans (gy _).symm)
  exact(yy λz=>z.1 z.2).symm.trans (mm y)
end
noncomputable abbrev zg(W:Lw)(n:Nat)(ks:Ks)(Bh:ah)(x:Sy)(us:ai)(h:H)(P:Pt):Prop:=∀j5 h',(∀z,(j5 z).Nodup)->(∀z y,y∈j5 z↔y∈Bh z\/(z=x/\y∈us))->Tab 63 64 W.ns j5 h'->aC [64] h h'->Wf n ks h' P
section
variable{W:Lw}{t:Tr}{zs us:ai}{b:Nat}{l l':L}
theorem alike(e:h l=some (.lst (zs.map sv)))(e':h l'=some (.lst (zs.map sv))):Alike h (.ref l) (.ref l'):=.mk (da:=.list (iG zs)) (db:=.list (iG zs)) (.lst (.inl e) An) (.lst (.inl e') An) EJ EJ (aw (wA _ _) (aw (cS EH) (by decide))) (EI.mpr rfl)
theorem TT(T:Tab 63 64 W.ns Bh h)(mx:x∈W.ns)(bn:∀z,(Bh z).Nodup)(un:us.Nodup)(bl:(Bh x).length<=100)(ul:us.length<=100)(l1:bj ks 15=some (.ref Ag))(l2:bj ks i=some (sv x))(pm:Ek ks m h (.ref l'))(e':h l'=some (.lst (us.map sv)))(q:zg W n ks Bh x us h P):Wk n ks (sK (a3 (an 15) (an i)) (yp m [some 15,some i] (a3 (an 2) (an 3)))) h P:=T.d.elim λj ej=>
 B8 (l:=ls 64 x) (f:=sv) (bs:=us) (c:=λy=>!decide (y∈Bh x)) [(3,sv x),(2,.ref Ag)] (lJ (f:=λx=>.ref (ls 64 x)) (xk l1) (xk l2) ej mx) (T.get mx) pm e' (aw (fw bl ul) (by decide)) (λk acc y hn _=>oy (xk rfl) (lJ (f:=λx=>.ref (ls 64 x)) (xk rfl) (xk rfl) (aW ej dZ) mx) (aW (T.get mx) dZ) rfl)
  (λk o hn=>q (λz=>if z=x then Bh x++us.filter λy=>!decide (y∈Bh x) else Bh z) _ (λz=>(aN (z=x)).elim (λe=>bz e▸Eh (λ_=>yu) (bn _) un) λe=>bD e▸bn z) (λz y=>(aN (z=x)).elim (λe=>(bz e▸e▸(w9 λ_=>yu).trans (fH (and_iff_right rfl).symm))) λe=>bD e▸(yy λw=>e w.1).symm) (Dl.turn (T.same bC.ay) mx rfl (au (List.map sv) (bz rfl)) λz e=>au (List.map sv) (bD e)) ((aC.refl.new hn).upd rfl)) (by show [bj ks i,bj ks 15]=_;rw [l1,l2];rfl) rfl λ_=>rfl
theorem Wp(eb:h (.ay b)=some (.lst (ys.map sv)))(ec:h (.ay c)=some (.lst (ds.map sv)))(yn:ys.Nodup)(yl:∀y∈ys,y∈[ta,tb,tc,cH])(yd:∀y,y∈ys↔y∈ds)(l1:bj ks 18=some (.ref (.ay b)))(l2:bj ks 20=some (.ref (.ay c))):Bx ks (aT .NotEq (rg (an 18)) (rg (xf (an 20)))) h λr h'=>r=false/\Ext h h':=λg K Q q=>by
 have SS:∀{l:ai},l.Nodup->(∀y∈l,y∈[ta,tb,tc,cH])->l.length<64:=λn w=>b7 (gP n w) (by decide)
 refine xk l1 g K _ (HX (.inl eb) yn (SS yn yl) λz1 s1=>gA λn1 Ox=>xk l2 g K _ (.inr (.mk rfl (dT ec Ox) (.txt ([ta,tb,tc,cH].map sv) (cB 4) (λv hv=>(bg.1 hv).elim λy z=>z.2▸bg.2 ⟨y,yl y ((yd y).mpr z.1),rfl⟩) λv hv=>(bg.1 hv).elim λy z=>⟨y.1,z.2.symm,y.2⟩) λws nd mw=>gA λn2 xX=>?_)))
 refine(GR (f:=sv) λw hw=>(bg.1 ((mw w).mp hw)).imp λy z=>z.2).elim λz2 e2=>?_
 subst e2
 have m2:∀y,y∈z2↔y∈ys:=λy=>(tq.symm.trans ((mw _).trans tq)).trans (yd y).symm
 refine HX (.inr H.aJ) (Bc nd) (SS (Bc nd) λy hy=>yl y ((m2 y).mp hy)) λz3 s3=>gA λn3 Oy=>?_
 cases s1.one s3 λy=>(m2 y).symm
 exact(alike (dT (dT H.aJ xX) Oy) H.aJ).casesOn λr1 r2 c1 c2 hd eq=>.dat r1 r2 c1 c2 hd (eq.symm▸⟨false,rfl,q _ _ ⟨rfl,((aC.refl.new Ox).new xX).new Oy⟩⟩)
theorem aa0(D:cZ W)(m:t∈W.tr)(T:Tab 63 64 W.ns Bh h)(eb:h (.ay b)=some (.lst (ys.map sv)))(ec:h (.ay c)=some (.lst (ds.map sv)))(yn:ys.Nodup)(ym:∀y,y∈ys↔oi W.Γ W.N t y)(dm:∀y,y∈ds↔iq W.Γ W.F t y)(bn:∀z,(Bh z).Nodup)(bl:∀z,(Bh z).length<=100)(q:zg W 36 (jr W) Bh t.2 ys h P):Wk 36 (mn W t b c) Qn h P:=(D.yT m).elim λI z=>by
 have f4:∀y∈ys,y∈[ta,tb,tc,cH]:=λy hy=>((ym y).mp hy).casesOn λ_ e d=>four D (.mk e d)
 exact a8 (Ip (Wp (ks:=mn W t b c) eb ec yn f4 (λy=>(ym y).trans ((D.M.HK z.1).trans (dm y).symm)) rfl rfl) (λh2 u=>absurd u.1 Bool.noConfusion) λh2 u=>bf (bi (TT (T.same (u.2.same rfl)) ((D.iJ.names _).mpr (D.M.gr.a7.mp z.2.2.2)) bn yn (bl _) (aw (gP yn f4) (by decide)) rfl rfl (xk rfl) (u.2.old eb) λj5 h3 a b c d=>(q j5 h3 a b c (.trans (.of u.2) d)).sub rfl)))
end
noncomputable abbrev pY(t:Tr):ai:=if t.1=0/\t.2=nS then [cH] else []
noncomputable abbrev JD(W:Lw)(y:Sy)(p:It):Prop:=0<p.2/\r8 W.F y (W.Γ.rest p)
inductive JA(W:Lw)(az:H)(t:Tr)(b c:Nat)(a:ak):Ks->H->Prop
 |mk{ds:ai}{h:H}:(∀y,y∈ds↔(y=cH/\t=(0,W.Γ.S))\/∃p∈a,JD W y p)->ds.length<=1+a.length*25->h (.ay c)=some (.lst (ds.map sv))->Ext az h->JA W az t b c a (mn W t b c) h
inductive J5(W:Lw)(az:H)(a:List Tr):Ks->H->Prop
 |mk{Bh:ah}{h:H}:RW W h->Tab 63 64 W.ns Bh h->(∀z,(Bh z).Nodup)->(∀x y,y∈Bh x↔∃t∈a,x=t.2/\iq W.Γ W.F t y)->aC [64] az h->J5 W az a (jr W) h
section
variable{W:Lw}{t:Tr}{zs us:ai}{b jx:Nat}{l l':L}{α:Type}{xs a:List α}{u:α}{p:α->Prop}{f f':α->V}{Inv:List α->Ks->H->Prop}{s':SW}
theorem xC:(∃x∈a++[u],p x)↔(∃x∈a,p x)\/p u:=⟨λz=>z.elim λx w=>(bO.1 w.1).elim (λm=>.inl ⟨x,m,w.2⟩) λm=>.inr (a6.1 m▸w.2),λz=>z.elim (λz=>z.imp λx w=>⟨eM _ w.1,w.2⟩) λw=>⟨u,cD _ (.head _),w⟩⟩
theorem Ar:¬∃x∈([]:List α),p x:=λz=>z.elim λ_ w=>absurd w.1 a0
theorem aiR(p:Ek ks m h (.ref l))(e:h l=some (.aF es j))(hk:es.map (·.1)=xs.map λx=>.tup [f x,f' x])(hl:∀a ks h,Inv a ks h->h l=some (.aF es j))(h0:Inv [] bJ h)(step:∀a x r ks h,xs=a++x::r->Inv a ks h->∀P',Turn n P P' (Inv (a++[x]))->Wk n ((jx,f' x)::(ix,f x)::ks) s h P')
 (done:∀ks h,Inv xs ks h->Wk n ks s' h P)(e0:Sub ks bJ)(hi:Nat.blt ix n=true)(hj:Nat.blt jx n=true):Wk n ks (bX (bB m) true (iN 2 (dE (a5 ix) (dE (a5 jx) ib))) s s') h P:=λg K=>
 have nx:∀{a ks h},Inv a ks h->∀i,(Src.keys l j es.length).next h i=some (xs.map λx=>V.tup [f x,f' x])[i]?:=λI i=>(HY (hl _ _ _ I)).trans (au some (eL.symm.trans (au (·[i]?) hk)))
 p g K.at_ _ (.aF e ⟨gh,qj (λ_ x ks=>(jx,f' x)::(ix,f x)::ks) (λ_ x=>.tup [f x,f' x]) h0 (λa x r ks h I e=>(nx I _).trans (au some (nU e))) (λks h I=>(nx I _).trans (au some nR)) (λ_ _ K q=>⟨rfl,rfl,q _ ((K.set hi).set hj)⟩) step done (K.sub e0)⟩)
theorem ajJ(D:cZ W)(A:gG W h)(eI:W.Γ.Cs[t.1]?=some I)(ht:t.2∈a7 W.Γ.T W.Γ.R)(ne:bQ W.Γ.S W.Γ.R I t.2≠[])(l7:bj ks 7=some (.ref bN))(l8:bj ks 8=some (bA W.l))(l16:bj ks 16=some (.int (t.1:Nat)))(l14:bj ks 14=some (sv t.2)):
 ∃n:Nat,(∀h',uA W.Γ (.ay W.l) W.vs h'->h' (.ay n)=some (.lst ((bQ W.Γ.S W.Γ.R I t.2).map a4)))/\Ek ks (a3 (an 8) (a3 (a3 (aE (an 7) "lr_goto") (an 16)) (an 14))) h (bA n):=A.O.d3.elim λi e3=>(A.O.row t.1 I eI).casesOn λ{_ xs _ fg _ j} _ _ G eg=>
 have mx:=G.all t.2 ht ne
 have eC:=(G.at_ t.2 mx).1
 have en:=fu (A.ls.st.len▸(cm.1 eC).1:fg t.2<W.vs.length)
 ⟨_,λh' L=>L.st.at_ _ _ _ en eC,o9 (j:=fg t.2) (xk l8) (lJ (f:=λy=>V.int (fg y:Nat)) (uf (l:=lb 32) (w:=.int (t.1:Nat)) (A.O.M.I.A.tb.qp (xk l7) λc=>by kernel_rfl) (xk l16) e3 .int (RI (cm.1 eI).1)) (xk l14) eg mx) A.ls.lst (eL.trans (au (Option.map bA) en)) (D.cs eC)⟩
end
section
variable{W:Lw}{t:Tr}{zs us:ai}{b:Nat}{l l':L}{cb:BW}
theorem ajl(p:Eb ks cb h bb)(q:bb=true->Ex ks m h Φ)(q':bb=false->Ex ks m' h Φ):Ex ks (xw cb m m') h Φ:=λg K Q z=>p g K _ (by
 cases bb with
 |true=>exact q rfl g K Q z
 |false=>exact q' rfl g K Q z)
theorem Ci(p:gC ks ms h vs)(hl:vs.length<=1000000):Ex ks (cx ms) h (fO h vs):=λg K Q q=>p g K _ ⟨hl,gA λn hn=>q _ _ (.mk hn)⟩
theorem aej:y∈pY t↔y=cH/\t=(0,nS):=by
 unfold pY
 split
 ·rename_i z;exact a6.trans (and_iff_left (ni z.1 z.2)).symm
 ·rename_i z;exact⟨λw=>absurd w a0,λw=>absurd ⟨au (·.1) w.2,au (·.2) w.2⟩ z⟩
theorem XI:(pY t).length<=1:=by
 unfold pY
 split
 ·exact cB 1
 ·exact bH _
theorem M'(D:cZ W)(m:t∈W.tr)(d:iq W.Γ W.F t y):y∈[ta,tb,tc,cH]:=(D.yT m).elim λI z=>((D.M.HK z.1).mpr d).casesOn λ_ e d=>four D (.mk e d)
theorem XK(eI:W.Γ.Cs[t.1]?=some I):((y=cH/\t=(0,W.Γ.S))\/∃p∈bQ W.Γ.S W.Γ.R I t.2,JD W y p)↔iq W.Γ W.F t y:=⟨λh=>h.elim (λz=>.e z.1 z.2) λz=>z.elim λp w=>.i eI w.1 w.2.1 w.2.2.1 w.2.2.2,λh=>h.casesOn (λa b=>.inl ⟨a,b⟩) λ{J p} e m a b c=>.inr ⟨p,bc (e.symm.trans eI)▸m,a,b,c⟩⟩
theorem aa1(D:cZ W)(A:gG W h)(m:t∈W.tr)(hc:h (.ay c)=none)(T:Tab 63 64 W.ns Bh h)(eb:h (.ay b)=some (.lst (ys.map sv)))(yn:ys.Nodup)(ym:∀y,y∈ys↔oi W.Γ W.N t y)(bn:∀z,(Bh z).Nodup)(bl:∀z,(Bh z).length<=100)(q:zg W 36 (jr W) Bh t.2 ys h P):Wk 36 (mn W t b c) Qo (h.upd (.ay c) (.lst ((pY t).map sv))) P:=(D.yT m).elim λI z=>by
 have F1:Ext h (h.upd (.ay c) (.lst ((pY t).map sv))):=aC.refl.new hc
 have Jl:(bQ W.Γ.S W.Γ.R I t.2).length<=1000:=D.un.len _ (D.un.step I (A.O.M.I.sub I (cP z.1)) t.2)
 have mJ:=D.M.ff I (cP z.1) t.2 z.2.1
 refine(ajJ (ks:=mn W t b c) D (A.cO F1 rfl) z.1 z.2.2.2 z.2.1 rfl rfl rfl rfl).elim λn en=>a8 (fB (xs:=bQ W.Γ.S W.Γ.R I t.2) (f:=a4) (Inv:=JA W h t b c) en.2 (λa ks h' J=>J.casesOn λ_ _ _ F=>F.old (en.1 _ A.ls)) (.mk (λy=>(D.eS▸aej).trans (yy Ar).symm) ?_ H.aJ F1) (λa p r ks h' ea J P' tt=>J.casesOn (λ{ds h2} dm dl ed F tt=>?_) tt) λks h' J=>J.casesOn λ{ds h2} dm dl ed F=>bf (bi ?_))
 ·exact aw XI (jh _ _)
 ·have o:W.Γ.ok p:=D.M.ok _ mJ p (ea▸cD _ (.head _))
  have ix:=(A.cO F rfl).O.M.I.A.L.ue (m:=an 21) (ks:=(21,a4 p)::mn W t b c) (xk rfl) o
  have up:∀{k},k<=(1+a.length*25)+25->k<=1+(a++[p]).length*25:=λl=>aw l (aL ((wx _ _ _).trans (au (1+·) ((qC _ _).symm.trans (au (·*25) (cw (as:=a) (bs:=[p])).symm)))))
  refine n6 (p:=0<p.2) (nE ix bF (Ao.2 Kc)) (λz=>aa4 D A hc ed F o ?_ λmf h3 Xv Xu e' F'=>tt.nx (.mk (λy=>(Xv y).trans ((qZ (dm y)).trans (tD.trans (fH (.trans (fH (and_iff_right z).symm) xC.symm))))) (up (aw Xu (uB dl _))) e' F') rfl) λz=>bf (tt.nx (.mk (λy=>(dm y).trans (fH (.trans (yy λw=>z w.1).symm xC.symm))) (up (aw dl (jh _ _))) ed F) rfl)
  exact aw dl (aw (eV (jN _ (aw (cN (mid ea).2) Jl)) 1) (by decide))
 ·exact aa0 D m (T.same (F.same rfl)) (F.old eb) ed yn ym (λy=>(dm y).trans (XK z.1)) bn bl λj5 h3 a b c d=>q j5 h3 a b c (.trans (.of F) d)
end
noncomputable abbrev U2(W:Lw)(h:H)(P:Pt):Prop:=∀Bh h',RW W h'->Tab 63 64 W.ns Bh h'->(∀z,(Bh z).Nodup)->(∀x y,y∈Bh x↔∃t∈W.tr,x=t.2/\iq W.Γ W.F t y)->aC [64] h h'->Wk 36 (jr W) Gw h' P
section
variable{W:Lw}{t:Tr}{zs us b8:ai}{b e:Nat}
theorem Tab.congr(T:Tab d e b8 F h)(o:∀x∈b8,F x=F' x):Tab d e b8 F' h:=⟨T.d,λx=>(T.l x).trans (ite_congr rfl (λm=>au (λl:ai=>some (O.lst (l.map sv))) (o x m)) λ_=>rfl)⟩
theorem aa2(D:cZ W)(A:gG W h)(m:t∈W.tr)(T:Tab 63 64 W.ns Bh h)(eb:h (.ay b)=some (.lst (ys.map sv)))(yn:ys.Nodup)(ym:∀y,y∈ys↔oi W.Γ W.N t y)(bn:∀z,(Bh z).Nodup)(bl:∀z,(Bh z).length<=100)(q:zg W 36 (jr W) Bh t.2 ys h P):Wk 36 ((18,.ref (.ay b))::(16,.int (t.1:Nat))::(14,sv t.2)::jr W) Gy h P:=
 dO (Φ:=fO h ((pY t).map sv)) (ajl (Ab (kD (xk rfl) bF rfl) (Ab (ow (x:=t.2) (y:=nS) (xk rfl) df rfl) kE)) (λz=>(show pY t=[cH] from bz ⟨jJ (eq_of_beq (bu z).1),cU (bu (bu z).2).1⟩).symm▸Ci (vs:=[sv cH]) (iS df) (eH rfl)) λz=>(show pY t=[] from bD λw=>j7.1 z (hM (i6.2 (au Int.ofNat w.1)) (hM (cE w.2) rfl))).symm▸Ci e7 (bH _)) λv h2 u=>by
  cases u with
  |mk hc=>exact(aa1 (b:=b) D A m hc T eb yn ym bn bl q).sub rfl
theorem aaP(D:cZ W)(R:RW W az)(T:Tab 63 64 W.ns Bh az)(bh:∀x∈W.ns,Bh x=[])(q:U2 W az P):Wk 36 (jr W) A7 az P:=R.d.elim λi ei=>by
 refine a8 (aiR (xs:=W.tr) (f:=λt=>.int (t.1:Nat)) (f':=λt=>sv t.2) (Inv:=J5 W az) (bJ:=jr W) (xk rfl) ei gj (λa ks h' J=>J.casesOn λ_ _ _ _ F=>(F.at_ _ _ rfl).trans ei) (.mk R (T.congr (F':=λ_=>[]) bh) (λ_=>.nil) (λx y=>⟨λz=>absurd z a0,λz=>absurd z Ar⟩) .refl) (λa t r ks h' ea J P' tt=>J.casesOn (λ{Bh h2} R' T' bn bm F' tt=>?_) tt) (λks h' J=>J.casesOn λ{Bh h2} R' T' bn bm F'=>bf (bi (q Bh h2 R' T' bn bm F'))) rfl rfl rfl)
 have m:t∈W.tr:=ea▸cD _ (.head _)
 have bl:∀x,(Bh x).length<=100:=λx=>aw (gP (bn x) λy hy=>((bm x y).mp hy).elim λt' w=>M' D (ea▸eM _ w.1) w.2.2) (by decide:[ta,tb,tc,cH].length<=100)
 exact aaK D R' m λb ys h3 yn ym eb hb F2=>aa2 D (R'.cO F2 rfl).A m (T'.same (F2.same rfl)) eb yn ym bn bl λj5 h4 a' b' c' d'=>tt.nx (.mk ((R'.cO F2 rfl).cO d' rfl) c' a' (λx y=>(b' x y).trans ((Bm (bm x y) (sA λ_=>(ym y).trans ((D.yT m).elim λI z=>D.M.HK z.1))).trans xC.symm)) ((F'.trans (.of F2)).trans d')) rfl
end
noncomputable abbrev En:=Sy×Sy
noncomputable abbrev u8(p:En):V:=.tup [sv p.1,sv p.2]
noncomputable abbrev uq(W:Lw)(r:aH)(p:En)(j:Nat):Prop:=p.2=r.1/\r.2[j]?=some p.1/\p.1∈W.ns/\∀s∈r.2.drop (j+1),s∈W.N
noncomputable abbrev JF(W:Lw)(p:En)(z:Ru):Prop:=∃j∈List.range z.1.2.length,uq W z.1 p j
noncomputable def mA(W:Lw)(c:Nat):Ks:=(23,.ref (.ay c))::jr W
inductive JE(W:Lw)(az:H)(c:Nat)(a:List Ru):Ks->H->Prop
 |mk{es:List En}{h:H}:(∀p,p∈es↔∃z∈a,JF W p z)->es.length<=cJ (bW a)->h (.ay c)=some (.lst (es.map u8))->Ext az h->JE W az c a (mA W c) h
inductive zt(W:Lw)(az:H)(c:Nat)(Nx:List En)(k:Nat)(z:Ru)(a:ai):Ks->H->Prop
 |mk{es:List En}{h:H}:(∀p,p∈es↔p∈Nx\/∃j∈List.range a.length,uq W z.1 p j)->es.length<=k+a.length->h (.ay c)=some (.lst (es.map u8))->Ext az h->zt W az c Nx k z a ((6,bA z.2.2)::(5,sv z.1.1)::mA W c) h
section
variable{W:Lw}{zs a:ai}{me:EW}{s':SW}{Φ:Bool->H->Prop}{cb MB:BW}{C:Sy->Bool}{js:List (Option Nat)}{es:List En}{z:Ru}{p:En}{E:ai}{l:L}
theorem WD(p:Eb ks cb h bb)(q:bb=true->Bx ks MB h Φ)(q':bb=false->Φ false h):Bx ks (du cb MB) h Φ:=λg K Q z=>p g K _ (by
 cases bb with
 |true=>exact q rfl g K Q z
 |false=>exact z _ _ (q' rfl))
theorem WE(p:Bx ks cb h Φ):Bx ks (du cb dI) h Φ:=λg K Q z=>p g K _ λb h' u=>by
 cases b with
 |true=>exact z _ _ u
 |false=>exact z _ _ u
theorem ajn(e:h l=some (.set (fJ E)))(p:Ek ks m h (sv y))(q:Ek ks m' h (.ref l)):Ek ks (u5 .In m m') h (.bool (decide (y∈E))):=λg K Q z=>p g K _ (q g K _ (.set e ((Ao.2 tu:decide (y.1∈fJ E)=_).symm▸z)))
theorem UH{α:Type}{F r:α->V}{xs:List α}(b8:Ks)(p:Ex ks m h (fO h (xs.map F)))(hl:xs.length<=1000000)(ee:∀h' x,Ext h h'->x∈xs->Ek ((1,F x)::b8) me h' (r x))
 (w:b8.map (λp=>(js[p.1]?).join.bind (bj ks))=b8.map λp=>some p.2)(hj:Nat.blt 1 js.length=true)(kj:∀x,Sub ((1,F x)::b8) b8):Ex ks (i7 (bB m) false js (a5 1) dI me) h (Nw h (xs.map r)):=λg K Q q=>p g K _ λv h1 u=>by
 cases u with
 | @mk n f0=>
  have F0:Ext h (h.upd (.ay n) (.lst (xs.map F))):=aC.refl.new f0
  refine(qn (b:=false) (mi:=bB λ_ h Q=>Q (.ref (.ay n)) h) (xs:=xs) (F:=F) (mc:=dI) (c:=λ_=>true) (r:=r) (x3 (λ_ _ _ q=>q) H.aJ) gh (λn acc i hn _=>lD (dT H.aJ hn)) hl (λ_ _ _ _ _=>kE) (λk acc x hn hx _=>ee _ x (F0.new hn) hx) w hj kj:Ex ks (i7 (bB λ_ h Q=>Q (.ref (.ay n)) h) false js (a5 1) dI me) (h.upd (.ay n) (.lst (xs.map F))) _) g K Q λv h2 u=>?_
  cases u with
  |mk f1=>exact q _ _ (.mk (w8.symm▸H.aJ) (F0.new f1))
theorem WC(b8:Ks)(p:Ex ks m h (fO h (xs.map sv)))(hl:xs.length<=1000000)(ee:∀h' x,Ext h h'->x∈xs->Ek ((1,sv x)::b8) me h' (.bool (C x)))
 (w:b8.map (λp=>(js[p.1]?).join.bind (bj ks))=b8.map λp=>some p.2)(hj:Nat.blt 1 js.length=true)(kj:∀x,Sub ((1,sv x)::b8) b8):Bx ks (bE (bv uO (aA (i7 (bB m) false js (a5 1) dI me) aD))) h λb h'=>b=xs.all C/\Ext h h':=λg K Q q=>UH b8 p hl ee w hj kj g K (λv az=>uO [v] az λv h'=>vW v h' λb=>Q b h') λv h2 u=>by
 cases u with
 |mk e F=>exact .mk (bs:=xs.map C) (e.trans (au (λl=>some (O.lst l)) gj.symm)) (.bool (q _ _ ⟨List.all_map,F⟩))
theorem aaN{P':Pt}(D:cZ W)(R:RW W az)(hc:az (.ay c)=none)(mz:z∈W.zs)(l5:k<=5)(eb:z.1.2=a++x::b)(J:zt W az c es k z a ks h)(tt:Turn 36 P P' (zt W az c es k z (a++[x]))):Wk 36 ((22,sv x)::(19,.int a.length)::ks) QR h P':=J.casesOn (λ{es h} em el ee F tt=>by
 have A:=(R.cO F rfl).A
 have mr:z.1∈W.Γ.R:=D.zs▸bg.2 ⟨z,mz,rfl⟩
 have bl:z.1.2.length<=5:=aw (yc mr) D.iJ.A.cJ
 have al:=aw (mid eb).2 bl
 have x6:x∈eQ:=.tail _ (D.iJ.A.bd _ mr x (eb▸cD _ (.head _)))
 have en:∀p,uq W z.1 p a.length↔p=(x,z.1.1)/\x∈W.ns/\∀s∈z.1.2.drop (a.length+1),s∈W.N:=λp=>⟨λw=>by
  obtain⟨p1,p2⟩:=p
  cases w.1
  cases bc ((mid eb).1.symm.trans w.2.1)
  exact⟨rfl,w.2.2⟩,λw=>w.1▸⟨rfl,(mid eb).1,w.2⟩⟩
 have up:∀{cG:List En},(∀p,p∈cG↔p∈es\/uq W z.1 p a.length)->∀p,p∈cG↔p∈_\/∃j∈List.range (a++[x]).length,uq W z.1 p j:=λw p=>(w p).trans ((qZ (em p)).trans (tD.trans (fH (xC.symm.trans (by rw [List.length_append,List.length_singleton,List.range_succ])))))
 have ln:k+a.length+1=k+(a++[x]).length:=(au (k+·) (cw (as:=a) (bs:=[x]))).symm
 refine Ip (Ψ:=λb h'=>b=(decide (x∈W.ns)&&(z.1.2.drop (a.length+1)).all λs=>decide (s∈W.N))/\Ext h h') (WD (Eo D.iJ.dF x6 (xk rfl) (xk rfl) rfl) (λw=>WE λg K Q q=>WC (C:=λs=>decide (s∈W.N)) [(2,bA W.el)] (xs:=z.1.2.drop (a.length+1)) (Dp.symm▸II (j:=a.length+1) (xk rfl) (rD (xk rfl) bF rfl) (A.ra z mz).b (eP (aw bl (by decide)))) (aw (rW▸wF _ _) (aw bl (by decide))) (λh' s F' _=>ajn (F'.old A.es) (xk rfl) (xk rfl)) rfl rfl (λ_=>rfl) g K Q λb h' u=>q b h' ⟨u.1.trans (w.symm▸(Bool.true_and _).symm),u.2⟩) λw=>⟨(au (λt:Bool=>t&&(z.1.2.drop (a.length+1)).all λs=>decide (s∈W.N)) w).symm,.refl⟩) (λh2 u=>?_) λh2 u=>?_
 ·have e:=bu u.1.symm
  have e':∀p,uq W z.1 p a.length↔p=(x,z.1.1):=λp=>(en p).trans (and_iff_left ⟨cU e.1,λs hs=>cU (d5.1 e.2 s hs)⟩)
  exact kQ (w:=u8 (x,z.1.1)) (xk rfl) (u.2.old ee) (b7 (eP (aw el (fw l5 (qA al)))) (by decide)) (j4 (eE (xk rfl) (xk rfl))) (tt.nx (.mk (es:=es++[(x,z.1.1)]) (up λp=>bO.trans (fH (a6.trans (e' p).symm))) (ln▸cw▸cS el) (H.aJ.trans (au (λl=>some (O.lst l)) (gF (f:=u8) (l₁:=es) (l₂:=[(x,z.1.1)])).symm)) ((F.trans u.2).ay hc)) rfl)
 ·exact bf (tt.nx (.mk (up λp=>(yy λw=>Bool.noConfusion (u.1.trans (hM (cE ((en p).mp w).2.1) (d5.2 λs hs=>cE (((en p).mp w).2.2 s hs))))).symm) (ln▸uC el) (u.2.old ee) (F.trans u.2)) rfl)) tt
end
noncomputable abbrev U6(W:Lw)(h:H)(P:Pt):Prop:=∀(c:Nat) (es:List En) h',(∀p,p∈es↔∃r j,Ends W.Γ.R W.N p.2 p.1 r j)->h' (.ay c)=some (.lst (es.map u8))->Ext h h'->Wk 36 (mA W c) Gv h' P
section
variable{W:Lw}{es:List En}{z:Ru}{p:En}{a zs:List Ru}
theorem XX(D:cZ W):(∃z∈W.zs,JF W p z)↔∃r j,Ends W.Γ.R W.N p.2 p.1 r j:=⟨λh=>h.elim λz w=>w.2.elim λj u=>⟨z.1,j,D.zs▸bg.2 ⟨z,w.1,rfl⟩,u.2.1.symm,u.2.2.1,(D.iJ.names _).mp u.2.2.2.1,u.2.2.2.2⟩,λh=>h.elim λr h=>h.elim λj E=>(bg.1 (D.zs▸E.m:r∈bW W.zs)).elim λz w=>⟨z,w.1,j,kZ.2 (w.2▸(cm.1 E.at_).1),w.2▸⟨E.hd.symm,E.at_,(D.iJ.names _).mpr E.hB,E.n⟩⟩⟩
theorem aiw{qs rs:List aH}:cJ qs<=cJ (qs++rs):=by unfold cJ;rw [List.map_append,List.sum_append];exact jh _ _
theorem ahi:cJ (bW (a++[z]))=cJ (bW a)+z.1.2.length:=(au cJ gF).trans TF
theorem aaO(D:cZ W)(R:RW W az)(q:U6 W az P):Wk 36 (jr W) Gw az P:=v4 e7 (bH _) λc hc=>a8 (Io (zs:=W.zs) (Inv:=JE W az c) (bJ:=mA W c) (xk rfl) (λa ks h' J=>J.casesOn λ_ _ _ F=>have A:=(R.cO F rfl).A;⟨A.ru,A.ra⟩) (.mk (es:=[]) (λp=>⟨λz=>absurd z a0,λz=>absurd z Ar⟩) (bH _) H.aJ (aC.refl.new hc)) (λa z r ks h' er J Rz P' tt=>J.casesOn (λ{es h'} em el ee F Rz tt=>by
 have mz:z∈W.zs:=er▸cD _ (.head _)
 have l5:cJ (bW a)<=5:=aw (aiw (rs:=bW (z::r))) (aw (aL (au cJ ((gF (f:=λz:Ru=>z.1)).symm.trans ((au bW er).symm.trans D.zs)))) D.iJ.A.cJ)
 exact Ik (xs:=z.1.2) (f:=sv) (Inv:=zt W az c es (cJ (bW a)) z) (bJ:=(6,bA z.2.2)::(5,sv z.1.1)::mA W c) (xk rfl) (λb ks h2 J=>J.casesOn λ_ _ _ F'=>((R.cO F' rfl).A.ra z mz).b) (.mk (λp=>(yy Ar).symm) el ee F) (λb x t ks h2 eb J pD tt=>aaN D R hc mz l5 eb J tt) λks h2 J=>J.casesOn λXT XS XP F'=>bf (tt.nx (.mk (λp=>(XT p).trans ((qZ (em p)).trans xC.symm)) (ahi▸XS) XP F') rfl)) Rz tt) λks h' J=>J.casesOn λem el ee F=>bf (bi ((q c _ _ (λp=>(em p).trans (XX D)) ee F).sub rfl)))
end
noncomputable def tF(J:Sy->Prop)(e:En):Sy->Prop:=λz=>J z\/(z=e.1/\J e.2)
noncomputable def jc(es:List En)(J:Sy->Prop)(n:Nat):Sy->Prop:=n.rec J λ_ J=>es.foldl tF J
inductive Co(W:Lw)(az:H)(c:Nat)(K:Sy->Sy->Prop):Ks->H->Prop
 |mk{Bh:ah}{h:H}:Tab 63 64 W.ns Bh h->(∀z,(Bh z).Nodup)->(∀z y,y∈Bh z↔K y z)->aC [64] az h->Co W az c K (mA W c) h
section
variable{es:List En}{J K:Sy->Prop}{e:En}{z:Sy}
theorem Bp(h:J z):es.foldl tF J z:=by
 induction es generalizing J with
 |nil=>exact h
 |cons e es ih=>exact ih (.inl h)
theorem afz(m:e∈es)(h:J e.2):es.foldl tF J e.1:=by
 induction es generalizing J with
 |nil=>exact absurd m a0
 |cons f es ih=>exact(dP.1 m).elim (λz=>Bp (es:=es) (z▸.inr ⟨rfl,h⟩)) λm=>ih m (.inl h)
theorem Hu(h:∀z,J z->K z)(w:∀e∈es,K e.2->K e.1):∀z,es.foldl tF J z->K z:=by
 induction es generalizing J with
 |nil=>exact h
 |cons e es ih=>exact ih (λz hz=>hz.elim (h z) λu=>u.1▸w e (.head _) (h _ u.2)) λe m=>w e (.tail _ m)
theorem Sx(h:∀z,J z->K z)(w:∀e∈es,K e.2->K e.1):∀z,jc es J n z->K z:=by
 induction n with
 |zero=>exact h
 |succ n ih=>exact Hu ih w
theorem ags(h:J z):jc es J n z:=by
 induction n with
 |zero=>exact h
 |succ n ih=>exact Bp ih
theorem agr(w:∀e∈es,e.1∈ns/\e.2∈ns):∀e∈es,jc es J ns.length e.2->jc es J ns.length e.1:=by
 have key:∀n,(∀e∈es,jc es J n e.2->jc es J n e.1)\/∃l:ai,l.Nodup/\(∀z∈l,z∈ns/\jc es J n z)/\n+1=l.length:=λn=>(aN (∀e∈es,jc es J n e.2->jc es J n e.1)).imp_right λc=>by
  induction n with
  |zero=>exact ip λno=>c λe m h=>absurd ⟨[e.2],qz _ _,λz hz=>a6.1 hz▸⟨(w e m).2,h⟩,rfl⟩ no
  |succ n ih=>
   have c':¬∀e∈es,jc es J n e.2->jc es J n e.1:=λc'=>c λe m u=>Bp (c' e m (Hu (λ_ h=>h) c' _ u))
   refine(ih c').elim λl z=>ip λno=>c' λe m h=>ip λne=>no ⟨e.1::l,gX.2 ⟨λz'=>ne (z.2.1 _ z').2,z.1⟩,bq.2 ⟨⟨(w e m).1,afz m h⟩,λz' m'=>⟨(z.2.1 z' m').1,Bp (z.2.1 z' m').2⟩⟩,au Nat.succ z.2.2⟩
 exact(key ns.length).resolve_right λh=>h.elim λl z=>absurd (gP z.1 λx hx=>(z.2.1 x hx).1) (Nat.not_le_of_lt (f5 (jM _) z.2.2))
end
section
variable{W:Lw}{es:List En}{e:En}{J:Sy->Sy->Prop}
theorem aaM(D:cZ W)(T:Tab 63 64 W.ns Bh az)(bn:∀z,(Bh z).Nodup)(bm:∀z y,y∈Bh z↔J y z)(XM:az (.ay c)=some (.lst (es.map u8)))(w:∀e∈es,e.1∈W.ns/\e.2∈W.ns)(f4:∀y z,J y z->y∈[ta,tb,tc,cH])(q:∀j5 h',Tab 63 64 W.ns j5 h'->(∀z,(j5 z).Nodup)->(∀z y,y∈j5 z↔jc es (J y) W.ns.length z)->(∀z,(j5 z).length<=4)->aC [64] az h'->Wk 36 (mA W c) Gu h' P):Wk 36 (mA W c) Gv az P:=by
 have k4:∀{a:List En} {n y z},a.foldl tF (jc es (J y) n) z->y∈[ta,tb,tc,cH]:=λ{a n y z}=>Hu (K:=λ_=>y∈[ta,tb,tc,cH]) (Sx (f4 y) λ_ _ h=>h) (λ_ _ h=>h) z
 have b4:∀{Bh:ah} {a:List En} {n},(∀z,(Bh z).Nodup)->(∀z y,y∈Bh z↔a.foldl tF (jc es (J y) n) z)->∀z,(Bh z).length<=4:=λn m z=>gP (U:=[ta,tb,tc,cH]) (n z) λy hy=>k4 ((m z y).mp hy)
 refine a8 (T5 (xs:=W.ns) (f:=sv) (Inv:=λa=>Co W az c λy=>jc es (J y) a.length) (OD D.iJ.dF (xk rfl)) (.mk T bn bm .refl) (λa x r ks h' ea I P' tt=>I.casesOn (λ{Bh h2} T' n' m' F' tt=>?_) tt) λks h' I=>I.casesOn λ{Bh h2} T' n' m' F'=>bf (bi (q Bh h2 T' n' m' (b4 (a:=[]) n' m') F')))
 exact T0 (xs:=es) (f:=λp=>sv p.1) (f':=λp=>sv p.2) (bJ:=mA W c) (Inv:=λa'=>Co W az c λy=>a'.foldl tF (jc es (J y) a.length)) (xk rfl) (λa' ks h3 I=>I.casesOn λ_ _ _ F=>F.old XM) (.mk T' n' m' F') (λa' e r' ks h3 ee I pD tt=>I.casesOn (λ{Bh h3} T3 n3 m3 F3 tt=>
  have me:=w e (ee▸cD _ (.head _))
  have b:=b4 n3 m3
  T3.d.elim λi ei=>TT (us:=Bh e.2) T3 me.1 n3 (n3 _) (aw (b _) (by decide)) (aw (b _) (by decide)) rfl rfl (lJ (f:=λx=>.ref (ls 64 x)) (xk rfl) (xk rfl) ei me.2) (T3.get me.2) λj5 h4 n4 m4 T4 F4=>tt.nx (.mk T4 n4 (λz y=>(m4 z y).trans ((Bm (m3 z y) (sA λ_=>m3 e.2 y)).trans (by rw [List.foldl_append];exact .rfl))) (F3.trans F4)) rfl) tt) λks h3 I=>I.casesOn λT3 n3 m3 F3=>bf (tt.nx (.mk T3 n3 (λz y=>(m3 z y).trans (by rw [List.length_append];exact .rfl)) F3) rfl)
end
section
variable{W:Lw}{d0 t0:Nat}{B:ah}{l:L}{f:Sy->V}
theorem ZG(p:Ek ks m h (.ref l))(e:h l=some (.aF (rows xs f) n)):Ei ks (bB m) h (.keys l n (rows xs f).length):=λg K _ q=>p g K _ (.aF e q)
theorem UT(p:Ek ks m h (.ref l))(e:h l=some (.aF (rows xs f) n))(w:∀{h'},aC [d,t] h h'->h' l=h l):∃s:Src,Ei ks (bB m) h s/\s.ok false/\∀h',aC [d,t] h h'->∀i,i<=xs.length->s.next h' i=some (xs.map sv)[i]?:=⟨_,ZG p e,gh,λh' F i _=>(HY ((w F).trans e)).trans (au some (eL.symm.trans (au (·[i]?) gj)))⟩
theorem US(T:Tab d0 t0 xs F h)(src:∃s:Src,Ei ks (bB (an i)) h s/\s.ok false/\∀h',aC [d,t] h h'->∀i,i<=xs.length->s.next h' i=some (xs.map sv)[i]?)(l1:bj ks i=some (.ref (lb d0)))(nd:xs.Nodup)(hl:xs.length<=1000000)(fl:∀x∈xs,(F x).Nodup/\(F x).length<64)(free:∀{k} s ix,ca k [d,t]=true->h (.mk k s ix)=none)(w:jS [d0,t0] [d,t]=true)(n1:Nat.beq t d=false):Ex ks (HQ i) h (Cw d t xs (λx zs=>uI (F x) zs) h):=src.elim λs z=>
 UA (b8:=[(3,.ref (lb d0))]) z.1 z.2.1 z.2.2 nd hl (free _ _ (fF.mpr (.head _))) (λx=>free _ _ (fF.mpr (.tail _ (.head _)))) n1 (λh' x Fr hx fr g K Q q=>by
  have T':=T.same (Fr.same w)
  exact T'.d.elim λk e=>lJ (f:=λx=>.ref (ls t0 x)) (xk rfl) (xk rfl) e hx g K _ (HX (.inl (T'.get hx)) (fl x hx).1 (fl x hx).2 λzs s=>gO _ fr (q _ _ (.mk s)))) (by show [bj ks i]=_;rw [l1];rfl) rfl λ_=>rfl
theorem aaL(D:cZ W)(R:RW W h)(T:Tab 63 64 W.ns B h)(bn:∀x,(B x).Nodup)(bl:∀x,(B x).length<=4)(bm:∀x∈W.ns,∀y,y∈B x↔y∈W.Γ.Fo x)(free:∀{k} s ix,ca k [66,67,68,69]=true->h (.mk k s ix)=none)(q:∀h',Wr (.bool true) h' P):Wk 36 (mA W c) Gu h P:=by
 have mm:∀x,x∈a7 W.Γ.T W.Γ.R↔x∈W.ns:=λx=>D.M.gr.a7.trans (D.iJ.names x).symm
 have nn:=tC (T:=W.Γ.T) (R:=W.Γ.R)
 have n3:W.ns.length<=3:=NH _ D.iJ.dF
 have sn:=NO _ D.iJ.dF
 have ln:(a7 W.Γ.T W.Γ.R).length=W.ns.length:=iz (gP nn λx=>(mm x).mp) (gP sn λx=>(mm x).mpr)
 have fn:∀x∈a7 W.Γ.T W.Γ.R,(W.Γ.Fo x).Nodup/\(W.Γ.Fo x).length<64:=λx hx=>have g:=D.FS.good.nt x (D.M.gr.a7.mp hx);⟨g.1,b7 (gP (U:=cH::W.Γ.T) g.1 λt ht=>(g.2 t ht).u) (D.eT▸by decide)⟩
 refine dO (Φ:=λv h'=>v= .ref iH/\h'=h) (R.A.O.M.I.A.L.G.g.gU (F:=rN) (xk rfl) (by decide+kernel) (by kernel_rfl) e7 λQ z=>.old R.A.O.M.I.A.L.G.g R.A.O.fo (Dn (D.M.gr.a7.mpr D.M.sh)) (aw (aL ln) (aw n3 (by decide))) (z _ _ ⟨rfl,rfl⟩)) λv h' u=>?_
 cases u.1
 cases u.2
 refine yZ (Φ:=λv _=>v= .bool true) (λg K Q z=>R.A.O.fo.d.elim λi1 e1=>US (d:=66) (t:=67) (ks:=(25,.ref iH)::mA W c) R.A.O.fo (UT (xk rfl) e1 λF=>F.at_ _ _ rfl) rfl nn (aw (aL ln) (aw n3 (by decide))) fn (λs ix m=>free _ _ (jC (ts:=[66,67]) rfl m)) rfl rfl g K _ λv h2 u=>?_) λv h' u=>u▸q h'
 cases u with
 | @mk F1 h2 p1 T1 JZ=>
  have T3:=T.same (JZ.same (fq:=[63,64]) rfl)
  refine T3.d.elim λi2 e2=>US (d:=68) (t:=69) (ks:=(25,.ref iH)::mA W c) T3 (UT (xk rfl) e2 λF=>F.at_ _ _ rfl) rfl sn (aw n3 (by decide)) (λx _=>⟨bn x,b7 (bl x) (by decide)⟩) (λs ix m=>(JZ.at_ _ _ (fT (ts:=[68,69]) rfl m)).trans (free _ _ (jC (ts:=[68,69]) rfl m))) rfl rfl g K _ λv h3 u=>?_
  cases u with
  | @mk F2 h3 p2 T2 dz=>
   have LE:=T1.same (dz.same (fq:=[66,67]) rfl)
   refine LE.d.elim λj1 d1=>T2.d.elim λj2 d2=>.inr (.mk d1 d2 (nX.trans (ln.trans nX.symm)) (λp hp=>(bg.1 hp).elim λx z=>?_) (z _ _ rfl))
   have hn:=(mm x).mp z.1
   cases z.2
   exact⟨_,tJ hn,alike (uI.one (p1 x z.1) (p2 x hn) (λy=>(bm x hn y).symm)▸LE.get z.1) (T2.get hn)⟩
end
noncomputable def oZ(ns:List Int):List Nat:=(ns.take 5).map λn=>(n%720720).toNat
noncomputable def rj(ns:List Int):List Nat:=oZ ns++[193,3,0].drop (oZ ns).length
inductive LawC(h:H)(Q:ab):aj->Prop
 |mk{ns:List Int}{l:L}:dR h l (ns.map .int)->ns.length<=1000000->(∀t s ix,h (.mk t s ix)=none)->(∀h',Q (.bool true) h')->LawC h Q [.ref l]
noncomputable def JX:b6:=λus h Q=>LawC h Q us
noncomputable def gK(ns:ai)(nr:Nat):Ks:=[(4,.ref gL),(3,.str (fk ns)),(2,bA nr)]
inductive J0(zs:List Ru)(ns:ai)(nr:Nat)(av:H)(a:List Ru):Ks->H->Prop
 |mk{h:H}:GB jb (bW a) h->aC iI av h->J0 zs ns nr av a (gK ns nr) h
inductive IV(R:List aH)(h:H):ab
 |mk{v:V}{h':H}:GB jb R h'->aC iI h h'->IV R h v h'
section
variable{av:H}{l:L}{ns:List Int}{R:List aH}{zs a:List Ru}
theorem Ia:(oZ ns).length<=5:=aw (aL (bx _)) (List.length_take_le _ _)
theorem Ib:3<=(rj ns).length/\(rj ns).length<=5:=by
 have e:(rj ns).length=(oZ ns).length+(3 - (oZ ns).length):=cw.trans (au _ rW)
 rw [e]
 exact⟨Nat.sub_le_iff_le_add'.mp (cB _),(Nat.le_total (oZ ns).length 3).elim (λz=>aw (aL (Nat.add_sub_cancel' z)) (by decide)) λz=>aw (aL (au _ (Nat.sub_eq_zero_of_le z))) Ia⟩
theorem ajL(p:Ek ks m h (.ref l))(q:Ek ks m' h (.int (j:Nat)))(e:dR h l vs)(hl:vs.length<=1000000):Ex ks (Nd m m') h (fO h (vs.take j)):=λg K Q z=>p g K _ (q g K _ (.mk (gx j) e hl (gA λn hn=>z _ _ (.mk hn))))
theorem aaX(e:dR av l (ns.map .int))(hl:ns.length<=1000000)(q:∀n h',h' (.ay n)=some (.lst (kN (rj ns)))->Ext av h'->Wk 36 [(1,bA n)] Qj h' P):Wk 36 [(0,.ref l)] Qk av P:=by
 have e0:kN (oZ ns)=(ns.take 5).map λx=>V.int ((x%720720).toNat:Nat):=gj
 refine dO (Φ:=Nw av (kN (oZ ns))) (e0▸UH (F:=V.int) (xs:=ns.take 5) [] (List.map_take▸ajL (j:=5) (xk rfl) bF e (eP hl)) (aw (List.length_take_le _ _) (by decide)) (λh' x F hx=>(zI (Int.emod_nonneg x (by decide)):(((x%720720).toNat:Nat):Int)=x%720720).symm▸λg K Q z=>xk rfl g K _ (.int (by decide) z)) rfl rfl λ_=>rfl) λv h1 u=>?_
 cases u with
 | @mk n1 h1 e1 F1=>
  refine dO (Φ:=Nw h1 (kN (rj ns))) (λg K Q z=>xk rfl g K _ (Ci (vs:=[.int 193,.int 3,.int 0]) (kS bF (eE bF bF)) (by decide) g K _ λv h2 u=>?_)) λv h2 u=>?_
  ·cases u with
   |mk f2=>
    refine rI (ks:=[(1,bA n1),(0,.ref l)]) (xk rfl) (dT e1 f2) (eP (aw Ia (by decide))) rfl g K _ (.lst (gx _) (.inl H.aJ) (by decide) (gA λn3 f3=>.lst (dT (dT e1 f2) f3) H.aJ (aw (fw (eP Ia) (aw (aL rW) (wF _ _))) (by decide:5+3<=1000000)) (gA λn4 f4=>z _ _ (.mk (H.aJ.trans (au (λl=>some (O.lst l)) ?_)) (((aC.refl.new f2).new f3).new f4)))))
    exact(au (λk=>kN (oZ ns)++List.drop k [.int 193,.int 3,.int 0]) (bx _)).trans ((au (kN (oZ ns)++·) (Dp (f:=λt:Nat=>V.int t) (l:=[193,3,0])).symm).trans gF.symm)
  ·cases u with
   |mk e2 F2=>exact(q _ _ e2 (F1.trans F2)).sub rfl
theorem eG.aeN(L:eG R rs){T:ai}{a:List aH}(w:∀r∈a,r∈R):∀y∈a7 T a,y∈eQ:=λy hy=>(Q6.mp hy).elim λr z=>z.2.elim (λe=>e▸AC (L.A.hd r (w r z.1))) λu=>.tail _ (L.A.bd r (w r z.1) y u.1)
theorem aaW(L:eG R rs)(ez:bW zs=R)(G:GB jb [] av)(er:av (.ay nr)=some (.lst (zs.map gS)))(ra:fP zs av)(q:∀h',GB jb R h'->aC iI av h'->Wk 36 (gK rs nr) Gx h' P):Wk 36 (gK rs nr) Qh av P:=
 a8 (Io (zs:=zs) (Inv:=J0 zs rs nr av) (bJ:=gK rs nr) (xk rfl) (λa ks h' J=>J.casesOn λ_ F=>⟨F.old er,fP.old ra F⟩) (.mk G .refl) (λa z r ks h' ea J Rz P' tt=>J.casesOn (λ{h'} Ga F Rz tt=>by
  have mz:z.1∈R:=ez▸bg.2 ⟨z,ea▸cD _ (.head _),rfl⟩
  have eR:R=bW a++z.1::bW r:=ez.symm.trans ((au bW ea).trans gF)
  have sub:∀r∈bW a,r∈R:=λr m=>eR▸eM _ m
  have rl:z.1.2.length<=5:=aw (yc mz) L.A.cJ
  have al:(bW a).length<5:=dD (eR▸cw▸DA (iA _)) L.len
  refine vZ (Φ:=IV (bW (a++[z])) h') (λg K Q k=>xk rfl g K _ ⟨Ga.g.casesOn λe na=>.mk e ((nK (by kernel_rfl)).trans (na _ (Dj.1 (by decide+kernel)))),xk (v:=sv z.1.1) rfl g K _ (xk (v:=bA z.2.2) rfl g K _ (.lst (.inl Rz.b) (eP (aw rl (by decide))) (gA λn2 f2=>?_)))⟩) λv h2 u=>u.casesOn λG3 F3=>tt.nx (.mk G3 (F.trans F3)) rfl
  have F2:Ext h' (h'.upd (.ay n2) (.lst (z.1.2.map sv))):=aC.refl.new f2
  exact .mk (r:=z.1) H.aJ (Ga.same (F2.same rfl)) (λm=>L.gr.MZ _ m (iK.mpr ⟨_,mz,rfl⟩)) (by decide+kernel) ((L.lt mz).ok (aw rl (by decide))) (λm=>(bg.1 m).elim λr' w=>(pp.1 (eR▸L.A.nodup)).2.2 r' w.1 _ (.head _) (map_inj (L.lt (sub r' w.1)) (L.lt mz) w.2)) (dD al (by decide)) (aw (gP tC (L.aeN sub)) (by decide)) λh3 G3 F3=>k _ _ (.mk ((show bW (a++[z])=bW a++[z.1] from gF).symm▸G3) ((aC.of F2).trans F3))) Rz tt) λks h' J=>J.casesOn λG F=>bf (bi (q _ (ez▸G) F)))
end
inductive LH(Γ:Px)(h:H):ab
 |mk{vs:List Nat}{Cs:List ak}{F Fo:ah}{az h':H}:lO Γ.T Γ.R F->mZ Γ.T Γ.R Γ.S F Fo->Tab 13 14 (ju Γ.T Γ.R) F h'->Fin ((Γ.hY Fo).out vs Cs az) h'->aC (2::13::15::30::tW) h h'->LH Γ h (.ref bN) h'
inductive Ky(Γ:Px)(h:H):ab
 |mk{n:Nat}{vs:List Nat}{h':H}:uA Γ (.ay n) vs h'->Fin Γ h'->aC (51::52::d6) h h'->Ky Γ h (.ref (.ay n)) h'
inductive KT(Γ:Px)(h:H):ab
 |mk{n:Nat}{N:ai}{h':H}:zT Γ.R N->h' (.ay n)=some (.set (fJ N))->Ext h h'->KT Γ h (.ref (.ay n)) h'
section
variable{W:Lw}{Γ:Px}{av:H}{l:Nat}{ns:List Int}{vs:List Nat}{R:List aH}{us:aj}{zs:List Ru}
theorem Fin.mg(O:Fin Γ h)(L:eG Γ.R rs)(un:d9 Γ)(eT:Γ.T=jb)(eS:Γ.S=nS)(nul:zT Γ.R N)(fh:lO Γ.T Γ.R F):MG Γ N F:=⟨eT▸L.gr,nul,fh,eS▸L.sh,O.M.I.gT,O.M.ff,λJ hJ=>(jL.1 hJ).elim λk ek=>(O.M.I.oG k J ek).casesOn (λe=>⟨_,bc ((e▸ek:Γ.Cs[0]?=some J).symm.trans O.M.I.gT)⟩) λ_ _ e=>⟨_,e⟩,λI hI p hp=>un.ok I (O.M.I.sub I hI) p hp,eS▸L.vG,eS▸L.reach⟩
theorem aa3(D:cZ W)(R:RW W h)(T:Tab 63 64 W.ns Bh h)(bh:∀x∈W.ns,Bh x=[])(free:∀{k} s ix,ca k [66,67,68,69]=true->h (.mk k s ix)=none)(q:∀h',Wr (.bool true) h' P):Wk 36 (jr W) A7 h P:=
 aaP D R T bh λB h2 R2 T2 bn bm F2=>aaO D R2 λc es h3 em e3 F3=>by
  have hN:=D.iJ.names
  have w:∀e∈es,e.1∈W.ns/\e.2∈W.ns:=λe m=>((em e).mp m).elim λr z=>z.elim λj E=>⟨(hN _).mpr E.hB,(hN _).mpr (E.hd▸iK.mpr ⟨r,E.m,rfl⟩)⟩
  refine aaM (J:=λy x=>∃t∈W.tr,x=t.2/\iq W.Γ W.F t y) D (T2.same (F3.same rfl)) bn bm e3 w (λy z u=>u.elim λt u=>M' D u.1 u.2.2) λB' h4 T4 n4 m4 l4 F4=>?_
  have S:Jj W.Γ W.N W.F λx y=>jc es (λx=>∃t∈W.tr,x=t.2/\iq W.Γ W.F t y) W.ns.length x:=⟨λt y ht d=>ags ⟨t,(D.mem t).mpr ht,rfl,d⟩,λ{x B r j} E y=>agr w (B,x) ((em _).mpr ⟨r,j,E⟩),λJ j1 j2 x y=>Sx (K:=λz=>J z y) (λz u=>u.elim λt u=>u.2.1▸j1 t y ((D.mem t).mp u.1) u.2.2) (λe m=>((em e).mp m).elim λr z=>z.elim λj E=>j2 E y) x⟩
  exact aaL D ((R2.cO F3 rfl).cO F4 rfl) T4 n4 l4 (λx hx y=>(m4 x y).trans (D.M.Wu S D.FS ((hN x).mp hx))) (λs ix m=>(F4.at_ _ _ (fT (ts:=[66,67,68,69]) rfl m)).trans ((F3.at_ _ _ rfl).trans ((F2.at_ _ _ (fT (ts:=[66,67,68,69]) rfl m)).trans (free _ _ m)))) q
end
section
variable{W:Lw}{Γ:Px}{av:H}{l:Nat}{R:List aH}{zs:List Ru}
theorem eG.stc(L:eG Γ.R rs)(un:d9 Γ)(eT:Γ.T=jb)(eS:Γ.S=nS)(O:Fin Γ h)(cl:Γ.Cs.length<=5000)(f1:h lp=none)(f2:h oT=none):nu Γ h:=
 have gr:Gr Γ.T Γ.R:=eT▸L.gr
 ⟨un,O,λy hy=>L.hd (gr.a7.mp hy),λy h1 h2=>(by decide+kernel:∀y∈eQ,y∈jb->y∈[ta,tb,tc]) y (L.sym (eS▸h1)) (eT▸h2),λy h=>h.casesOn λ{i x b} e hy=>by
  cases i with
  |zero=>cases e;exact .inl (a6.1 hy▸eS▸gr.a7.mpr L.sh)
  |succ i=>exact(gr.syms _ (cP e) y hy).symm.imp_left gr.a7.mpr,cl,f1,f2⟩
theorem aaU(L:eG Γ.R rs)(un:d9 Γ)(eT:Γ.T=jb)(eS:Γ.S=nS)(O:Fin Γ h)(cl:Γ.Cs.length<=5000)(fh:lO Γ.T Γ.R F)(hY:mZ Γ.T Γ.R Γ.S F Γ.Fo)(tf:Tab 13 14 (ju Γ.T Γ.R) F h)(ez:bW zs=Γ.R)(er:h (.ay nr)=some (.lst (zs.map gS)))(ra:fP zs h)
 (free:∀{t} s ix,ca t (51::52::th)=true->h (.mk t s ix)=none)(q:∀h',Wr (.bool true) h' P):Wk 36 ((7,.ref bN)::gK rs nr) Qg h P:=by
 refine dO (Φ:=Ky Γ h) (x_call (F:=zC) (eE (xk rfl) (xk rfl)) λQ z=>.mk (L.stc un eT eS O cl (free _ _ rfl) (free _ _ rfl)) λn vs h' a b c=>z _ _ (.mk a b c)) λv h2 u=>?_
 cases u with
 | @mk l vs h2 ls O2 F2=>
  refine dO (Φ:=KT Γ h2) (O2.M.I.A.tb.gU (F:=zB) (xk rfl) (by decide+kernel) (λ_=>by kernel_rfl) e7 λQ z=>.mk O2.M.I.A λn N h' a b c=>z _ _ (.mk a b c)) λv h3 u=>?_
  cases u with
  | @mk el N h3 nul es F3=>
   have qr:aC (51::52::d6) h h3:=F2.trans (F3.wide rfl)
   have O3:Fin Γ h3:=O2.cO F3 rfl
   have Ty:=tf.same (qr.same (fq:=[13,14]) rfl)
   have G:=O3.M.I.A.L.G.g
   refine dO (Φ:=λv h'=>v= .ref kH/\h'=h3) (G.gU (F:=uu) (xk rfl) (by decide+kernel) (by kernel_rfl) e7 λQ z=>.old G Ty (Dn (a:=cH) (eM _ (cD _ (.head _)))) (aw (aL (cw.trans (au (·+_) cw))) (aw (eV (gP (U:=p4) tC λx hx=>L.hd (O3.M.I.A.L.gr.a7.mp hx)) _) (eT▸(by decide:(4+1)+3<=1000)))) (z _ _ ⟨rfl,rfl⟩)) λv h' u=>?_
   cases u.1
   cases u.2
   have M:=O3.mg L un eT eS nul fh
   have qT:∀{t} s ix,ca t th=true->h3 (.mk t s ix)=none:=λs ix m=>(qr.at_ _ _ (fT (ts:=th) rfl m)).trans (free s ix (jC (ts:=th) rfl m))
   exact(aaS (W:=⟨Γ,rs,F,N,l,vs,el,[],nr,zs⟩) (λtr nd mm=>⟨L,M,hY,un,cl,eT,eS,nd,mm,O3.M.I.nodup,ez⟩) M cl ⟨O3,⟨F3.old ls.lst,ls.st.old F3.old⟩,Ty,es,qr.old er,fP.old ra qr⟩ qT λtr D B h4 bh R4 T4 F4=>aa3 D R4 T4 bh (λs ix m=>(F4.at_ _ _ (fT (ts:=[66,67,68,69]) rfl m)).trans (qT _ _ (jC (ts:=[66,67,68,69]) rfl m))) q).sub rfl
end
inductive Lu(R:List aH)(h:H):ab
 |mk{v:V}{h':H}:GP jb R nS h'->k7 nS R gY h'->Em kH h'->Em iH h'->aC [0,2,4,5,12] h h'->Lu R h v h'
inductive J4(h:H):ab
 |mk{h':H}:GB jb [] h'->aC iI h h'->J4 h (.ref gL) h'
section
variable{av:H}{l:Nat}{R:List aH}{us:aj}{zs:List Ru}
theorem aaV(L:eG R rs)(G:GB jb R h)(free:∀{t} s ix,ca t (53::iI)=false->h (.mk t s ix)=none)(ez:bW zs=R)(er:h (.ay nr)=some (.lst (zs.map gS)))(ra:fP zs h)(q:∀h',Wr (.bool true) h' P):Wk 36 (gK rs nr) Gx h P:=by
 refine a8 (vZ (Φ:=Lu R h) (G.g.gU (F:=wh) (xk rfl) (by decide+kernel) (by kernel_rfl) (iS (v:=sv nS) df) λQ z=>.mk G (b7 L.len (by decide)) (L.gr.a7.mpr L.sh) (by decide+kernel) (by decide+kernel) λh' a b c d e=>z _ _ (.mk a b c d e)) λv h2 u=>bi ?_)
 cases u with
 |mk Va ps2 Yc Yv F2=>
  have f2:∀{t} s ix,ca t (53::iI)=false->h2 (.mk t s ix)=none:=λs ix m=>(F2.at_ _ _ (vR (ts:=[0,2,4,5,12]) rfl m)).trans (free s ix m)
  have F3:aC [30] h2 (h2.upd bN (.inst .table λ_=>none)):=aC.refl.upd rfl
  refine dO (Φ:=LH (yb R) h2) (x_call (F:=CF) (eE (xk rfl) (df (s:="SLR"))) λQ z=>gO (Q:=λv h'=>zx [v,.ref gL,.str "SLR",.none] h' λr bP=>r= .none/\Q v bP) bN (f2 _ _ rfl) (.mk (Γ:=yb R) ⟨H.aJ,L.gr,Va.same (F3.same rfl),ps2.same (F3.same rfl),Yc.same (F3.at_ _ _ rfl),Yv.same (F3.at_ _ _ rfl),L.first,L.univ,L.top,L.acc,L.wl,aw (jN _ (H1 L.A.cJ)) (by decide:3908*(11*(4+1))<=800000),λs ix m=>(F3.at_ _ _ (fT (ts:=tW) rfl m)).trans (f2 _ _ (fT (ts:=tW) rfl m))⟩ λvs Cs F Fo az h' a b c d e=>⟨rfl,z _ _ (.mk a b c d ((F3.wide rfl).trans e))⟩)) λv h3 u=>?_
  cases u with
  | @mk vs Cs F Fo az h3 fh hY tf O F3=>
   have qr:aC (0::4::5::12::2::13::15::30::tW) h h3:=(F2.wide rfl).trans (F3.wide rfl)
   exact aaU (Γ:=((yb R).hY Fo).out vs Cs az) L ⟨L.univ.gT,L.univ.step,L.univ.ok,L.univ.len,L.univ.u1,L.univ.u2,L.univ.ul,L.univ.sl⟩ rfl rfl O (aw (gP O.M.I.nodup O.M.I.sub) (aw (H1 L.A.cJ) (by decide))) fh hY tf ez (qr.old er) (fP.old ra qr) (λs ix m=>(qr.at_ _ _ (fT (ts:=51::52::th) rfl m)).trans (free _ _ (fT (ts:=51::52::th) rfl m))) q
theorem aar(q:JX us h Q):Qa (us.map some++List.replicate 35 none) h λfl _ h'=>Q (c7 fl) h':=by
 cases q with
 | @mk ns l e hl free q=>
  have L:=aap (tp:=rj ns) Ib.2
  refine(aaX (P:=Rt Q) e hl λn h1 en F1=>λg K=>xk rfl g K.at_ _ (.mk en Ib.1 (aw Ib.2 (by decide)) ((F1.at_ _ _ rfl).trans (free _ _ _)) λh2 nr zs F2 er ra ez=>(t6 (k:=36) (ks:=[(1,bA n)]) (m:=cV (.tup [bA nr,.str (fk (mE (rj ns)))])) (h:=h2) (P:=Rt Q) (s:=Qi) lH (Wk.sub (bJ:=[(3,.str (fk (mE (rj ns)))),(2,bA nr)]) ?_ rfl)) g K)) _ (Kn.dA rfl rfl)
  have f2:∀{t} s ix,ca t [53]=false->h2 (.mk t s ix)=none:=λs ix m=>(F2.at_ _ _ m).trans ((F1.at_ _ _ rfl).trans (free _ _ _))
  refine dO (Φ:=J4 h2) (Ch (Ci (vs:=[ta,tb,tc].map sv) (kS df (eE df df)) (by decide)) λv h3 u Q z=>?_) λv h3 u=>?_
  ·cases u with
   | @mk k hk=>
    have F3:aC [0] h2 ((h2.upd (.ay k) (.lst ([ta,tb,tc].map sv))).upd gL (.inst .dX λ_=>none)):=(aC.refl.new hk).upd rfl
    exact gO (Q:=λv h'=>zv [v,bA k] h' λr bP=>r= .none/\Q v bP) gL ((H.bp dZ).trans (f2 _ _ rfl)) (.mk (T:=[ta,tb,tc]) (aW H.aJ dB) (by decide+kernel) (by decide) H.aJ (λ{t} s ix m=>(F3.at_ _ _ ((Jm _).trans (jU (bu m).2))).trans (f2 _ _ (fT (ts:=iI) rfl (bu m).1))) λh' G F=>⟨rfl,z _ _ (.mk G ((F3.wide rfl).trans F))⟩)
  ·cases u with
   | @mk h3 G F3=>exact aaW L ez G (F3.old er) (fP.old ra F3) λh4 G4 F4=>aaV L G4 (λs ix m=>((F3.trans F4).at_ _ _ (vR (ts:=iI) rfl m)).trans (f2 _ _ (vR (ts:=[53]) rfl m))) ez ((F3.trans F4).old er) (fP.old ra (F3.trans F4)) λh' g=>q h'
end
noncomputable def xD(K:Frag)(f:Addr):Option FuncData:=match K.lookup f with
 |some ⟨_,_,.func fd,_⟩=>some fd
 |_=>none
noncomputable def i9(K:Frag)(f:Addr):FuncData:=(xD K f).getD default
noncomputable def BP:FuncBody->Option (List Stmt)
 | .stmts b=>some b
 |_=>none
noncomputable def Tk(K:Frag)(f:Addr):List Stmt:=(BP (i9 K f).body).getD []
noncomputable abbrev p9(K:Frag)(f:Addr):Nm:=(i9 K f).scope.names
noncomputable abbrev Bt(K:Frag)(f p:Nat):List Str:=((p9 K f).map (·.1)).take p
noncomputable def Hl(K:Frag)(f p q:Nat):Bool:=(xD K f).isSome&&((BP (i9 K f).body).isSome&&(codeIn K (i9 K f).code (i9 K f).qualname&&((i9 K f).scope.kind==.function&&(!(i9 K f).scope.isCoroutine&&(!(i9 K f).scope.isGenerator&&((i9 K f).closure.isEmpty&&((i9 K f).globals==mainGlobals&&((i9 K f).builtins==builtinsNs&&
 (decide ((p9 K f).map (·.1)).Nodup&&((p9 K f).length==p+q&&((Bt K f p).all (λx=>(p9 K f).lookup x==some .local||(p9 K f).lookup x==some .cell)&&(p9 K f).all λz=>z.2 !=.free)))))))))))
noncomputable def oz(C:CN):Addr:=C.rec 283 100 135 427
inductive JB:Frag->Bk->Prop
 |mk{B:Bk}:lL B->B.cls=oz->B.mg "KeyError"=none->B.mg "IndexError"=none->JB B.K B
noncomputable def CR(B:Bk)(k:Nat)(p:Str×b6):Prop:=∃f,(B.mg p.1=some f\/(B.mg p.1=none/\bootBuiltins p.1=some f/\p.1≠"__name__"))/\jf B f/\dp B true k f p.2/\(p.1==("__debug__":Str))=false
noncomputable def Km(B:Bk)(k:Nat)(p:Str×wj):Prop:=∃f,B.mg p.1=none/\bootBuiltins p.1=some f/\p.1≠"__name__"/\jf B f/\uj B true k f p.2/\(p.1==("__debug__":Str))=false
noncomputable def KB(B:Bk)(k:Nat)(n:Str):MC->Prop
 | .own C F=>∃f,plainGet B.K (B.cls C) n=true/\findIn B.K (.ref (B.cls C)) n=some (some (.ref f))/\isFn B.K (.ref f)=true/\keepIn B.K (.ref f)=true/\dp B true k (.ref f) F
 | .blt T F=>∃id,PlainAttrs T/\Slot T n id/\typeOf (.builtin id)=pure (.type "method_descriptor")/\dp B true k (.builtin id) F
structure SG(B:Bk)(k:Nat)(S:Sg):Prop where
 f:∀p∈S.fns,CR B k p
 i:∀p∈S.bS,Km B k p
 m:∀p∈S.mD,KB B k p.1 p.2
 g:∀p∈S.AB,∃tk,B.mg p.1=some (.str p.2 tk)
noncomputable def Lj(K:Frag)(f:Addr)(S:Sg)(m:SW):Prop:=∀(B:Bk) (k:Nat) (G:qH B k S),((Mine.rd G 200).ss true (p9 K f) (Tk K f)).map (·.1)=some m
section
variable{B:Bk}{t:Bool}{p q:Nat}{nm:Nm}{ps xs rest:List Str}{f:Addr}{x y:Str}{us:aj}{S:Sg}{m:SW}{F F':b6}{dv:aj}{ds:ao}{K:Frag}{acc:List (Str×Addr)}{c:NameKind}
theorem s7{α:Type}{v:α}{l:List (Str×α)}(e:l.lookup x=some v):(x,v)∈l:=mem_of_lookup e
theorem AZ{α:Type}{v:α}{l:List (Str×α)}(n:x≠y):List.lookup x ((y,v)::l)=l.lookup x:=List.lookup_cons.trans (au (λb:Bool=>match b with|true=>some v|false=>l.lookup x) (nF.2 n))
theorem AY{α:Type}{v:α}{l:List (Str×α)}:List.lookup x ((x,v)::l)=some v:=List.lookup_cons.trans (au (λb:Bool=>match b with|true=>some v|false=>l.lookup x) (iF x))
theorem W8(nd:(nm.map (·.1)).Nodup):((cellsFrom n nm acc).lookup x).isSome=true↔(acc.lookup x).isSome=true\/nm.lookup x=some .cell:=by
 induction nm generalizing n acc with
 |nil=>exact⟨.inl,λh=>h.elim id λh=>cK h rfl⟩
 |cons p nm ih=>
  obtain⟨y,c⟩:=p
  have nd:=gX.1 nd
  have no:nm.lookup y≠some .cell:=λe=>nd.1 (bg.2 ⟨_,s7 e,rfl⟩)
  unfold cellsFrom
  refine(aN (c= .cell)).elim (λhc=>?_) λhc=>?_
  ·subst hc
   rw [if_pos (beq_self_eq_true _),ih nd.2]
   refine(aN (x=y)).elim (λe=>?_) λe=>?_
   ·subst e
    rw [AY,AY]
    exact⟨λ_=>.inr rfl,λ_=>.inl rfl⟩
   ·rw [AZ e,AZ e]
  ·rw [if_neg λh=>hc (eq_of_beq h),ih nd.2]
   refine(aN (x=y)).elim (λe=>?_) λe=>?_
   ·subst e
    rw [AY]
    exact fH ⟨λh=>absurd h no,λh=>absurd (bc h) hc⟩
   ·rw [AZ e]
theorem Ya(h:(xD K f).isSome=true):∃o,K.lookup f=some o/\o.data= .func (i9 K f):=by
 unfold i9
 cases e:xD K f with
 |none=>rw [e] at h;cases h
 |some fd=>
  unfold xD at e
  split at e
  ·cases e;exact⟨_,by assumption,rfl⟩
  ·cases e
theorem ahX{b:FuncBody}(h:(BP b).isSome=true):b= .stmts ((BP b).getD []):=by
 cases b with
 |stmts=>rfl
 |_=>cases h
theorem defAt(h:Hl B.K f p q=true):Cx B f (i9 B.K f) (Tk B.K f) (Bt B.K f p) (p9 B.K f)/\(p9 B.K f).length=p+q:=by
 have h1:=bu h;have h2:=bu h1.2;have h3:=bu h2.2;have h4:=bu h3.2;have h5:=bu h4.2;have h6:=bu h5.2;have h7:=bu h6.2;have h8:=bu h7.2;have h9:=bu h8.2;have ha:=bu h9.2;have hb:=bu ha.2;have hc:=bu hb.2
 have nd:=cU ha.1
 have ci:=λ{n:Nat} {x:Str}=>W8 (x:=x) (n:=n) (acc:=[]) nd
 exact⟨⟨Ya h1.1,ahX h2.1,h3.1,rfl,eq_of_beq h4.1,jU h5.1,jU h6.1,zK.1 h7.1,eq_of_beq h8.1,eq_of_beq h9.1,(List.take_sublist _ _).nodup nd,nd,λx hx=>(Bn (d5.1 hc.1 x hx)).imp_right λe=>⟨e,λn=>ci.mpr (.inr e)⟩,λx e n=>ci.mpr (.inr e),λn x e=>(ci.mp e).resolve_left λz=>Bool.noConfusion z,λx e=>lg.1 (d5.1 hc.2 (x,.free) (s7 e)) rfl⟩,eq_of_beq hb.1⟩
theorem aax(nd:(xs++rest).Nodup)(e:us.length=xs.length):(xs++rest).map (vt xs us)=us.map some++List.replicate rest.length none:=by
 induction xs generalizing us with
 |nil=>
  cases us with
  |nil=>exact List.map_const'
  |cons=>cases e
 |cons x xs ih=>
  cases us with
  |nil=>cases e
  |cons u us=>
   have nd:=gX.1 nd
   exact kG (au _ AY) ((qy λy hy=>AZ λz=>nd.1 ((z:y=x)▸hy)).trans (ih nd.2 (zR e)))
theorem YK(nd:(nm.map (·.1)).Nodup)(hl:nm.length=p+q)(hu:us.length=p):cj nm (vt ((nm.map (·.1)).take p) us)=us.map some++List.replicate q none:=by
 have l:(nm.map (·.1)).length=p+q:=(bx _).trans hl
 have e:=aax (us:=us) (xs:=(nm.map (·.1)).take p) (rest:=(nm.map (·.1)).drop p) ((Ds ..).symm▸nd) (hu.trans (Do (l▸jh p q)).symm)
 rw [List.take_append_drop,List.length_drop,l,Nat.add_sub_cancel_left] at e
 exact(gj (g:=vt ((nm.map (·.1)).take p) us) (f:=λp:Str×NameKind=>p.1)).symm.trans e
theorem JB.deep{L:Addr}(J:JB K B):JB K (B.deep L):=by
 cases J with
 |mk X c k i=>exact .mk (B:=B.deep L) ⟨⟨⟨X.C.bk.X,X.C.bk.lim,X.C.bk.g,X.C.bk.b,X.C.bk.builtins⟩,X.C.truth⟩,X.ok,X.cls⟩ c k i
theorem SG.ok(G:SG B k S)(J:JB K B):qH B k S:=J.casesOn (λX c ke ie G=>⟨X,λx F e=>G.f _ (s7 e),λx F e=>G.i _ (s7 e),λn C F e=>G.m _ (s7 e),λn T F e=>G.m _ (s7 e),ke,ie,λx y e=>G.g _ (s7 e)⟩) G
theorem code_def(J:JB K B)(ok:Hl K f p q=true)(rd:Lj K f S m)(G:∀L,qH (B.deep L) k S)(xS:∀h s,aI B h s->aY h s.heap dv ds)(xQ:∀s xs,K.In s.heap->xs.length=n->BindsTo s (i9 K f) ⟨xs,[]⟩ ((Bt K f p).zip (xs++ds)))(hp:n+dv.length=p)
 (hF:∀us h Q,F us h Q->us.length=n/\m ((us++dv).map some++List.replicate q none) h λfl _ h'=>Q (c7 fl) h'):lN B true (k+1) (.ref f) F:=J.casesOn (λX _ _ _ ok rd G xS xQ=>
 have D:=defAt ok
 lN.aeW (m:=m) X.C D.1 xS xQ (λL=>read (G L) (rd _ _ (G L))) λus h Q z=>have w:=hF us h Q z;⟨w.1,(YK D.1.Rr D.2 (cw.trans ((au (·+dv.length) w.1).trans hp))).symm▸w.2⟩) ok rd G xS xQ
end
inductive Jk
 |fn(x:Str)
 |me(C:CN)(x:Str)
 |cl(C:CN)(x:Str)
 |ln
noncomputable abbrev xn(C:CN)(Fi:b6):b6:=λvs h Q=>dJ (.inst C λ_=>none) h λv h'=>Fi (v::vs) h' λr bP=>r= .none/\Q v bP
noncomputable abbrev zd(K:Frag):Prop:=K.lookup 54=some {cls:=.type "tuple",dict:=none,data:=.seq #[.str "right" 249,.int 0 250],slots:=#[]}
set_option genInjectivity false in
structure Ent where
 k:Jk
 f:Nat
 m:SW
 q:Nat
 n:Nat
 T:Nat
 j:Nat
 dv:aj
 ds:ao
 F:b6
 G:b6
 hF:∀us h Q,F us h Q->us.length=n/\m ((us++dv).map some++List.replicate q none) h λfl _ h'=>Q (c7 fl) h'
 hd:∀{K:Frag} {g:Heap},K.In g->zd K->∀h,aY h g dv ds
 w:k.rec (λ_=>∀us h Q,G us h Q->F us h Q) (λ_ _=>∀us h Q,G us h Q->F us h Q) (λC _=>∀us h Q,G us h Q->xn C F us h Q) (∀us h Q,vK us h Q->F us h Q)
noncomputable def S0:Sg:=⟨[("len",AT),("all",uO),("tuple",rn),("list",yf),("set",rP),("sum",BS),("min",vA),("sorted",BN)],[("range",yE),("enumerate",qN)],[("append",.blt "list" de),("extend",.blt "list" ET),("insert",.blt "list" AL),("add",.blt "set" vP),("get",.blt "dict" eY),("join",.blt "str" vq),("add_lalr_lookaheads",.own .table JU)],[("_IDENTIFIER",x5)]⟩
noncomputable def push(e:Ent)(S:Sg):Sg:=⟨e.k.rec (λx=>(x,e.G)::S.fns) (λ_ _=>S.fns) (λ_ x=>(x,e.G)::S.fns) (("len",dQ)::S.fns),S.bS,e.k.rec (λ_=>S.mD) (λC x=>(x,.own C e.G)::S.mD) (λ_ _=>S.mD) S.mD,S.AB⟩
noncomputable def sg(l:List Ent):Sg:=l.rec S0 λe _ S=>push e S
noncomputable def Hr(K:Frag)(x:Str)(f:Addr):Bool:=nsIn K mainGlobals x==some (some (.ref f))&&(keepIn K (.ref f)&&!(x==("__debug__":Str)))
noncomputable def Hm(K:Frag)(C:Addr)(x:Str)(f:Addr):Bool:=plainGet K C x&&(findIn K (.ref C) x==some (some (.ref f))&&(isFn K (.ref f)&&keepIn K (.ref f)))
noncomputable def okK(K:Frag)(f:Nat)(k:Jk):Bool:=k.rec (λx=>Hr K x f) (λC x=>Hm K (oz C) x f) (λC x=>Hr K x (oz C)&&(makesIn K (oz C)&&(findIn K (.ref (oz C)) "__init__"==some (some (.ref f))&&isFn K (.ref f)))) (findIn K (.ref 100) "__len__"==some (some (.ref f))&&isFn K (.ref f))
noncomputable def vo(K:Frag)(T:Addr):Option aq:=match K.lookup T with
 |some ⟨_,_,.seq items _,_⟩=>some items
 |_=>none
noncomputable def MX(K:Frag)(T:Nat)(v:Value):Bool:=(v==.none&&T==0)||(v==.ref T&&(T !=0&&(vo K T).isSome))
noncomputable def oD(K:Frag)(T:Nat):Option aq:=cond (T==0) none (vo K T)
noncomputable def XH(K:Frag)(T j:Nat):ao:=((oD K T).elim [] Array.toList).drop j
noncomputable def Ja(n:Nat):(ao->Prop)->Prop:=n.rec (λP=>P []) λ_ ih P=>∀x,ih λxs=>P (x::xs)
noncomputable def xi(fd:FuncData)(xs:ao):{k:Option (aq)->Sem (List (Str×Value))//bindArgs fd ⟨xs,[]⟩=seqItems? fd.defaults>>= k}:=⟨_,rfl⟩
structure Fact(K:Frag)(S:Sg)(e:Ent):Prop where
 ok:(Hl K e.f (e.n+e.dv.length) e.q&&(okK K e.f e.k&&(MX K e.T (i9 K e.f).defaults&&XH K e.T e.j==e.ds)))=true
 rd:Lj K e.f S e.m
 bd:Ja e.n λxs=>(xi (i9 K e.f) xs).1 (oD K e.T)=pure ((Bt K e.f (e.n+e.dv.length)).zip (xs++e.ds))
noncomputable def Facts(K:Frag)(l:List Ent):Prop:=l.rec True λe l ih=>Fact K (sg l) e/\ih
noncomputable def sD:List Str:=["len","all","tuple","list","set","sum","min","sorted","range","enumerate","KeyError","IndexError"]
noncomputable def isStr(y:Str):Option (Option Value)->Bool
 |some (some (.str z _))=>z==y
 |_=>false
noncomputable def Bj(K:Frag):Bool:=sD.all (λx=>nsIn K mainGlobals x==some none)&&(Hm K 427 "add_lalr_lookaheads" 417&&isStr x5 (nsIn K mainGlobals "_IDENTIFIER"))
section
variable{B:Bk}{t:Bool}{p q T:Nat}{x:Str}{us:aj}{S:Sg}{m:SW}{F F':b6}{dv:aj}{xs:ao}{K:Frag}{l:List Ent}{e:Ent}{h:HA}{s:Shared}{f:Addr}{v:Value}{fd:FuncData}{bs:List (Str×Value)}{C:CN}
theorem dp.weak{f:Value}(c:dp B t k f F')(w:∀us h Q,F us h Q->F' us h Q):dp B t k f F:=λA h s Q E vs xs R T rs q=>c A h s Q E vs xs R T rs (w _ _ _ q)
theorem V7{P:ao->Prop}(a:Ja n P)(e:xs.length=n):P xs:=by
 induction n generalizing xs P with
 |zero=>exact rV e▸a
 |succ n ih=>
  cases xs with
  |nil=>cases e
  |cons x xs=>exact ih (P:=λxs=>P (x::xs)) (a x) (zR e)
theorem aho{K:Frag}{T:Addr}{o:aq}(e:vo K T=some o):∃b n c d,K.lookup T=some ⟨b,n,.seq o c,d⟩:=by
 unfold vo at e
 split at e
 ·cases e;exact⟨_,_,_,_,by assumption⟩
 ·cases e
theorem binds(X:K.In s.heap)(b:MX K T fd.defaults=true)(e:(xi fd xs).1 (oD K T)=pure bs):BindsTo s fd ⟨xs,[]⟩ bs:=((lM _ _).mp b).elim (λb=>by
 have z:=eq_of_beq (bu b).1
 cases eq_of_beq (bu b).2
 exact .of_eq ((xi fd xs).2.trans ((au (λv=>seqItems? v>>= (xi fd xs).1) z).trans e))) λb=>by
 have b2:=bu (bu b).2
 cases eo:vo K T with
 |none=>rw [eo] at b2;cases b2.2
 |some o=>
  have eD:oD K T=some o:=(au (cond · none (vo K T)) (nF.2 (lg.1 b2.1))).trans eo
  exact(aho eo).elim λ_ z1=>z1.elim λ_ z1=>z1.elim λ_ z1=>z1.elim λ_ z1=>.of_defaults (eq_of_beq (bu b).1) (X _ _ z1) rfl (xi fd xs).2 (eD▸e)
theorem Sa(X:lL B)(b:Hr B.K x f=true)(c:dp B true k (.ref f) F):CR B k (x,F):=have b1:=bu b;have b2:=bu b1.2;⟨.ref f,.inl (mg_of X.C.bk.X X.C.bk.g (eq_of_beq b1.1)),.ref b2.1,c,jU b2.2⟩
theorem Q1(cl:B.cls=oz)(b:Hm B.K (oz C) x f=true)(c:dp B true k (.ref f) F):KB B k x (.own C F):=have b1:=bu b;have b2:=bu b1.2;have b3:=bu b2.2;⟨f,cl▸b1.1,cl▸eq_of_beq b2.1,b3.1,b3.2,c⟩
end
section
variable{B:Bk}{x:Str}{S:Sg}{F:b6}{G:wj}{K:Frag}{l:List Ent}{v:Value}
theorem pT(no:∀x∈sD,B.mg x=none)(m:x∈sD)(k0:jf B v)(c:dp B true k v F)(eb:bootBuiltins x=some v:=by decide+kernel)(hn:x≠"__name__":=by decide+kernel)(hd:(x==("__debug__":Str))=false:=by decide+kernel):CR B k (x,F):=⟨v,.inr ⟨no x m,eb,hn⟩,k0,c,hd⟩
theorem OM(no:∀x∈sD,B.mg x=none)(m:x∈sD)(k0:jf B v)(c:uj B true k v G)(eb:bootBuiltins x=some v:=by decide+kernel)(hn:x≠"__name__":=by decide+kernel)(hd:(x==("__debug__":Str))=false:=by decide+kernel):Km B k (x,G):=⟨v,no x m,eb,hn,k0,c,hd⟩
theorem Ba{α:Type}{p:α->Prop}:∀x∈([]:List α),p x:=λ_ z=>absurd z a0
theorem WZ:dp B true k (.type "set") rP:=λA h s Q E vs xs R T rs q=>q.elim (WX A h s Q E vs xs R T rs) (WN A h s Q E vs xs R T rs)
theorem ZU{y:Str}{o:Option (Option Value)}(h:isStr y o=true):∃tk,o=some (some (.str y tk)):=by
 unfold isStr at h
 split at h
 ·exact eq_of_beq h▸⟨_,rfl⟩
 ·cases h
theorem JB.vk{h:HA}{s:Shared}(J:JB K B)(R:aI B h s):K.In s.heap:=by
 cases J with
 |mk X=>exact R.X X.C
theorem Rw(X:lL B)(g:Bj B.K=true):∀x∈sD,B.mg x=none:=λx m=>mg_none_of X.C.bk.X X.C.bk.g (eq_of_beq (d5.1 (bu g).1 x m))
theorem ahz(J:JB K B)(g:Bj K=true):SG B k S0:=J.casesOn (λX cl _ _ g=>
 have g2:=bu (bu g).2
 have no:=Rw X g
 ⟨bq.2 ⟨pT no (by decide+kernel) .builtin MA,bq.2 ⟨pT no (by decide+kernel) .builtin WM,bq.2 ⟨pT no (by decide+kernel) .type W3,bq.2 ⟨pT no (by decide+kernel) .type WV,bq.2 ⟨pT no (by decide+kernel) .type WZ,bq.2 ⟨pT no (by decide+kernel) .builtin W2,bq.2 ⟨pT no (by decide+kernel) .builtin WW,bq.2 ⟨pT no (by decide+kernel) .builtin W1,Ba⟩⟩⟩⟩⟩⟩⟩⟩,
  bq.2 ⟨OM no (by decide+kernel) .type WY,bq.2 ⟨OM no (by decide+kernel) .type WO,Ba⟩⟩,
  bq.2 ⟨⟨"list.append",Lg,PySem.F.slot_list_append,rfl,Mz⟩,bq.2 ⟨⟨"list.extend",Lg,PySem.F.slot_list_extend,rfl,WP⟩,bq.2 ⟨⟨"list.insert",Lg,VC,rfl,WS⟩,bq.2 ⟨⟨"set.add",PySem.F.plainAttrs_set,PySem.F.slot_set_add,rfl,W0⟩,bq.2 ⟨⟨"dict.get",PySem.F.plainAttrs_dict,PySem.F.slot_dict_get,rfl,WR⟩,bq.2 ⟨⟨"str.join",PySem.F.plainAttrs_str,PySem.F.slot_str_join,rfl,WT⟩,bq.2 ⟨Q1 cl g2.1 (λ_ _ _ _ _ _ _ _ _ _ q=>q.elim),Ba⟩⟩⟩⟩⟩⟩⟩,
  bq.2 ⟨(ZU g2.2).imp λ_ e=>mg_of X.C.bk.X X.C.bk.g e,Ba⟩⟩) g
theorem Nl{e:Ent}(F:Fact K (sg l) e)(d:zd K)(S:∀{B},JB K B->SG B k (sg l))(J:JB K B):lN B true (k+1) (.ref e.f) e.F:=
 have a:=bu F.ok
 have b:=bu (bu a.2).2
 code_def J a.1 F.rd (λL=>(S J.deep).ok J.deep) (λh s R=>e.hd (J.vk R) d h) (λs xs X hx=>binds X b.1 (V7 F.bd hx)) rfl e.hF
theorem ahy(g:Bj K=true)(d:zd K)(F:Facts K l)(J:JB K B)(hk:2*l.length<=k):SG B k (sg l):=by
 induction l generalizing B k with
 |nil=>exact ahz J g
 |cons e l ih=>
  have S:=ih F.2 J (aw (wC 2 (jj _)) hk)
  obtain⟨k,rfl⟩:∃k',k=k'+2:=⟨k - 2,(r0 (aw (rY 2 (2*l.length)) hk)).symm⟩
  have hq:2*l.length<=k:=Nat.le_of_add_le_add_right hk
  clear hk
  have b:=bu (bu F.1.ok).2
  have C:∀{k},2*l.length<=k->lN B true (k+1) (.ref e.f) e.F:=λhk=>Nl F.1 d (λJ=>ih F.2 J hk) J
  clear ih F
  obtain⟨kd,f,m,q,n,T,j,dv,ds,F,G,hF,hd,w⟩:=e
  have b:=b.1
  cases J with
  |mk X cl ke ie=>
   cases kd with
   |fn x=>exact⟨bq.2 ⟨Sa X b ((C (uC hq)).call.weak w),S.f⟩,S.i,S.m,S.g⟩
   |me C' x=>exact⟨S.f,S.i,bq.2 ⟨Q1 cl b ((C (uC hq)).call.weak w),S.m⟩,S.g⟩
   |cl C' x=>
    have b1:=bu b
    have b2:=bu b1.2
    have b3:=bu b2.2
    have e:=sI cl C'
    exact⟨bq.2 ⟨Sa X b1.1 ((show dp B true (k+2) (.ref (oz C')) (xn C' F) from e▸(lN.ofClass X.C (c:=C') (e.symm▸b2.1) (e.symm▸eq_of_beq b3.1) b3.2 (C hq)).call).weak w),S.f⟩,S.i,S.m,S.g⟩
   |ln=>
    have b1:=bu b
    have e:=sI cl .dg
    exact⟨bq.2 ⟨pT (Rw X g) (by decide+kernel) .builtin (WU X.C (f:=f) (show findIn B.K (.ref (B.cls .dg)) "__len__"=_ from e.symm▸eq_of_beq b1.1) b1.2 ((C hq).call.weak w)),S.f⟩,S.i,S.m,S.g⟩
end
noncomputable def QT:SW:=eA (bv AT (aA (aE (an 0) "prod") aD))
noncomputable abbrev HC:aj:=[.tup [.str "right",.int 0],.none,.str "",.int 0]
noncomputable abbrev Sp(F:b6)(m:SW)(q:Nat):Prop:=∀us h Q,F us h Q->m (us.map some++List.replicate q none) h λfl _ h'=>Q (c7 fl) h'
noncomputable abbrev Ln(F:b6)(n:Nat):Prop:=∀us h Q,F us h Q->us.length=n
section
variable{F G:b6}{m:SW}{q:Nat}{us dv ws:aj}{f:Nat}
theorem xT(a:Ln F n)(b:Sp F m q):∀us h Q,F us h Q->us.length=n/\m ((us++[]).map some++List.replicate q none) h λfl _ h'=>Q (c7 fl) h':=λus h Q z=>⟨a us h Q z,(gy us).symm▸b us h Q z⟩
theorem AU(e:us++dv=ws)(h:ws.length=n+dv.length):us.length=n:=Nat.add_right_cancel ((cw.symm.trans (au List.length e)).trans h)
theorem afE:Sp vK QT 1:=λus h Q q=>by
 cases q with
 |mk e ep hl q=>exact⟨_,rfl,.own e ep (.tup hl q)⟩
theorem NV{a b:L}{h h':H}{o:O}(F:dz a b (h.upd a o) h')(f:h a=none):dz a b h h':=λl na nb w=>(F l na nb λe=>w ((H.bp na).symm.trans e)).trans (H.bp na)
theorem Sj{i:Nat}{x:Sy}{l:L}(q:zX h Q i x l):xn .dg wf [.int (i:Nat),sv x,.ref l,.tup [.str "right",.int 0],.none,.str "",.int 0] h Q:=by
 cases q with
 |mk el hb hy e1 e2 q=>exact gO (Q:=λv h'=>wf [v,.int (i:Nat),sv x,.ref l,.tup [.str "right",.int 0],.none,.str "",.int 0] h' λr bP=>r= .none/\Q v bP) (pL i) e1 (.mk (dT el e1) hb hy H.aJ (old_ne el e1) ((H.bp (bw rfl)).trans e2) λext h' na F e e'=>⟨rfl,q h' (.mk e na e') (NV F e1)⟩)
theorem ZV(q:CE us h Q):xn .item zw us h Q:=by
 cases q with
 | @mk i j x b ext pe hj hb e1 e2 q=>exact gO (Q:=λv h'=>zw [v,.ref (pL i),.int j] h' λr bP=>r= .none/\Q v bP) (iL (i,j)) e1 (.mk (dT pe e1) hj hb H.aJ ((H.bp (bw rfl)).trans e2) λext h' F e e'=>⟨rfl,q ext h' (NV F e1) e e'⟩)
noncomputable def Ef(x:Str)(f:Nat)(m:SW)(q n:Nat)(F:b6)(a:Ln F n)(b:Sp F m q):Ent:=⟨.fn x,f,m,q,n,0,0,[],[],F,F,xT a b,λ_ _ _=>rfl,λ_ _ _ z=>z⟩
noncomputable def mW(C:CN)(x:Str)(f:Nat)(m:SW)(q n:Nat)(F:b6)(a:Ln F n)(b:Sp F m q):Ent:=⟨.me C x,f,m,q,n,0,0,[],[],F,F,xT a b,λ_ _ _=>rfl,λ_ _ _ z=>z⟩
noncomputable def Cz(C:CN)(x:Str)(f:Nat)(m:SW)(q n T j:Nat)(F G:b6)(a:Ln F n)(b:Sp F m q)(w:∀us h Q,G us h Q->xn C F us h Q):Ent:=⟨.cl C x,f,m,q,n,T,j,[],[],F,G,xT a b,λ_ _ _=>rfl,w⟩
end
noncomputable def H6:List Ent:=[
 Ef "_law_states" 448 Qq 8 2 zC (λ_ _ _ q=>by cases q;rfl) λ_ _ _=>ah0,
 Ef "_law_rules" 443 Qp 13 1 CJ (λ_ _ _ q=>by cases q;rfl) λ_ _ _=>ahg,
 ⟨.cl .table "LRGeneratedTable",333,Pm,1,3,326,1,[.none],[.none],λus=>zx (us++[V.none]),CF,λus h Q q=>⟨by generalize e:us++[.none]=ws at q;cases q;exact AU e rfl,aio q⟩,λ_ _ _=>.cons rfl rfl,λ_ _ _ z=>z⟩,
 mW .table "lr_parse_table" 424 QE 32 1 zD (λ_ _ _ q=>by cases q;rfl) λ_ _ _=>aic,
 mW .table "reads_relation" 382 QW 8 4 zE (λ_ _ _ q=>by cases q;rfl) λ_ _ _=>agf,
 mW .table "dr_relation" 375 PW 6 4 CG (λ_ _ _ q=>by cases q;rfl) λ_ _ _=>XC,
 mW .table "find_nonterminal_transitions" 368 PZ 6 2 CH (λ_ _ _ q=>by cases q;rfl) λ_ _ _=>aiB,
 mW .table "compute_nullable_nonterminals" 361 PT 6 1 zB (λ_ _ _ q=>by cases q;rfl) λ_ _ _=>aeR,
 mW .table "lr0_items" 354 GM 10 1 CK (λ_ _ _ q=>by cases q;rfl) λ_ _ _=>ZZ,
 mW .table "lr0_goto" 347 GE 7 3 mY (λ_ _ _ q=>by cases q;rfl) λ_ _ _=>YZ,
 mW .table "lr0_closure" 340 GD 4 2 rO (λ_ _ _ q=>by cases q;rfl) λ_ _ _=>Xk,
 mW .dX "build_lritems" 280 PD 9 1 CM (λ_ _ _ q=>by cases q;rfl) λ_ _ _=>aaC,
 ⟨.me .dX "compute_follow",273,A6,10,1,266,0,[.none],[.none],rN,rN,λus h Q q=>⟨by unfold rN at q;generalize e:us++[.none]=ws at q;cases q<;>exact AU e rfl,Xd q⟩,λ_ _ _=>.cons rfl rfl,λ_ _ _ z=>z⟩,
 mW .dX "compute_first" 265 A5 5 1 uu (λ_ _ _ q=>by cases q<;>rfl) λ_ _ _=>Xc,
 mW .dX "_first" 258 P2 4 2 uv (λ_ _ _ q=>by cases q;rfl) λ_ _ _=>Yj,
 ⟨.me .dX "set_start",209,QZ,2,2,202,1,[],[],wh,wh,xT (λ_ _ _ q=>by cases q;rfl) λ_ _ _=>ahZ,λ_ _ _=>rfl,λ_ _ _ z=>z⟩,
 ⟨.cl .dg "Production",62,Gk,3,4,55,0,HC,[.ref 54,.none,.str "" 251,.int 0 252],λus=>wf (us++HC),JS,λus h Q q=>⟨by generalize e:us++HC=ws at q;cases q;exact AU e rfl,Ld q⟩,λX d _=>.cons ⟨54,_,rfl,X _ _ d,.cons ⟨_,rfl⟩ (.cons ⟨_,rfl⟩ rfl)⟩ (.cons rfl (.cons ⟨_,rfl⟩ (.cons ⟨_,rfl⟩ rfl))),λus h Q q=>q.elim λi q=>q.elim λx q=>q.elim λl q=>q.1.symm▸Sj q.2⟩,
 ⟨.me .dX "add_production",201,Pu,19,3,194,0,[.none,.str "",.int 0],[.none,.str "" 448,.int 0 449],zA,zA,λus h Q q=>⟨by unfold zA at q;generalize e:us++[.none,.str "",.int 0]=ws at q;cases q;exact AU e rfl,V3 q⟩,λ_ _ _=>.cons rfl (.cons ⟨_,rfl⟩ (.cons ⟨_,rfl⟩ rfl)),λ_ _ _ z=>z⟩,
 Cz .dX "Grammar" 172 Pl 2 2 0 0 zv JQ (λ_ _ _ q=>by cases q;rfl) (λ_ _ _=>Vc) λ_ _ _ z=>z,
 Cz .item "LRItem" 118 Po 3 3 0 0 zw CE (λ_ _ _ q=>by cases q;rfl) (λ_ _ _=>Vl) λ_ _ _=>ZV,
 Cz .dg "Production" 62 Gk 3 8 55 4 wf JR (λ_ _ _ q=>by cases q;rfl) (λ_ _ _=>Ld) λus h Q q=>q.elim λi q=>q.elim λx q=>q.elim λl q=>q.1.symm▸Sj q.2,
 Ef "_law_symbols" 438 Qs 2 2 mX (λ_ _ _ q=>by cases q;rfl) λ_ _ _=>aia,
 Ef "_place" 318 QS 1 1 jG (λ_ _ _ q=>(place_spec q).1) λ_ _ _ q=>(place_spec q).2,
 Ef "rightmost_terminal" 146 QY 2 2 CO (λ_ _ _ q=>(Sv q).1) λ_ _ _ q=>(Sv q).2,
 Ef "_is_identifier" 39 P8 2 1 wg (λ_ _ _ q=>(OK q).1) λ_ _ _ q=>(OK q).2,
 ⟨.ln,83,QT,1,1,0,0,[],[],vK,vK,xT (λ_ _ _ q=>by cases q;rfl) afE,λ_ _ _=>rfl,λ_ _ _ z=>z⟩]
noncomputable def aao:Ent:=Ef "law" 453 Qa 35 1 JX (λ_ _ _ q=>by cases q;rfl) λ_ _ _=>aar
noncomputable def isZero:Option (Option Value)->Bool
 |some (some (.int 0 _))=>true
 |_=>false
noncomputable def okA(K:Frag):Bool:=([CN.dX,.dg,.item,.table].all λc=>lY.all λn=>Aa K (oz c) n)&&((isZero (findIn K (.ref 100) "reduced")&&isZero (findIn K (.ref 100) "lr0_added"))&&((findIn K (.ref 135) "__bool__"==some none&&findIn K (.ref 135) "__len__"==some none)&&Bj K))
structure HF(K:Frag):Prop where
 a:okA K=true
 d:zd K
 l:Fact K (sg H6) aao
 f:Facts K H6
theorem OJ{o:Option (Option Value)}(h:isZero o=true):∃tk,o=some (some (.int 0 tk)):=by
 unfold isZero at h
 split at h
 ·exact⟨_,rfl⟩
 ·cases h
noncomputable def Ew(K:Frag)(w:World)(s:Shared)(mg mb:Str->Option Value)(lo:∃o,s.heap.get? cStatics=some o):Bk:={low:=lo,prog:=PySem.Challenge.pw_rj0001_01,w:=w,s₀:=s,K:=K,mg:=mg,mb:=mb,cls:=oz,cW:=[]}
noncomputable def vf(a:Addr)(ns:List Int):HA:=⟨λl=>if l= .ay 0 then some (.ro (ns.map .int)) else none,λ_=>a,λ_=>a⟩
section
variable{K:Frag}{w:World}{s:Shared}{lo:∃o,s.heap.get? cStatics=some o}{mg mb:Str->Option Value}{a:Addr}{vs:ao}{ns:List Int}{l:L}{o:O}
theorem jb0(H:HF K)(X:K.In s.heap)(l:s.heap.NoLimit)(g:s.heap.Ns mainGlobals mg)(b:s.heap.Ns builtinsNs mb)(bl:∀x:Str,x≠"__name__"->mb x=bootBuiltins x):JB K (Ew K w s mg mb lo):=by
 have h1:=bu H.a
 have h2:=bu h1.2
 have h3:=bu h2.2
 have z:=bu h2.1
 have t:=bu h3.1
 have no:∀x∈sD,mg x=none:=λx m=>mg_none_of X g (eq_of_beq (d5.1 (bu h3.2).1 x m))
 exact .mk (B:=Ew K w s mg mb lo) ⟨⟨⟨X,l,g,b,bl⟩,eq_of_beq t.1,eq_of_beq t.2⟩,λc n hn=>d5.1 (d5.1 h1.1 c (by cases c<;>decide)) n hn,λn hn=>hn.elim (λe=>e▸OJ z.1) λe=>e▸OJ z.2⟩ rfl (no _ (by decide+kernel)) (no _ (by decide+kernel))
theorem Ff(e:(vf a ns).c l=some o):l= .ay 0/\o= .ro (ns.map .int):=by
 have e:(if l= .ay 0 then some (O.ro (ns.map .int)) else none)=some o:=e
 split at e
 ·exact⟨by assumption,(bc e).symm⟩
 ·cases e
theorem ints_rep{h:HA}{g:Heap}(I:IntsAre vs ns):aY h g (ns.map V.int) vs:=by
 induction I with
 |nil=>exact rfl
 |cons=>exact .cons ⟨_,rfl⟩ (by assumption)
theorem Yk{B:Bk}(e:B.cW=[]):fM B true 60 callerA:=⟨by decide,by decide,rfl,λ_=>rfl,[],rfl,e▸rfl,λ_ h=>absurd h a0⟩
theorem Op:(vf a ns).c l=if l= .ay 0 then some (.ro (ns.map .int)) else none:=rfl
theorem Oo:(vf a ns).c (.ay 0)=some (.ro (ns.map .int)):=Op.trans (bz rfl)
theorem xN{b:Bool}(o:(vf a ns).on l b):l= .ay 0/\b=false:=by
 cases b with
 |false=>exact⟨ip λn=>o (bD n),rfl⟩
 |true=>exact o.elim λC z=>z.elim λas z=>O.noConfusion (Ff z).2
theorem rep0(hL:LstAt s.heap a vs.toArray 0)(I:IntsAre vs ns):aI (Ew K w s mg mb lo) (vf a ns) s:=⟨λ_ _ e=>e,λl o e=>(Ff e).2▸⟨_,_,hL,ints_rep I,au Option.isSome hL⟩,λl b e=>.inr ⟨_,bz (xN e).1⟩,λl es n e=>O.noConfusion (Ff e).2,λl b l' b' e e' _=>⟨(xN e).1.trans (xN e').1.symm,(xN e).2.trans (xN e').2.symm⟩,⟨1,λn hn=>bD λe=>jk hn (L.ay.inj e)⟩,rfl,rfl,λ_ h=>absurd h a0⟩
theorem law_call(H:HF K)(X:K.In s.heap)(l:s.heap.NoLimit)(g:s.heap.Ns mainGlobals mg)(b:s.heap.Ns builtinsNs mb)(bl:∀x:Str,x≠"__name__"->mb x=bootBuiltins x)(hL:LstAt s.heap a vs.toArray 0)(I:IntsAre vs ns)(hn:ns.length<=63){R:Result->Shared->Prop}
 (q:∀s',(∀b o,s.heap.get? b=some o->s'.heap.get? b=some o)->s'.os=s.os->s'.gens=s.gens->R (.ok (.ret (.bool true))) s'):codeAny (model PySem.Challenge.pw_rj0001_01 w) callerA (.call (.ref 453) ⟨[.ref a],[]⟩) R s:=by
 have lo:∃o,s.heap.get? cStatics=some o:=by
  obtain⟨_,⟨o,_,_,ho,_⟩,_⟩:=l
  exact⟨o,ho⟩
 have J:=jb0 (w:=w) (lo:=lo) H X l g b bl
 refine codeAny_mono (Nl (k:=59) (l:=H6) H.l H.d (λJ=>ahy (bu (bu (bu H.a).2).2).2 H.d H.f J (by decide)) J callerA (vf a ns) s (λv _=>v= .bool true) (λ_ _=>False) [.ref (.ay 0)] [.ref a] (rep0 hL I) (Yk rfl) (.cons ⟨rfl,dj Oo⟩ rfl) (.mk (ns:=ns) (.inr Oo) (aw hn (by decide)) (λt s ix=>Op.trans (bD dZ)) λh'=>rfl)) λr s' z=>?_
 cases r with
 |error e=>exact z.elim
 |ok fl=>
  cases fl with
  |ret v=>
   cases z with
   |mk v' h' r R' _ e=>
    cases e
    cases(show v= .bool true from r)
    exact q s' R'.keep R'.os R'.gens
  |_=>exact z.elim
end
theorem well_at{P:Params}{h:Heap}{a:Addr}{vs:ao}{xs:List PyData}(x:Well P h (.ref a) (ofPy (.list xs)))(hL:h.IsList a vs.toArray):LstAt h a vs.toArray 0:=by
 unfold ofPy at x
 cases x with
 |list e _=>
  obtain⟨o,ho,_,n,hd⟩:=hL
  rw [e] at ho
  cases ho
  exact(Data.seq.inj hd).1▸e
theorem useH{K:Frag}{h:Heap}{p:Prop}(X:K.In h)(H:HF K)(f:K.In h->HF K->p):p:=f X H
theorem law_at{K:Frag}(H:HF K):nsIn K mainGlobals "law"=some (some (.ref 453)):=eq_of_beq (bu (bu (bu H.l.ok).2).1).1
namespace fin
def tw10070804522480449196:=0
def tw10147658903529517814:=0
def tw10196768644732416780:=0
def tw10234915967203826555:=0
def tw10242451874928486539:=0
def tw10329872625359487480:=0
def tw1035503724928835527:=0
def tw10391319463526535247:=0
def tw10393886385942881009:=0
def tw10511823565363050587:=0
def tw10567028658651823492:=0
def tw10580198807604790814:=0
def tw10671828304227620169:=0
def tw10699407837109476802:=0
def tw10782327089294195420:=0
def tw1080700006314346644:=0
def tw10807920368746810246:=0
def tw10852849658779182186:=0
def tw10875463905939285979:=0
def tw1088692219920020602:=0
def tw10895054467252067526:=0
def tw10936777179133785780:=0
def tw10939691994893167182:=0
def tw10998343915150870288:=0
def tw11012325845432612231:=0
def tw11024638832163780183:=0
def tw11039862389202566683:=0
def tw11040825799340251285:=0
def tw1105837973531982728:=0
def tw11079828417688620724:=0
def tw111200028466390044:=0
def tw11147117730913898307:=0
def tw11151619158091525091:=0
def tw11154830654865731599:=0
def tw11192643925408225281:=0
def tw11209750170652599755:=0
def tw11227884535216515135:=0
def tw11273041486466551846:=0
def tw11293339424137598113:=0
def tw11298980531735778240:=0
def tw11336253725339858928:=0
def tw11414119711712004833:=0
def tw11414674201277728305:=0
def tw11454252539852477091:=0
def tw11575174756993882273:=0
def tw11615019562542576733:=0
def tw11897717083992391400:=0
def tw11906472874536768445:=0
def tw11953781441336167498:=0
def tw1202912048536075021:=0
def tw1209720653154232198:=0
def tw12105171945263650130:=0
def tw12118000046449163591:=0
def tw12135189313929291683:=0
def tw12149302876761508202:=0
def tw12171577908484138354:=0
def tw12180539936304867106:=0
def tw12221555665107904926:=0
def tw12237877928780879103:=0
def tw12239064139714945176:=0
def tw12284014389350100970:=0
def tw12292906935544458286:=0
def tw12355744275394475900:=0
def tw12356021495744459628:=0
def tw12409915417874342407:=0
def tw12464766053444552404:=0
def tw12494888245299231016:=0
def tw1252854909445205041:=0
def tw12550770813317053977:=0
def tw12557769604369416430:=0
def tw12580147959424536363:=0
def tw12586190556516072552:=0
def tw12612204703400128841:=0
def tw12629903358213643309:=0
def tw12649782002744950493:=0
def tw12696600883282566439:=0
def tw12711679700452659978:=0
def tw12718612220689870738:=0
def tw12740692763255036000:=0
def tw12751662967071866640:=0
def tw12780881840741157306:=0
def tw12809788781938459499:=0
def tw12829507556594621215:=0
def tw12833947400113492166:=0
def tw12847644182280273618:=0
def tw12868640280835112553:=0
def tw12876064707754696378:=0
def tw12876116671307685997:=0
def tw12962497063298326498:=0
def tw12977279227502587607:=0
def tw12996517811204074000:=0
def tw13066358836101814915:=0
def tw13093503161671486093:=0
def tw13099861788286432026:=0
def tw13119895379190043232:=0
def tw13158425560686309300:=0
def tw13162651487661262736:=0
def tw13177410634674063896:=0
def tw13199158710529813207:=0
def tw13272504610945704091:=0
def tw13294311002278339166:=0
def tw13295704053362595847:=0
def tw13326868189938593150:=0
def tw13337293482115323266:=0
def tw13360279666012451719:=0
def tw13383306551100868464:=0
def tw1338992324998018327:=0
def tw13423622936843584764:=0
def tw13467322939085005891:=0
def tw13516622038369049944:=0
def tw13523910257889291827:=0
def tw13574545013463194659:=0
def tw13643863074853702786:=0
def tw13700621096757390547:=0
def tw13724452099449386491:=0
def tw13790858721211988464:=0
def tw13815853411582834384:=0
def tw13898374239775968522:=0
def tw1390109508276135513:=0
def tw13925877587632400325:=0
def tw13929302177132474383:=0
def tw14018533915963200917:=0
def tw14109310954907245088:=0
def tw14111491100615862519:=0
def tw14134379338385194387:=0
def tw14139026862911339306:=0
def tw14166196953294261902:=0
def tw1422313219903470601:=0
def tw14239432107786713131:=0
def tw14254621764821748828:=0
def tw14431720936831517352:=0
def tw14449560505687523246:=0
def tw14497727239971306367:=0
def tw1450881378762983150:=0
def tw14541005305830221311:=0
def tw14560573928864763818:=0
def tw14568449535678555946:=0
def tw14574801432027512755:=0
def tw14578271805448956485:=0
def tw14637358334870819178:=0
def tw14658254696389335927:=0
def tw14679806638718605512:=0
def tw14786503066443513839:=0
def tw14814673180317915700:=0
def tw14838103818555229697:=0
def tw14855157385224911753:=0
def tw14856888987745899463:=0
def tw15069271281064182630:=0
def tw15083174532876359662:=0
def tw15094949803261831281:=0
def tw15144710454662140524:=0
def tw15201286185872193147:=0
def tw15225332579556243176:=0
def tw15234240111613058569:=0
def tw15309079848183770524:=0
def tw1535588207084551279:=0
def tw15373703851562958014:=0
def tw15399907426655090358:=0
def tw15434440284735832900:=0
def tw1544503264643628384:=0
def tw1545086475593560577:=0
def tw15476544859757588837:=0
def tw15523922138108190246:=0
def tw15564276425815640635:=0
def tw15583698165555649274:=0
def tw15590172107835277464:=0
def tw1560641971993327685:=0
def tw15621619335703214680:=0
def tw15675102808854859970:=0
def tw15688172546075569117:=0
def tw15815952407149668801:=0
def tw15913912297419572864:=0
def tw15942684835789789487:=0
def tw15989303212955285315:=0
def tw16103849850496634939:=0
def tw16115155874713506467:=0
def tw1613116972386908190:=0
def tw16196181902256332553:=0
def tw16205109500356779066:=0
def tw16229209127682248589:=0
def tw16237762584071213788:=0
def tw1625080806587739848:=0
def tw16252508478716706905:=0
def tw16256441300576474876:=0
def tw16269368082590959529:=0
def tw16275787546110486726:=0
def tw16285329926789087883:=0
def tw16307707646766795581:=0
def tw1635022588487117616:=0
def tw16401934584784274106:=0
def tw16448676403291746579:=0
def tw16488607150827929282:=0
def tw16496857829328116044:=0
def tw16502652511500755:=0
def tw16503470079419688546:=0
def tw16510490156224867327:=0
def tw16530489862217454893:=0
def tw16540275574145912595:=0
def tw16570786720924097770:=0
def tw16584127079891442865:=0
def tw16598111837705310476:=0
def tw16656299143469825513:=0
def tw16708981103961760564:=0
def tw16798467561266328274:=0
def tw16867096813858660809:=0
def tw16903924287465469464:=0
def tw16906536467411238026:=0
def tw16934629359412608497:=0
def tw16958243865122950064:=0
def tw17067295170570645592:=0
def tw17108682257543074861:=0
def tw17109930996152030393:=0
def tw17123178472405020103:=0
def tw17130245016438642246:=0
def tw1713156846745171867:=0
def tw17132207802985990308:=0
def tw17164383140453370395:=0
def tw17186005699333237546:=0
def tw17197158672614542318:=0
def tw17204297501091165112:=0
def tw17260493314774615805:=0
def tw17311274769643918242:=0
def tw17347454772498655404:=0
def tw17362494058136835672:=0
def tw17416127249078093707:=0
def tw17425937995043322649:=0
def tw17430205856086898164:=0
def tw17449020081951674710:=0
def tw17495881415371897999:=0
def tw17512474026176034454:=0
def tw17570509445847580414:=0
def tw17570709534508481193:=0
def tw17628183408451194143:=0
def tw17637551073024348614:=0
def tw17656766251404061198:=0
def tw17662344363894024548:=0
def tw17698704350827878285:=0
def tw17701328389417463424:=0
def tw17743408960866722510:=0
def tw17744370242668122805:=0
def tw17748852888720816928:=0
def tw17784850919643140607:=0
def tw17861066769153400444:=0
def tw17869975865946814897:=0
def tw17896612028031085017:=0
def tw17933470926392208243:=0
def tw17963964198891936676:=0
def tw17971676594858020690:=0
def tw17974384156558142227:=0
def tw18087328562809068087:=0
def tw18090638684418866784:=0
def tw18105285910621931680:=0
def tw18105942590061964161:=0
def tw18164189302063226315:=0
def tw1819255440876223710:=0
def tw18195182924450695511:=0
def tw18196963001588881180:=0
def tw18230178534529381785:=0
def tw18255404467826089762:=0
def tw18295790063311454060:=0
def tw1903126291601959907:=0
def tw1921391257341544841:=0
def tw1951045429614898598:=0
def tw1976505206021243879:=0
def tw1982079694162106894:=0
def tw2067723777617599883:=0
def tw2086631506510373192:=0
def tw2090205506522743130:=0
def tw2103456241558337223:=0
def tw216489041496292469:=0
def tw220677088936066577:=0
def tw2236755162388048479:=0
def tw2304379251839397102:=0
def tw2305881189932309285:=0
def tw2316539691658765527:=0
def tw2321816554428607280:=0
def tw2367325634123391141:=0
def tw2377308710366028375:=0
def tw2415902012162501839:=0
def tw2462912638960843985:=0
def tw2503846163805864124:=0
def tw2512408688544751470:=0
def tw2537931557510868981:=0
def tw2565351972500760935:=0
def tw2568082538462786552:=0
def tw2608567993692976607:=0
def tw2617349483901765261:=0
def tw2656788454239962097:=0
def tw2671655128345628175:=0
def tw2711489104339610207:=0
def tw2775396313129547428:=0
def tw2789213428527533208:=0
def tw2824846461999071874:=0
def tw2866121171748074186:=0
def tw2885147992704089249:=0
def tw2896703901015224195:=0
def tw2910385600587045654:=0
def tw2976117146107443816:=0
def tw3004984022683251337:=0
def tw3008263204520378139:=0
def tw3029852977388229646:=0
def tw3068093802996824870:=0
def tw3093831735333795905:=0
def tw3105451386036433885:=0
def tw3112429581023547943:=0
def tw3125960719983571848:=0
def tw3173534031939492945:=0
def tw3199103547748192838:=0
def tw3211687289105081006:=0
def tw3222278782482380304:=0
def tw3293696948919318046:=0
def tw3302319216010004292:=0
def tw3314143786362844604:=0
def tw333583748066197110:=0
def tw3343445320678177929:=0
def tw3404873503106905745:=0
def tw3432132637015033673:=0
def tw3456623496861543869:=0
def tw3459265974087741279:=0
def tw3506512066687448480:=0
def tw3550807849831375056:=0
def tw3598329298470268980:=0
def tw3683778510129048087:=0
def tw373065315874586923:=0
def tw3762306804915933987:=0
def tw3788772014149755174:=0
def tw3794220679723124481:=0
def tw380778119907437045:=0
def tw3810570522144960214:=0
def tw3812028171767442716:=0
def tw3837020019201816242:=0
def tw3857263333814641470:=0
def tw3863403702602939814:=0
def tw3885313090954376144:=0
def tw3955986520655104412:=0
def tw3974152918291533672:=0
def tw3998398428148030388:=0
def tw4043148821406017626:=0
def tw4100293265295638779:=0
def tw4144819383078699286:=0
def tw4162185377826839926:=0
def tw4170516301191304579:=0
def tw4171678462856256454:=0
def tw4180101509539245183:=0
def tw4209717502836232480:=0
def tw4218790737952374519:=0
def tw423345284130997744:=0
def tw4265850918314828415:=0
def tw428092273266315144:=0
def tw4312942655851389009:=0
def tw4395496475954998127:=0
def tw4424551920762525699:=0
def tw4443050520305737185:=0
def tw452842511749404161:=0
def tw4598667867955821814:=0
def tw4613182775407389354:=0
def tw4640724917100965312:=0
def tw4719063310657182621:=0
def tw4723787954990577340:=0
def tw4754365596532378047:=0
def tw4759752924163587094:=0
def tw4788878847521262168:=0
def tw479971921054034720:=0
def tw4806268862455609328:=0
def tw480829909506669009:=0
def tw4868334931027891882:=0
def tw4878226113927451544:=0
def tw4879674094562380441:=0
def tw4898026214463823928:=0
def tw4928979718650693569:=0
def tw4950403968356008110:=0
def tw4992356995671143779:=0
def tw500868675978126160:=0
def tw5011121235533021005:=0
def tw5071919506433949198:=0
def tw5073790198343104882:=0
def tw5098551885099359569:=0
def tw5102460946473063141:=0
def tw5106123347721008290:=0
def tw5115476493328737885:=0
def tw5196160543931855155:=0
def tw520194297998822909:=0
def tw5227809002895711924:=0
def tw5266742908149448401:=0
def tw5320702786494000081:=0
def tw5402249366112354979:=0
def tw544173102793226557:=0
def tw5486226609284752418:=0
def tw5555312102172926907:=0
def tw5634151482396758240:=0
def tw5647864574477489665:=0
def tw5678346346211369953:=0
def tw5679570950571409650:=0
def tw5734618986648460908:=0
def tw5776136370200156792:=0
def tw5792265106169080782:=0
def tw5796354222422608987:=0
def tw5805905742469029177:=0
def tw5886281255703265246:=0
def tw5897612983314593646:=0
def tw5901363791540438844:=0
def tw5962627729488381771:=0
def tw60464790676949430:=0
def tw6058378993454661626:=0
def tw6068950659093879613:=0
def tw6081921254191324426:=0
def tw6127190174262240918:=0
def tw612862322836996645:=0
def tw6144012678527597917:=0
def tw6207176494656529804:=0
def tw6214469639950668122:=0
def tw6289197191216398940:=0
def tw6323506392446703087:=0
def tw6341822008880759003:=0
def tw6380807493870290408:=0
def tw6381419901266130222:=0
def tw6385529401280152062:=0
def tw6388184931127306564:=0
def tw6400248389586479577:=0
def tw6435670951450185984:=0
def tw6454446336052903152:=0
def tw6455845175183424153:=0
def tw6462460787818161330:=0
def tw6474043946942992101:=0
def tw6498334528663615478:=0
def tw6515953530934532768:=0
def tw6525817661751114472:=0
def tw6531376189190222733:=0
def tw6566618420281934:=0
def tw6567050819087999508:=0
def tw6577878126316647860:=0
def tw6650461044873433052:=0
def tw6667815254911646788:=0
def tw670465573061467203:=0
def tw6707113841082798463:=0
def tw6712194924023145494:=0
def tw6718411051458867188:=0
def tw6766378078585498003:=0
def tw6766580051018981234:=0
def tw6815667921103612162:=0
def tw6846200578177281708:=0
def tw6855842070160138184:=0
def tw6878024787957991413:=0
def tw6956187926921108005:=0
def tw6968583824967984638:=0
def tw7000300075881102575:=0
def tw7021976415091001641:=0
def tw7028063314416541132:=0
def tw7055459427971326715:=0
def tw7070210977369740762:=0
def tw7249652514872940865:=0
def tw7282745182861764756:=0
def tw7321584467024264148:=0
def tw7334248845499685764:=0
def tw7336344344812659824:=0
def tw7380833856163905736:=0
def tw744865244796547220:=0
def tw7451905468542833597:=0
def tw7468727024169554154:=0
def tw7470013935711676318:=0
def tw7522001649326652513:=0
def tw7547296005191728479:=0
def tw757079261281740938:=0
def tw7613857476909055813:=0
def tw7613945582906998725:=0
def tw7661832156752021035:=0
def tw7675655780812522254:=0
def tw7684487725183542926:=0
def tw7716820226725407877:=0
def tw7773504467932542270:=0
def tw7779959011674639804:=0
def tw7822013112032934038:=0
def tw7830602891274557492:=0
def tw7830629276484211593:=0
def tw783483362715066742:=0
def tw7844069586390513008:=0
def tw7890596953891613788:=0
def tw7929640520542984453:=0
def tw7930893340574950883:=0
def tw7976502392129159676:=0
def tw799341379326975648:=0
def tw7995362448368537469:=0
def tw8004206274103572539:=0
def tw8018989035897545986:=0
def tw8025084765662995669:=0
def tw8088732932480780420:=0
def tw8119881530291889089:=0
def tw8126443298418566877:=0
def tw824797018042769846:=0
def tw8269367382603917829:=0
def tw8272817396058243321:=0
def tw8281523328739849912:=0
def tw8289400949097046189:=0
def tw8330952907988395303:=0
def tw8331973007464152698:=0
def tw8341379788284533268:=0
def tw8352470293576582857:=0
def tw8383268338085895543:=0
def tw8399098705505230059:=0
def tw846297522682114974:=0
def tw8472697214298850164:=0
def tw8559517257967667466:=0
def tw857469055436470443:=0
def tw8577089030196625639:=0
def tw8590288500278120515:=0
def tw8614737586434602478:=0
def tw862447977868951606:=0
def tw8643116662766533202:=0
def tw8656503046869711584:=0
def tw8668149382578428375:=0
def tw876206183137641144:=0
def tw8776770756819070316:=0
def tw884059145510264010:=0
def tw8896352889252549814:=0
def tw891787732878383699:=0
def tw8919302590299486024:=0
def tw8999559765510592377:=0
def tw9001875181463519149:=0
def tw9059937348426287209:=0
def tw9113340658982188547:=0
def tw9221430085559818832:=0
def tw9247658263007524724:=0
def tw9260378047223084069:=0
def tw9297318355482256503:=0
def tw9357874355931990178:=0
def tw9363291351745731410:=0
def tw9387745189664136937:=0
def tw9445451236469955387:=0
def tw947738991271757153:=0
def tw9509447333196811905:=0
def tw9524518906428321964:=0
def tw9544026089342320630:=0
def tw9659392335347125073:=0
def tw9712136527352899355:=0
def tw9722632081671974098:=0
def tw9725021084223525626:=0
def tw9735714214384596553:=0
def tw9746901515087519452:=0
def tw9757074474933493440:=0
def tw9806666330580929782:=0
def tw982560976839675504:=0
def tw9825859731914700964:=0
def tw9839346839192117915:=0
def tw9917203430921899224:=0
def tw9962418760945406050:=0
def tw9997704412844104603:=0
def tw999798209818781672:=0
end fin
set_option Elab.async true
set_option maxRecDepth 100000
set_option maxHeartbeats 8000000
theorem fin : PySem.Challenge.rw_rj0001_01.Holds := by
  (w_on; o_law; k_head; (case hw => w_witness2))
  intro w s₀ s₁ mg mb G Y fa o pm cd doc dV kV ho hd hcd hD hmg hg args vals as hpre hlay hrd hwl hlo
  have T := G.T
  refine useH (km_in_of Y) ?_ fun KX H => ?_
  · refine ⟨by kernel_rfl, by kernel_rfl, ⟨by kernel_rfl, fun _ _ _ => by kernel_rfl, by (repeat intro _); show _ = _; kernel_rfl⟩, ?_⟩
    repeat (refine And.intro ⟨by kernel_rfl, fun _ _ _ => by kernel_rfl, by (repeat intro _); show _ = _; kernel_rfl⟩ ?_)
    exact trivial
  clear Y hd hcd hD ho G
  wrow_args hpre hlay hrd hwl hlo
  rename_i ns _ _ _ _ _ _ _ a vs _ hL _ w1 _ hI _ hcd _
  have e := mg_of KX T.g (law_at H)
  have hmg : mg (Str.ofString "law") = some (.ref fa) := hmg
  obtain rfl : 453 = fa := Value.ref.inj (Option.some.inj (e.symm.trans hmg))
  refine enter_call ?_
  refine law_call H KX T.nolimit T.g T.b T.builtins (well_at w1 hL) hI (by omega) fun s' kp ho hg' => ?_
  refine ⟨.inl ⟨.bool true, .bool true, [], rfl, fun _ => rfl, .bool true, ?_, fun _ => ⟨List.nodup_nil, nofun⟩⟩, .of_keep kp, ho, .of_eq (hg'.trans hg)⟩
  wrow_post
end Mine
theorem PySem.Challenge.cw_rj0001_01_holds : PySem.Challenge.rw_rj0001_01.Holds :=
  Mine.fin
