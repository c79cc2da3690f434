import PyProof.Rows.All
import Wide.All
import OpenK.AllK
import Wide.FinOn
import Lean
import PySem.Challenge.RW_ij0212_01
open PySem PySem.W PyProof.Rows
set_option Elab.async false
set_option maxRecDepth 100000
set_option linter.all false
namespace Mine
def aa:=@PySem.wpAny_bind
def ae:=@PySem.wpAny_pure
def af:=@List.length_append
def ah:=@List.mem_cons_of_mem
def aj:=@List.mem_cons_self
def ao:=@PySem.wpAny_mono
def aq:=@List.length_cons
def au:=@List.mem_append
def ay:=@List.getElem?_eq_getElem
def az:=@List.lookup_cons
def aA:=@List.mem_singleton
def aB:=@PySem.Heap.get?_push_of_some
def aC:=@if_neg
def aD:=@if_pos
def aG:=@List.length_map
def aI:=@List.mem_append_left
def aJ:=@Nat.le_refl
def aK:=@List.mem_cons
def aO:=@List.size_toArray
def aP:=@beq_eq_false_iff_ne
def aQ:=@PySem.wpAny_holding
def aR:=@List.mem_map
def aS:=@List.map_cons
def aT:=@List.getD_eq_getElem?_getD
def aV:=@List.length_set
def aW:=@List.mem_append_right
def aX:=@List.append_nil
def aY:=@List.getElem?_append_right
def aZ:=@PySem.Heap.get?_push_size
def bc:=@List.append_assoc
def bl:=@List.flatten_cons
def bo:=@PySem.wpAny_of_eq
def bq:=@List.map_append
def bw:=@List.getElem_mem
def bx:=@List.getElem?_eq_some_iff
def bA:=@List.nodup_cons
def bB:=@List.mem_of_getElem?
def bG:=@List.cons_append
def bL:=@Bool.false_ne_true
def bN:=@PySem.builtinLookup_eq_fast
def bO:=@List.length_nil
def bS:=@List.pairwise_cons
def bT:=@List.nodup_append
def bU:=@Bool.false_eq_true
def bV:=@Option.some.inj
def bW:=@Nat.zero_le
def cj:=@beq_self_eq_true
def ck:=@List.getElem?_toArray
def cx:=@List.getElem?_map
def cy:=@Nat.le_trans
def cz:=@PySem.Heap.get?_update_self
def cB:=@Nat.add_sub_cancel_left
def cE:=@List.getElem?_eq_none_iff
def cF:=@List.getElem?_append_left
def cG:=@Bool.and_eq_true
def cH:=@decide_eq_true
def cJ:=@Option.isSome_iff_exists
def cN:=@PySem.typeLookup_type
def c6:=@PySem.Value.type.inj
def c7:=@PySem.wpAny_standAt
def c8:=@List.sum_cons
def c9:=@List.drop_length
def dc:=@List.map_congr_left
def de:=@List.filterMap_cons
def dg:=@congrArg
def dh:=@List.mem_range
def dq:=@Nat.lt_succ_self
def du:=@Nat.lt_of_succ_lt_succ
def dw:=@List.perm_middle
def dD:=@PySem.wpAny_loadPart_at
def dE:=@of_decide_eq_true
def dF:=@Ne.symm
def dG:=@List.length_singleton
def dQ:=@PySem.wpAny_specialOf
def dS:=@PySem.wpAny_ite_false
def dU:=@PySem.codeAny_mono
def dW:=@Nat.ne_of_lt
def dX:=@List.forIn_cons
def dY:=@PySem.Heap.lt_size
def dZ:=@PySem.wpAny_load
def d4:=@List.mem_filterMap
def d6:=@PySem.wpAny_callSpecial?_slot
def d7:=@List.length_drop
def d8:=@List.getElem?_cons_succ
def d9:=@List.forall_mem_cons
def ee:=@List.all_eq_true
def eC:=@decide_eq_true_eq
def eD:=@List.map_map
def eG:=@List.forIn_nil
def eH:=@Int.toNat_natCast
def eJ:=@Array.toList_append
def eN:=@List.nil_append
def eO:=@List.pairwise_iff_getElem
def eR:=@PySem.wpAny_execs_cons
def eT:=@Nat.lt_of_le_of_lt
def fy:=@PySem.getMethod_builtin
def fA:=@List.foldl_append
def fB:=@Nat.not_lt_zero
def fH:=@List.forall_mem_nil
def fO:=@PySem.Expr.IfExp.sizeOf_spec
def fV:=@PySem.wpAny_call_entry
def fW:=@Option.bind_some
def fX:=@List.filter_cons
def gx:=@List.mem_filter
def gB:=@PySem.wpAny_newObj_type
def gF:=@PySem.wpAny_field
def gH:=@if_false
def gI:=@List.mem_of_mem_drop
def gQ:=@PySem.wpAny_call
def gR:=@PySem.wpAny_attempt
def gT:=@beq_iff_eq
def hH:=@List.getElem_of_mem
def hJ:=@List.dropWhile_cons
def hM:=@PySem.Heap.SameBut.update
def ia:=@decide_eq_false_iff_not
def iw:=@PySem.sizeLine_eq
def iB:=@PySem.wpAny_mkText
def iC:=@PySem.slot_listiter_next
def iD:=@PySem.Obj.data_mapFields
def iE:=@PySem.Heap.get?_update_other
def iP:=@List.foldl_cons
def iQ:=@Bool.or_eq_true
def iX:=@List.cons.sizeOf_spec
def i9:=@List.pairwise_map
def jt:=@PySem.isSubtype_type
def ju:=@PySem.Expr.Subscript.sizeOf_spec
def jw:=@decide_eq_decide
def jx:=@Nat.sub_self
def jB:=@List.replicate_succ
def jC:=@Array.length_toList
def jL:=@PySem.Expr.Compare.sizeOf_spec
def jM:=@if_true
def jV:=@PySem.wpAny_rule
def j0:=@PySem.wpAny_nsGet
def j1:=@Nat.le_succ
def j2:=@List.length_eq_zero_iff
def kL:=@PySem.wpAny_truthy_bool
def kM:=@List.reverse_cons
def kN:=@List.nodup_nil
def k8:=@PySem.Obj.isFreed_of_fields
def k9:=@List.mem_iff_getElem?
def la:=@List.filterMap_eq_map
def lh:=@PySem.Expr.Call.sizeOf_spec
def lG:=@Nat.succ_le_succ
def lH:=@List.not_mem_nil
def lI:=@PyProof.Rows.listUpdate_at
def lU:=@PySem.Obj.data_mapDictKeys
def lV:=@Int.le_refl
def mB:=@PyProof.Rows.get?_update_seq
def mC:=@decide_eq_false
def mD:=@PySem.codeAny_builtin
def mN:=@PySem.wpAny_specialOf_val
def mW:=@PySem.W.looks_findIn
def nH:=@PySem.wpAny_setField
def nI:=@PySem.wpAny_newTuple
def nJ:=@Nat.mul_le_mul
def nK:=@PySem.Expr.Attribute.sizeOf_spec
def nM:=@Bool.false_and
def oa:=@List.getLast?_eq_getElem?
def oE:=@PySem.wpAny_sequenceKey
def oG:=@PySem.slot_list_getitem
def oH:=@bne_self_eq_false
def o9:=@PySem.wpAny_newList
def pa:=@Nat.lt_irrefl
def pe:=@List.all_cons
def pf:=@Bool.or_false
def pg:=@Bool.not_true
def ql:=@PySem.wpAny_askSetting
def qn:=@Option.some.sizeOf_spec
def qo:=@PySem.W.X.Mem.start
def qp:=@Bool.not_eq_true
def qW:=@List.take_of_length_le
def qX:=@List.map_nil
def qY:=@List.getElem?_set_self
def qZ:=@PySem.Expr.Slice.sizeOf_spec
def rY:=@List.set_append_right
def rZ:=@List.length_filter_le
def r4:=@List.filterMap_append
def r5:=@List.contains_iff_mem
def r6:=@Array.getElem?_toList
def uy:=@PySem.wpAny_loadPart
def uz:=@PySem.wpAny_alloc
def uA:=@PySem.codeAmong_snoc
def uB:=@PySem.TriplesOk_snoc
def uC:=@PySem.Stmt.Try.sizeOf_spec
def uD:=@List.pairwise_append
def uE:=@List.getLast?_concat
def uG:=@List.getElem?_set_ne
def u5:=@PySem.entry_listiter_next
def u6:=@bne_eq_false_iff_eq
def u7:=@PySem.Obj.isFreed_of_dict
def u9:=@List.toList_toArray
def vb:=@List.length_pos_iff
def wa:=@PySem.wpAny_release
def wc:=@List.nil_perm
def wd:=@List.any_cons
def xu:=@of_decide_eq_false
def xv:=@bne_iff_ne
def xx:=@List.filter_append
def xA:=@PySem.F.ks_slot_super_ga
def zk:=@PySem.wpAny_Assign_Name
def zl:=@Option.isSome_map
def zm:=@Nat.lt_trichotomy
def zo:=@Nat.le_succ_of_le
def zp:=@List.length_range
def zq:=@List.getElem?_set
def zr:=@List.find?_isSome
def zt:=@Bool.true_or
def Bn:=@List.mem_flatten
def Bo:=@List.eq_nil_iff_forall_not_mem
def Bq:=@List.countP_cons
def CG:=@PySem.wpAny_point
def CH:=@PyProof.Rows.seqEpoch_at
def Eu:=@PySem.codeAny_of_tree
def Ew:=@List.find?_cons
def Ex:=@PySem.Comprehension.mk.sizeOf_spec
def EV:=@PySem.wpAny_richCompare_same_room
def EW:=@Array.getD_eq_getD_getElem?
def HH:=@PySem.wpAny_seqItems
def HI:=@PySem.wpAny_fieldsOf
def HJ:=@PySem.Heap.size_push
def HK:=@Bool.and_false
def HL:=@Array.perm_iff_toList_perm
def Ic:=@List.drop_eq_getElem_cons
def Ie:=@PySem.Expr.ListComp.sizeOf_spec
def Ig:=@PySem.Calls.call_function_entry
def Ih:=@Array.getElem?_eq_getElem
def JX:=@PySem.wpAny_onRaise
def JY:=@List.length_filterMap_le
def JZ:=@PySem.Expr.UnaryOp.sizeOf_spec
def J0:=@Bool.false_or
def J1:=@Bool.and_true
def Le:=@PySem.wpAny_listSubscript_int
def Lf:=@PySem.not_mem_of_findIdx_none
def Lg:=@List.pairwise_singleton
def Lh:=@List.mem_singleton_self
def Li:=@PySem.Expr.BoolOp.sizeOf_spec
def Nz:=@PyProof.Rows.listItems_at
def NA:=@PySem.W.handedOut_of
def NB:=@PySem.Stmt.While.sizeOf_spec
def NC:=@Nat.ne_of_gt
def ND:=@Nat.mul_succ
def NF:=@List.drop_of_length_le
def NI:=@List.Pairwise.imp₂
def NK:=@PySem.Expr.BinOp.sizeOf_spec
def NM:=@Array.getElem?_eq_none
def Oy:=@PySem.wpAny_pyIter_listiter
def Oz:=@PySem.wpAny_notOrdered_dict
def OA:=@PySem.codeAny_call_function
def OB:=@List.sizeOf_lt_of_mem
def OC:=@List.perm_append_comm
def OD:=@Bool.and_eq_false_iff
def Ro:=@PySem.wpAny_updateDictKeys
def Rp:=@PySem.wpAny_throw
def Rq:=@PyProof.Rows.tail_any
def Rr:=@or_false
def Rt:=@decide_true
def Ru:=@PySem.Stmt.For.sizeOf_spec
def Rv:=@Nat.add_mul
def Rw:=@PySem.W.Looks.ld
def Rx:=@List.set_append_left
def Ry:=@List.dropLast_concat
def Rz:=@Array.size_replicate
def RA:=@PySem.Around.under_plainId
def S6:=@PySem.Stmt.If.sizeOf_spec
def S7:=@List.filter_sublist
def S8:=@List.filter_eq_self
def S9:=@PySem.Heap.get?_update_ne
def W6:=@PySem.wpAny_Constant_str
def W7:=@not_or
def W8:=@PySem.W.ks_loadName_global
def W9:=@PySem.execs_cons
def Xa:=@decide_eq_true_iff
def Xb:=@PySem.call_meets
def Xc:=@PySem.args_listiter_next
def Xd:=@Nat.not_lt
def Xe:=@Nat.lt_of_lt_of_le
def Xf:=@List.forIn_toArray
def Xg:=@List.contains_cons
def Xh:=@Array.forIn_toList
def Zc:=@PySem.wpAny_truthy_list
def Zd:=@PySem.wpAny_pyIter_list
def Ze:=@PySem.wpAny_dictFind_of
def Zf:=@PySem.wpAny_collect_seq
def Zg:=@PySem.slot_list_setitem
def Zh:=@PySem.slot_dict_setitem
def Zi:=@Nat.lt_succ_of_lt
def Zj:=@List.contains_nil
def Zk:=@Decidable.not_not
def Zm:=@Array.size_append
end Mine
namespace Mine
open PySem.W.X
variable {o:Obj} {Q:Unit->Shared->Prop} {a:Addr} {β:Type} {s:Shared} {name:Str} {r:Option Value} {prog:Program} {w:World} {A:Around} {E:Value->Shared->Prop} {h h':Heap} {g:Array GenState} {d:Drawn} {t:Nat} {os:OsState} {b:List Value}
variable {init:β}
structure Halt (p:Prop):Prop where
 h:p
section
variable {α:Type} {prog:Program} {w:World} {M:Model} {A:Around} {E:Value->Shared->Prop} {h₀ h:Heap} {g:Array GenState} {d:Drawn} {t:Nat} {os:OsState} {chg news:List (Addr×Obj)}
theorem sx{Q:Addr->Shared->Prop} (D:Mem h₀ h chg news) (hf:o.isFreed=false) (x:∀a h',Mem h₀ h' chg ((a,o)::news)->Q a ⟨h',g,d,t,os⟩):wpAny M A (alloc o) Q E ⟨h,g,d,t,os⟩:=
 uz (x _ _ (D.alloc hf))
theorem ke{q:Option Value} {f:Obj->Obj} (i:Nat) (D:Mem h₀ h chg news) (hi:news[i]? =some (a,o)) (hf:(f o).isFreed=false)
  (x:∀h',Mem h₀ h' chg (news.set i (a,f o))->Q () ⟨h',g,d,t,os⟩):wpAny M A (updatePart a q f) Q E ⟨h,g,d,t,os⟩:=
 wpAny_updatePart (D.at i a o hi) (x _ (D.update hi hf))
theorem wg{q:Option Value} {Q:Obj->Shared->Prop} (i:Nat) (D:Mem h₀ h chg news) (hi:news[i]? =some (a,o)) (x:Q o ⟨h,g,d,t,os⟩):wpAny M A (loadPart a q) Q E ⟨h,g,d,t,os⟩:=dD (D.at i a o hi) x
theorem zH{q:Option Value} {Q:Obj->Shared->Prop} (e:h₀.get? a=some o) (D:Mem h₀ h chg news) (hq:(hasCls o||away chg a)=true) (x:Q o ⟨h,g,d,t,os⟩):wpAny M A (loadPart a q) Q E ⟨h,g,d,t,os⟩:=dD (D.old a o e hq) x
theorem iH{x:α} {xs:List α} {f:α->β->Sem (ForInStep β)} {Q:β->Shared->Prop}
  (y:wpAny M A (f x init>>=λr=>match r with| .done b=>Pure.pure b| .yield b=>forIn xs b f) Q E s):wpAny M A (forIn (x::xs) init f) Q E s:=by
 rw[dX];exact y
theorem lY{f:α->β->Sem (ForInStep β)} {Q:β->Shared->Prop}
  (y:Q init s):wpAny M A (forIn ([]:List α) init f) Q E s:=by
 rw[eG];exact ae y
theorem mZ{l:List α} {x:α} {xs:List α} {f:α->β->Sem (ForInStep β)} {Q:β->Shared->Prop} (e:l=x::xs)
  (y:wpAny M A (f x init>>=λr=>match r with| .done b=>Pure.pure b| .yield b=>forIn xs b f) Q E s):wpAny M A (forIn l init f) Q E s:=by
 subst e;exact iH y
theorem lZ{l:List α} {f:α->β->Sem (ForInStep β)} {Q:β->Shared->Prop} (e:l=[])
  (y:Q init s):wpAny M A (forIn l init f) Q E s:=by
 subst e;exact lY y
theorem sv{Q:Obj->Shared->Prop} (i:Nat) (D:Mem h₀ h chg news) (hi:news[i]? =some (a,o)) (x:Q o ⟨h,g,d,t,os⟩):wpAny M A (load a) Q E ⟨h,g,d,t,os⟩:=dZ (D.at i a o hi) x
theorem Ip{Q:Obj->Shared->Prop} (e:h₀.get? a=some o) (D:Mem h₀ h chg news) (hq:(hasCls o||away chg a)=true) (x:Q o ⟨h,g,d,t,os⟩):wpAny M A (load a) Q E ⟨h,g,d,t,os⟩:=dZ (D.old a o e hq) x
theorem lX{f:Obj->Obj} (i:Nat) (D:Mem h₀ h chg news) (hi:news[i]? =some (a,o)) (hf:(f o).isFreed=false)
  (x:∀h',Mem h₀ h' chg (news.set i (a,f o))->Q () ⟨h',g,d,t,os⟩):wpAny M A (update a f) Q E ⟨h,g,d,t,os⟩:=
 wpAny_update (D.at i a o hi) (x _ (D.update hi hf))
theorem zJ{l:Addr} {vs:List Value} {Q:List Value->Shared->Prop} (D:Mem h₀ h chg news) (hl:h.IsList l vs.toArray) (hsz:vs.length<=sizeLine) (x:∀a h' o,Mem h₀ h' chg ((a,o)::news)->Q vs ⟨h',g,d,t,os⟩):
  wpAny (model prog w) A (collect (.ref l)) Q E ⟨h,g,d,t,os⟩:=by
 refine collect_list (s:=⟨h,g,d,t,os⟩) hl ?_ hsz;have D1:=D.alloc (o:=seqObj "list" #[] 0) rfl;have D2:=D1.update (i:=0) (f:=Obj.mapSeq (· ++vs.toArray)) rfl rfl;exact x _ _ _ D2
theorem dz{Q:Option Value->Shared->Prop} (i:Nat) (D:Mem h₀ h chg news) (hi:news[i]? =some (a,o)) (e:nsLook name o=pure r) (x:Q r ⟨h,g,d,t,os⟩):wpAny M A (nsGet a name) Q E ⟨h,g,d,t,os⟩:=by
 unfold nsGet;exact aa (dD (D.at i a o hi) (bo e x))
theorem J4{Q:Option Value->Shared->Prop} (ho:h₀.get? a=some o) (D:Mem h₀ h chg news) (hq:(hasCls o||away chg a)=true) (e:nsLook name o=pure r) (x:Q r ⟨h,g,d,t,os⟩):wpAny M A (nsGet a name) Q E ⟨h,g,d,t,os⟩:=by
 unfold nsGet;exact aa (dD (D.old a o ho hq) (bo e x))
theorem E8{o':Obj} {Q:Bool->Shared->Prop} (i:Nat) (D:Mem h₀ h chg news) (hi:news[i]? =some (a,o)) (e:nsHas name o=pure true) (e':Obj.dropName name o=o') (hf:o'.isFreed=false)
  (x:∀h',Mem h₀ h' chg (news.set i (a,o'))->Q true ⟨h',g,d,t,os⟩):wpAny M A (nsDel a name) Q E ⟨h,g,d,t,os⟩:=by
 unfold nsDel;refine aa (dD (D.at i a o hi) (aa (bo e ?_)));rw[aD rfl];refine aa (ke i D hi (by rw[e'];exact hf) λh' D'=> ?_);rw[e']at D';exact ae (x h' D')
theorem xG{es:Array DictEntry} {n:Nat} {v:Value} {o':Int->Tok->Obj} (i:Nat) (D:Mem h₀ h chg news) (hi:news[i]? =some (a,o)) (hd:o.data= .dict es n) (e:aRefKeyMayBeTheName name es=false)
  (e':∀H T,Obj.putName name H (.str name T) v o=o' H T) (hf:∀H T,(o' H T).isFreed=false)
  (x:∀H T h' t',Mem h₀ h' chg (news.set i (a,o' H T))->Q () ⟨h',g,d,t',os⟩):wpAny M A (nsSet a name v) Q E ⟨h,g,d,t,os⟩:=by
 unfold nsSet strHash;refine aa (aa (ql (ae ?_)));refine aa (iB (aa (dD (D.at i a o hi) ?_)));rw[hd];dsimp only;rw[e,aC (by decide)];refine aa (ae ?_);refine ke i D hi (by rw[e'];exact hf _ _) λh' D'=> ?_;rw[e']at D';exact x _ _ h' _ D'
theorem rM{es:Array DictEntry} {n:Nat} {v:Value} {o':Int->Tok->Obj} (i:Nat) (D:Mem h₀ h chg news) (hi:news[i]? =some (a,o)) (hd:o.data= .dict es n) (hsz:es.size<=sizeLine) (e:aRefKeyMayBeTheName name es=false)
  (e':∀H T,Obj.putName name H (.str name T) v o=o' H T) (hf:∀H T,(o' H T).isFreed=false)
  (x:∀H T h' t',Mem h₀ h' chg (news.set i (a,o' H T))->Q () ⟨h',g,d,t',os⟩):wpAny M A (nsSetByValue a name v) Q E ⟨h,g,d,t,os⟩:=by
 unfold nsSetByValue;refine aa (dD (D.at i a o hi) ?_);rw[hd];dsimp only;rw[aC (by simp;omega)];exact xG i D hi hd e e' hf x
theorem vc{on:Obj} {cd:ClassData} {Q:Option Value->Shared->Prop} (ho:s.heap.get? a=some o) (hd:o.data= .cls cd) (hm:cd.mro=[.ref a,.type "object"]) (hn:s.heap.get? cd.ns=some on)
  (e:(∃v,r=some v/\nsLook name on=pure r)\/(nsLook name on=pure none/\builtinOwn "object" name=r)) (x:Q r s):wpAny M A (typeLookup (.ref a) name) Q E s:=by
 unfold typeLookup mroOf classData;refine aa (aa (aa (dZ ho ?_)));rw[hd];refine ae (ae ?_);rw[hm];refine aa (iH (aa ?_));have own:∀{q:Option Value} {Q':Option Value->Shared->Prop},nsLook name on=pure q->Q' q s->wpAny M A (classOwn (.ref a) name) Q' E s:=λhq hx=>by
  show wpAny M A (do nsGet (<-classData a).ns name) _ _ _;unfold classData nsGet;refine aa (aa (dZ ho ?_));rw[hd];exact ae (aa (uy hn (bo hq hx)))
 rcases e with⟨v,rfl,e⟩|⟨e,e2⟩
 ·refine aa (own e ?_);exact ae (ae (ae x))
 ·refine aa (own e ?_);refine ae ?_;refine iH (aa (aa ?_));show wpAny M A (pure (builtinOwn "object" name)) _ _ _;rw[e2];refine ae ?_;cases r with
  |none=>exact ae (lY (ae x))
  |some v=>exact ae (ae (ae x))
theorem zI{on:Obj} {cd:ClassData} {Q:Option Value->Shared->Prop} (i j:Nat) (D:Mem h₀ h chg news) (hi:news[i]? =some (a,o)) (hd:o.data= .cls cd) (hm:cd.mro=[.ref a,.type "object"]) (hj:news[j]? =some (cd.ns,on))
  (e:(∃v,r=some v/\nsLook name on=pure r)\/(nsLook name on=pure none/\builtinOwn "object" name=r)) (x:Q r ⟨h,g,d,t,os⟩):wpAny M A (typeLookup (.ref a) name) Q E ⟨h,g,d,t,os⟩:=
 vc (s:=⟨h,g,d,t,os⟩) (D.at i _ _ hi) hd hm (D.at j _ _ hj) e x
theorem E9{f:Value->Sem Bool} {l:List Value} {x:Value} {Q:Bool->Shared->Prop} (e:l=[x]) (h:f x=pure false) (hq:Q false s):wpAny M A (List.anyM f l) Q E s:=by
 subst e;unfold List.anyM;rw[h];exact aa (ae (ae hq))
theorem px{l:List α} {f:α->β->Sem (ForInStep β)} {Q:β->Shared->Prop} (x:∀e∈l,∀Q':ForInStep β->Shared->Prop,Q' (.yield init) s->wpAny M A (f e init) Q' E s) (y:Q init s):
  wpAny M A (forIn l init f) Q E s:=by
 induction l with
 |nil=>exact lY y
 |cons a l ih=>exact iH (aa (x a (.head _) _ (ih λe he=>x e (.tail _ he))))
theorem je{c:Value} {dd:Option Addr} {dt:Data} {sl zX:Array (Option Value)} {k:Nat} {v:Option Value} (i:Nat) (D:Mem h₀ h chg news) (hi:news[i]? =some (a,⟨c,dd,dt,sl⟩)) (hk:k<sizeLine)
  (e:(sl++Array.replicate (k+1-sl.size) none).setIfInBounds k v=zX) (hf:(⟨c,dd,dt,zX⟩:Obj).isFreed=false)
  (x:∀h',Mem h₀ h' chg (news.set i (a,⟨c,dd,dt,zX⟩))->Q () ⟨h',g,d,t,os⟩):wpAny M A (setSlotAt a k v) Q E ⟨h,g,d,t,os⟩:=by
 unfold setSlotAt;rw[aC (Nat.not_le.mpr hk)];refine ke i D hi (by rw[e];exact hf) λh' D'=> ?_;rw[e]at D';exact x h' D'
theorem pv{c:Value} {dd:Option Addr} {cd:ClassData} {sl:Array (Option Value)} {f:ClassData->ClassData} (i:Nat) (D:Mem h₀ h chg news) (hi:news[i]? =some (a,⟨c,dd,.cls cd,sl⟩))
  (hf:(⟨c,dd,.cls (f cd),sl⟩:Obj).isFreed=false) (hl:(decide ((f cd).subclasses.length>sizeLine)||decide ((f cd).slotNames.length>sizeLine))=false)
  (x:∀h',Mem h₀ h' chg (news.set i (a,⟨c,dd,.cls (f cd),sl⟩))->Q () ⟨h',g,d,t,os⟩):wpAny M A (updateCls a f) Q E ⟨h,g,d,t,os⟩:=by
 unfold updateCls;refine aa (dZ (D.at i _ _ hi) ?_);refine aa (lX i D hi hf λh' D'=> ?_);have DU:(news.set i (a,Obj.mapCls f ⟨c,dd,.cls cd,sl⟩))[i]? =some (a,⟨c,dd,.cls (f cd),sl⟩):=by
  rw[qY (bx.mp hi).1];rfl
 unfold lookBehind;refine aa (dD (D'.at i _ _ DU) ?_);have hp:(⟨c,dd,.cls (f cd),sl⟩:Obj).data.pastItsLine=none:=by
  show(if(decide ((f cd).subclasses.length>sizeLine)||decide ((f cd).slotNames.length>sizeLine))=true then some "class:memory" else none)=none
  rw[hl];rfl
 rw[hp];exact ae (x h' D')
theorem pw{l:List α} {f:α->β->Sem (ForInStep β)} {Q:β->Shared->Prop} (x:wpAny M A (forIn l init f) Q E s):wpAny M A (forIn l.toArray init f) Q E s:=by
 rw[Xf];exact x
theorem GV{α:Type} {m:Sem α} {k:Value->Sem α} {Q:α->Shared->Prop} (x:Halt (wpAny M A (m.tryCatch k) Q E s)):wpAny M A (m.tryCatch k) Q E s:=x.h
end
theorem fk1:isSubtype (.type "tuple") (.type "tuple")=pure true:=by rw[jt];kernel_rfl
theorem fk2:isSubtype (.type "dict") (.type "dict")=pure true:=by rw[jt];kernel_rfl
theorem YM:isSubtype (.type "type") (.type "type")=pure true:=by rw[jt];kernel_rfl
theorem fk4:mroOf (.type "object")=pure [.type "object"]:=by rw[mroOf_type];kernel_rfl
theorem fk5:isSubtype (.type "object") (.type "object")=pure true:=by rw[jt];kernel_rfl
theorem YL:typeOf (.type "object")=pure (.type "type"):=by kernel_rfl
theorem fk7:typeLookup (.type "dict") "__iter__"=pure (some (.builtin "dict.__iter__")):=by rw[cN,bN];kernel_rfl
theorem fk8:typeLookup (.type "object") "__weakref__"=pure none:=by rw[cN,bN];kernel_rfl
theorem YK:Builtin.Slots.bestBase [.type "object"]=pure (.type "object"):=by kernel_rfl
theorem QT:Builtin.Slots.slotNamesOf (.type "object")=pure []:=by kernel_rfl
theorem Nc:Builtin.Slots.givesDict (.type "object")=pure false:=by kernel_rfl
theorem We:Builtin.Slots.isIdentifier "obj"=some true:=by decide+kernel
theorem Wd:(("obj":Str)=="__dict__")=false:=by decide+kernel
theorem Wc:(("obj":Str)=="__weakref__")=false:=by decide+kernel
theorem QS:Builtin.Slots.mangle "K" "obj"="obj":=by decide+kernel
theorem QR:(("obj":Str)=="__del__")=false:=by decide+kernel
set_option maxHeartbeats 4000000 in
theorem zW{prog:Program} {w:World} {A:Around} {E:Value->Shared->Prop} {h₀:Heap} {g:Array GenState} {d:Drawn} {t:Nat} {os:OsState} {chg news:List (Addr×Obj)}
  (es:Array DictEntry) (H:Int) (kv:Value) (L:Addr) (t3:Tok) (n:Nat) (xC:es.find? (·.key.isStr "__slots__")=some ⟨H,kv,.ref L⟩) (AO:(es.any λe=>e.key.isStr "obj")=false)
  (D:Mem h₀ h chg news) (hL:h₀.get? L=some (⟨.type "list",none,.seq #[.str "obj" t3] n,#[]⟩)) (Q:Builtin.Slots.Plan->Shared->Prop)
  (hq:∀a h' o,Mem h₀ h' chg ((a,o)::news)->Q {names:=["obj"],dict:=false,weak:=false,inherited:=[]} ⟨h',g,d,t,os⟩):
  wpAny (model prog w) A (Builtin.Slots.read "K" [.type "object"] es) Q E ⟨h,g,d,t,os⟩:=by
 have f4:=fk4;have f8:=fk8;have f9:=YK;have G9:=QT;have JI:=Nc;have hl:h.IsList L #[.str "obj" t3]:=⟨_,D.old L _ hL rfl,rfl,n,rfl⟩;have hsz:[Value.str "obj" t3].length<=sizeLine:=by size_fits
 have yL:∀p,((#[]:Array Str).push (Str.ofString "obj"))[((#[]:Array Str).push (Str.ofString "obj")).size-1-0]'p=Str.ofString "obj":=λp=>rfl;unfold Builtin.Slots.read;rw[xC];repeat (first
  | ((with_reducible apply mZ);case e=>rfl)
  | ((with_reducible apply lZ);case e=>rfl)
  | (with_reducible refine bo YK ?_)
  | (with_reducible refine bo QT ?_)
  | (with_reducible refine bo Nc ?_)
  | (with_reducible refine zJ (vs:=[.str "obj" t3]) D hl hsz ?_;intro c h2 oc D2)
  | (with_reducible refine Ip hL (by assumption) rfl ?_)
  |rw[We]
  |rw[Wd]
  |rw[Wc]
  |rw[QS]
  |rw[QR]
  | (simp only [yL,QS,QR,AO,nM])
  |wp_step
  |dsimp only)
 exact hq c h2 oc D2
structure KN where
 H:Nat->Int
 T:Nat->Tok
 tm:Tok
 tq:Tok
 line:Int
 tl:Tok
 sl:Addr
 fi:Addr
 t6:Addr
 EJ:Addr
 Ec:Addr
 EI:Addr
 EK:Addr
 sa:Addr
abbrev fg:Str:="cmp_to_key.<locals>.K"
def zx (r:KN):List DictEntry:=[⟨r.H 0,.str "__module__" (r.T 0),.str "cpy313.functools" r.tm⟩,⟨r.H 1,.str "__qualname__" (r.T 1),.str fg r.tq⟩,⟨r.H 2,.str "__firstlineno__" (r.T 2),.int r.line r.tl⟩,
 ⟨r.H 3,.str "__slots__" (r.T 3),.ref r.sl⟩,⟨r.H 4,.str "__init__" (r.T 4),.ref r.fi⟩,⟨r.H 5,.str "__lt__" (r.T 5),.ref r.t6⟩,⟨r.H 6,.str "__gt__" (r.T 6),.ref r.EJ⟩,⟨r.H 7,.str "__eq__" (r.T 7),.ref r.Ec⟩,
 ⟨r.H 8,.str "__le__" (r.T 8),.ref r.EI⟩,⟨r.H 9,.str "__ge__" (r.T 9),.ref r.EK⟩,⟨r.H 10,.str "__hash__" (r.T 10),.none⟩,⟨r.H 11,.str "__static_attributes__" (r.T 11),.ref r.sa⟩]
def rS (r:KN):List DictEntry:=[⟨r.H 0,.str "__module__" (r.T 0),.str "cpy313.functools" r.tm⟩,⟨r.H 2,.str "__firstlineno__" (r.T 2),.int r.line r.tl⟩,
 ⟨r.H 3,.str "__slots__" (r.T 3),.ref r.sl⟩,⟨r.H 4,.str "__init__" (r.T 4),.ref r.fi⟩,⟨r.H 5,.str "__lt__" (r.T 5),.ref r.t6⟩,⟨r.H 6,.str "__gt__" (r.T 6),.ref r.EJ⟩,⟨r.H 7,.str "__eq__" (r.T 7),.ref r.Ec⟩,
 ⟨r.H 8,.str "__le__" (r.T 8),.ref r.EI⟩,⟨r.H 9,.str "__ge__" (r.T 9),.ref r.EK⟩,⟨r.H 10,.str "__hash__" (r.T 10),.none⟩,⟨r.H 11,.str "__static_attributes__" (r.T 11),.ref r.sa⟩]
def Ja (r:KN) (h:Int) (t:Tok) (md:Addr):List DictEntry:=[⟨r.H 0,.str "__module__" (r.T 0),.str "cpy313.functools" r.tm⟩,⟨r.H 2,.str "__firstlineno__" (r.T 2),.int r.line r.tl⟩,
 ⟨r.H 3,.str "__slots__" (r.T 3),.ref r.sl⟩,⟨r.H 4,.str "__init__" (r.T 4),.ref r.fi⟩,⟨r.H 5,.str "__lt__" (r.T 5),.ref r.t6⟩,⟨r.H 6,.str "__gt__" (r.T 6),.ref r.EJ⟩,⟨r.H 7,.str "__eq__" (r.T 7),.ref r.Ec⟩,
 ⟨r.H 8,.str "__le__" (r.T 8),.ref r.EI⟩,⟨r.H 9,.str "__ge__" (r.T 9),.ref r.EK⟩,⟨r.H 10,.str "__hash__" (r.T 10),.none⟩,⟨r.H 11,.str "__static_attributes__" (r.T 11),.ref r.sa⟩,⟨h,.str "obj" t,.ref md⟩]
def kO (r:KN) (h:Int) (t:Tok) (md:Addr) (h':Int) (t':Tok):List DictEntry:=[⟨r.H 0,.str "__module__" (r.T 0),.str "cpy313.functools" r.tm⟩,⟨r.H 2,.str "__firstlineno__" (r.T 2),.int r.line r.tl⟩,
 ⟨r.H 3,.str "__slots__" (r.T 3),.ref r.sl⟩,⟨r.H 4,.str "__init__" (r.T 4),.ref r.fi⟩,⟨r.H 5,.str "__lt__" (r.T 5),.ref r.t6⟩,⟨r.H 6,.str "__gt__" (r.T 6),.ref r.EJ⟩,⟨r.H 7,.str "__eq__" (r.T 7),.ref r.Ec⟩,
 ⟨r.H 8,.str "__le__" (r.T 8),.ref r.EI⟩,⟨r.H 9,.str "__ge__" (r.T 9),.ref r.EK⟩,⟨r.H 10,.str "__hash__" (r.T 10),.none⟩,⟨r.H 11,.str "__static_attributes__" (r.T 11),.ref r.sa⟩,⟨h,.str "obj" t,.ref md⟩,⟨h',.str "__doc__" t',.none⟩]
def eh (es:List DictEntry) (n:Nat):Obj:=⟨.type "dict",none,.dict es.toArray n,#[]⟩
section
variable (r:KN) (h h':Int) (t t':Tok) (md:Addr) (n:Nat)
theorem TP:nsLook "__module__" (eh (rS r) n)=pure (some (.str "cpy313.functools" r.tm)):=by kernel_rfl
theorem Pw:nsLook "__qualname__" (eh (zx r) n)=pure (some (.str fg r.tq)):=by kernel_rfl
theorem I3:nsLook "__doc__" (eh (zx r) n)=pure none:=by kernel_rfl
theorem Px:nsHas "__qualname__" (eh (zx r) n)=pure true:=by kernel_rfl
theorem Py:Obj.dropName "__qualname__" (eh (zx r) n)=eh (rS r) (n+1):=by kernel_rfl
theorem Ax:nsLook "__new__" (eh (rS r) n)=pure none:=by kernel_rfl
theorem B7:nsLook "__init_subclass__" (eh (rS r) n)=pure none:=by kernel_rfl
theorem Gh:nsLook "__class_getitem__" (eh (rS r) n)=pure none:=by kernel_rfl
theorem Kg:nsLook "__classcell__" (eh (rS r) n)=pure none:=by kernel_rfl
theorem Gi:nsLook "__classdictcell__" (eh (rS r) n)=pure none:=by kernel_rfl
theorem Ge:nsLook "obj" (eh (rS r) n)=pure none:=by kernel_rfl
theorem RN:nsLook "__new__" (eh (rS r) n)=pure none:=by kernel_rfl
theorem I2:Obj.putName "obj" h (.str "obj" t) (.ref md) (eh (rS r) n)=eh (Ja r h t md) (n+1):=by kernel_rfl
theorem Gd:(rS r).toArray.size<=sizeLine:=by show 11<=sizeLine;size_fits
theorem I0:aRefKeyMayBeTheName "obj" (rS r).toArray=false:=by kernel_rfl
theorem B8:nsLook "__doc__" (eh (Ja r h t md) n)=pure none:=by kernel_rfl
theorem I1:Obj.putName "__doc__" h' (.str "__doc__" t') .none (eh (Ja r h t md) n)=eh (kO r h t md h' t') (n+1):=by kernel_rfl
theorem IZ:aRefKeyMayBeTheName "__doc__" (Ja r h t md).toArray=false:=by kernel_rfl
theorem Gg:nsLook "__eq__" (eh (kO r h t md h' t') n)=pure (some (.ref r.Ec)):=by kernel_rfl
theorem yA:nsLook "__hash__" (eh (kO r h t md h' t') n)=pure (some .none):=by kernel_rfl
theorem Gb:(zx r).toArray.find? (·.key.isStr "__slots__")=some ⟨r.H 3,.str "__slots__" (r.T 3),.ref r.sl⟩:=by kernel_rfl
theorem Gf:((zx r).toArray.any λe=>e.key.isStr "obj")=false:=by kernel_rfl
theorem Dz:((zx r).toArray.any λe=>e.key.isStr "__module__")=true:=by kernel_rfl
theorem NZ:((zx r).toArray.any λe=>e.key.isStr "__del__")=false:=by kernel_rfl
theorem Au:∀e∈kO r h t md h' t',∃s,asStr? e.key=pure (some s):=by
 intro e he;simp only [kO,aK,lH,Rr]at he;rcases he with rfl|rfl|rfl|rfl|rfl|rfl|rfl|rfl|rfl|rfl|rfl|rfl|rfl<;>exact⟨_,rfl⟩
theorem Aw:∀e∈kO r h t md h' t',Builtin.laidUnderItsOwnName e.key e.val=false:=by
 intro e he;simp only [kO,aK,lH,Rr]at he;rcases he with rfl|rfl|rfl|rfl|rfl|rfl|rfl|rfl|rfl|rfl|rfl|rfl|rfl<;>rfl
theorem G3:typeLookup (.type "str") "__set_name__"=pure none:=by rw[cN,bN];kernel_rfl
theorem G4:typeLookup (.type "int") "__set_name__"=pure none:=by rw[cN,bN];kernel_rfl
theorem D8:typeLookup (.type "list") "__set_name__"=pure none:=by rw[cN,bN];kernel_rfl
theorem gM:typeLookup (.type "function") "__set_name__"=pure none:=by rw[cN,bN];kernel_rfl
theorem vS:typeLookup (.type "NoneType") "__set_name__"=pure none:=by rw[cN,bN];kernel_rfl
theorem A1:typeLookup (.type "tuple") "__set_name__"=pure none:=by rw[cN,bN];kernel_rfl
theorem JF:typeLookup (.type "member_descriptor") "__set_name__"=pure none:=by rw[cN,bN];kernel_rfl
structure uv (r:KN) (h:Heap):Prop where
 sl:∃o,h.get? r.sl=some o/\o.cls= .type "list"
 fi:∃o,h.get? r.fi=some o/\o.cls= .type "function"
 t6:∃o,h.get? r.t6=some o/\o.cls= .type "function"
 EJ:∃o,h.get? r.EJ=some o/\o.cls= .type "function"
 Ec:∃o,h.get? r.Ec=some o/\o.cls= .type "function"
 EI:∃o,h.get? r.EI=some o/\o.cls= .type "function"
 EK:∃o,h.get? r.EK=some o/\o.cls= .type "function"
 sa:∃o,h.get? r.sa=some o/\o.cls= .type "tuple"
theorem uv.keep {r:KN} {h h':Heap} (V:uv r h) (k:∀b o,h.get? b=some o->h'.get? b=some o):uv r h':=
 ⟨V.sl.imp λ_ x=>⟨k _ _ x.1,x.2⟩,V.fi.imp λ_ x=>⟨k _ _ x.1,x.2⟩,V.t6.imp λ_ x=>⟨k _ _ x.1,x.2⟩,V.EJ.imp λ_ x=>⟨k _ _ x.1,x.2⟩,V.Ec.imp λ_ x=>⟨k _ _ x.1,x.2⟩,V.EI.imp λ_ x=>⟨k _ _ x.1,x.2⟩,V.EK.imp λ_ x=>⟨k _ _ x.1,x.2⟩,V.sa.imp λ_ x=>⟨k _ _ x.1,x.2⟩⟩
theorem Av{M:Model} (V:uv r s.heap) (hmd:∃o,s.heap.get? md=some o/\o.cls= .type "member_descriptor"):
  ∀e∈kO r h t md h' t',∀Q:Option Value->Shared->Prop,Q none s->wpAny M A (specialOf e.val "__set_name__") Q E s:=by
 intro e he Q q;simp only [kO,aK,lH,Rr]at he;rcases he with rfl|rfl|rfl|rfl|rfl|rfl|rfl|rfl|rfl|rfl|rfl|rfl|rfl
 ·exact mN rfl G3 q
 ·exact mN rfl G4 q
 ·exact dQ V.sl D8 q
 ·exact dQ V.fi gM q
 ·exact dQ V.t6 gM q
 ·exact dQ V.EJ gM q
 ·exact dQ V.Ec gM q
 ·exact dQ V.EI gM q
 ·exact dQ V.EK gM q
 ·exact mN rfl vS q
 ·exact dQ V.sa A1 q
 ·exact dQ hmd JF q
 ·exact mN rfl vS q
end
section
def Z8 (a ns:Addr):ClassData:={name:="K",bases:=[.type "object"],mro:=[.ref a,.type "object"],ns,qualname:=fg,hasDict:=false,slotNames:=["obj"],hasDel:=false}
local macro_rules | `(tactic|x_close)=> `(tactic|exact⟨_,_,by assumption,rfl,rfl,rfl,rfl⟩)
set_option maxHeartbeats 0 in
theorem ug{prog:Program} {w:World} {A:Around} {g:Array GenState} {d:Drawn} {t:Nat} {os:OsState} (a ns:Addr) (sl:Array (Option Value))
 (ha:h.get? a=some ⟨.type "type",none,.cls {name:="K",bases:=[.type "object"],mro:=[.ref a,.type "object"],ns,qualname:=fg,hasDict:=false,slotNames:=["obj"],hasDel:=false},sl⟩):
  wpAny (model prog w) A (call (.type "super") [.ref a,.ref a]) (λv s'=>∃so ob,Mem h s'.heap [] [(so,ob)]/\v= .ref so/\ob=⟨.type "super",none,.fields #[.ref a,.ref a,.ref a],#[]⟩/\s'.gens=g/\s'.os=os) (λ_ _=>False) ⟨h,g,d,t,os⟩:=by
 x_run
abbrev kSl (B:Addr) (tk tq:Tok):Array (Option Value):= #[some (.ref B),none,some (.str "K" tk),some (.str fg tq),some (.builtin "object.__new__"),some (.bool false)]
local macro_rules | `(tactic|x_close)=> `(tactic|exact⟨by first|assumption|exact qo _,rfl,rfl⟩)
set_option maxHeartbeats 0 in
theorem uZ{prog:Program} {w:World} {A:Around} {g:Array GenState} {d:Drawn} {t:Nat} {os:OsState} (a ns f B:Addr) (tk tq:Tok)
 (ha:h.get? a=some ⟨.type "type",none,.cls {name:="K",bases:=[.type "object"],mro:=[.ref a,.type "object"],ns,qualname:=fg,hasDict:=false,slotNames:=["obj"],hasDel:=false},#[some (.ref B),none,some (.str "K" tk),some (.str fg tq),some (.builtin "object.__new__"),some (.bool false)]⟩)
 (hf:h.get? f=some ⟨.type "builtin_function_or_method",none,.fields #[.builtin "object.__init_subclass__",.ref a],#[]⟩):
  wpAny (model prog w) A (call (.ref f) []) (λ_ s'=>Mem h s'.heap [] []/\s'.gens=g/\s'.os=os) (λ_ _=>False) ⟨h,g,d,t,os⟩:=by
 x_run
local macro_rules | `(tactic|x_close)=> `(tactic|exact⟨_,_,by assumption,rfl,rfl,rfl,rfl⟩)
set_option maxHeartbeats 0 in
theorem xm{prog:Program} {w:World} {A:Around} {g:Array GenState} {d:Drawn} {t:Nat} {os:OsState} (a ns:Addr) (sl:Array (Option Value))
 (ha:h.get? a=some ⟨.type "type",none,.cls {name:="K",bases:=[.type "object"],mro:=[.ref a,.type "object"],ns,qualname:=fg,hasDict:=false,slotNames:=["obj"],hasDel:=false},sl⟩):
  wpAny (model prog w) A (call (.builtin "classmethod_descriptor.__get__") [.builtin "object.__init_subclass__",.none,.ref a]) (λv s'=>∃so ob,Mem h s'.heap [] [(so,ob)]/\v= .ref so/\ob=⟨.type "builtin_function_or_method",none,.fields #[.builtin "object.__init_subclass__",.ref a],#[]⟩/\s'.gens=g/\s'.os=os) (λ_ _=>False) ⟨h,g,d,t,os⟩:=by
 x_run
theorem acw:builtinOwn "object" "__init_subclass__"=some (.builtin "object.__init_subclass__"):=by kernel_rfl
theorem V1:classOwn (.type "object") "__init_subclass__"=pure (some (.builtin "object.__init_subclass__")):=by kernel_rfl
theorem V3:typeOf (.builtin "object.__init_subclass__")=pure (.type "classmethod_descriptor"):=by kernel_rfl
theorem V2:typeLookup (.type "classmethod_descriptor") "__get__"=pure (some (.builtin "classmethod_descriptor.__get__")):=by rw[cN,bN];kernel_rfl
theorem wk{prog:Program} {w:World} {A:Around} {E:Value->Shared->Prop} {g:Array GenState} {d:Drawn} {t:Nat} {os:OsState} (so a ns:Addr) (tk:Tok) (sl:Array (Option Value)) {Q:Fin->Shared->Prop}
  (Oc:h.get? so=some {cls:= .type "super",dict:=none,data:= .fields #[.ref a,.ref a,.ref a],slots:= #[]}) (AO:Looks (model prog w) h (opaqueClassAbove (.ref a)) none)
  (ha:h.get? a=some ⟨.type "type",none,.cls {name:="K",bases:=[.type "object"],mro:=[.ref a,.type "object"],ns,qualname:=fg,hasDict:=false,slotNames:=["obj"],hasDel:=false},sl⟩)
  (hq:∀q ob s',Mem h s'.heap [] [(q,ob)]->ob=⟨.type "builtin_function_or_method",none,.fields #[.builtin "object.__init_subclass__",.ref a],#[]⟩->s'.gens=g->s'.os=os->Q (.done (.ret (.ref q))) s'):
  wpAny (model prog w) A (Builtin.«super.__getattribute__» ⟨[.ref so,.str "__init_subclass__" tk],[]⟩) Q E ⟨h,g,d,t,os⟩:=by
 have DY:({cls:= .type "super",dict:=none,data:= .fields #[.ref a,.ref a,.ref a],slots:= #[]}:Obj).data= .fields #[.ref a,.ref a,.ref a]:=rfl;have f0:(#[.ref a,.ref a,.ref a]:Array Value)[0]? =some (.ref a):=rfl;have f1:(#[.ref a,.ref a,.ref a]:Array Value)[1]? =some (.ref a):=rfl;have f2:(#[.ref a,.ref a,.ref a]:Array Value)[2]? =some (.ref a):=rfl;have hl:(([Value.ref a,.type "object"].dropWhile (· != .ref a)).drop 1)=[.type "object"]:=by simp
 have hn:(("__init_subclass__":Str)=="__class__")=false:=by decide+kernel
 have hC:Looks (model prog w) h (mroOf (.ref a)) [.ref a,.type "object"]:=λA Q E s k q=>by
  unfold mroOf classData;refine aa (aa (dZ (k _ _ ha) ?_));exact ae (ae q)
 unfold Builtin.«super.__getattribute__»;repeat (first
  | (with_reducible refine gF Oc DY f0 ?_)| (with_reducible refine gF Oc DY f1 ?_)| (with_reducible refine gF Oc DY f2 ?_)
  | (with_reducible refine ks_wpAny_notOpaque AO ?_)
  | (with_reducible refine Looks.at hC ?_;rw[hl])
  | (with_reducible refine iH ?_)
  | (with_reducible refine bo V3 ?_)
  | (with_reducible refine bo V1 ?_)
  | (with_reducible refine ao (xm a ns sl ha) (λv s' hv=> ?_) λ_ _ z=>z.elim)
  | (with_reducible refine bo V2 ?_)
  | (simp only [hn,pf])
  | (simp only [cj,jM])
  |wp_step
  |dsimp only)
 obtain⟨q,ob,D1,rfl,e,hg,ho⟩:=hv;exact hq q ob s' D1 e hg ho
theorem p5{prog:Program} {w:World} {A:Around} {E:Value->Shared->Prop} {g:Array GenState} {d:Drawn} {t:Nat} {os:OsState} (so a ns:Addr) (sl:Array (Option Value)) {Q:Value->Shared->Prop}
  (Oc:h.get? so=some {cls:= .type "super",dict:=none,data:= .fields #[.ref a,.ref a,.ref a],slots:= #[]}) (AO:Looks (model prog w) h (opaqueClassAbove (.ref a)) none)
  (ha:h.get? a=some ⟨.type "type",none,.cls {name:="K",bases:=[.type "object"],mro:=[.ref a,.type "object"],ns,qualname:=fg,hasDict:=false,slotNames:=["obj"],hasDel:=false},sl⟩)
  (hq:∀q ob s',Mem h s'.heap [] [(q,ob)]->ob=⟨.type "builtin_function_or_method",none,.fields #[.builtin "object.__init_subclass__",.ref a],#[]⟩->s'.gens=g->s'.os=os->Q (.ref q) s'):
  wpAny (model prog w) A (getAttr (.ref so) "__init_subclass__") Q E ⟨h,g,d,t,os⟩:=by
 have hlk:=xA.lookup;have hT:∀t',(⟨h,g,d,t',os⟩:Shared).TypeIs (.ref so) "super":=λ_=>⟨_,Oc,rfl⟩;unfold getAttr getAttrBy;refine aa (iB (aQ (aa (wpAny_typeOf (hT _) (aa (bo hlk ?_))))));show wpAny _ _ (getAttrByItsOwn (.ref so) (.str "__init_subclass__" t) (.type "super") (.builtin "super.__getattribute__") true false) _ _ _;unfold getAttrByItsOwn hookBefore callGetattribute boundAndCalled;refine aa (bo (show(if onTheHeap (.type "super")then typeLookup (.type "super") "__getattr__" else pure none)=pure none from rfl) ?_)
 refine aa (gR (aQ ?_));show wpAny _ _ (bindSpecial (.builtin "super.__getattribute__") (.ref so)>>=_) _ _ _;refine aa (bo (xA.bind _) ?_);refine ao (Q:=λv s'=>∃q ob,v= .ref q/\Mem h s'.heap [] [(q,ob)]/\ob=⟨.type "builtin_function_or_method",none,.fields #[.builtin "object.__init_subclass__",.ref a],#[]⟩/\s'.gens=g/\s'.os=os) (E:=λ_ _=>False)
  (fV xA (hT _) F.ks_entry_super_ga (wk so a ns _ sl Oc AO ha λq ob s' D e hg ho=>⟨_,rfl,q,ob,rfl,D,e,hg,ho⟩) (F.ks_gaArgs_super _ _)) (λv s' hv=> ?_) λ_ _ z=>z.elim
 obtain⟨q,ob,rfl,D,e,hg,ho⟩:=hv;exact ae (hq q ob s' D e hg ho)
end
theorem Wb(e:b=[.type "object"]):Builtin.notOverATurnedClass b=pure ():=by subst e;kernel_rfl
theorem Wa(e:b=[.type "object"]):Builtin.extendedBase b=pure (.type "object"):=by subst e;kernel_rfl
theorem V9:Builtin.mroHook? (.type "type")=pure none:=by kernel_rfl
theorem V8(e:b=[.type "object"]):Builtin.linearize b mroOf=pure [.type "object"]:=by subst e;kernel_rfl
theorem V7:Bind.madeBy (.type "object")=pure (some "object.__new__"):=by kernel_rfl
theorem V6:Builtin.Slots.givesWeak (.type "object")=pure false:=by kernel_rfl
theorem V5:builtinOwn "object" "__new__"=some (.builtin "object.__new__"):=by kernel_rfl
theorem V4:decide ((!("object.__new__":String).endsWith ".__new__")=true)=false:=by kernel_rfl
abbrev kObj (a ns B:Addr) (tk tq:Tok):Obj:=⟨.type "type",none,.cls {name:="K",bases:=[.type "object"],mro:=[.ref a,.type "object"],ns,qualname:=fg,hasDict:=false,slotNames:=["obj"],hasDel:=false},#[some (.ref B),none,some (.str "K" tk),some (.str fg tq),some (.builtin "object.__new__"),some (.bool false)]⟩
abbrev I9 (tm:Tok) (a:Addr):Obj:=⟨.type "member_descriptor",none,.fields #[.str "obj" tm,.ref a,.builtin "proto.slot",.builtin "proto.slot#set",rawInt 0],#[]⟩
theorem xS {prog:Program} {w:World} {A:Around} {E:Value->Shared->Prop} {h₀:Heap} {g:Array GenState} {d:Drawn} {t:Nat} {os:OsState} {chg news:List (Addr×Obj)} (e:b=[.type "object"])
  (es:Array DictEntry) (H:Int) (kv:Value) (L:Addr) (t3:Tok) (n:Nat) (xC:es.find? (·.key.isStr "__slots__")=some ⟨H,kv,.ref L⟩) (AO:(es.any λe=>e.key.isStr "obj")=false)
  (D:Mem h₀ h chg news) (hL:h₀.get? L=some (⟨.type "list",none,.seq #[.str "obj" t3] n,#[]⟩)) (Q:Builtin.Slots.Plan->Shared->Prop)
  (hq:∀a h' o,Mem h₀ h' chg ((a,o)::news)->Q {names:=["obj"],dict:=false,weak:=false,inherited:=[]} ⟨h',g,d,t,os⟩):
  wpAny (model prog w) A (Builtin.Slots.read "K" b es) Q E ⟨h,g,d,t,os⟩:=by
 subst e;exact zW es H kv L t3 n xC AO D hL Q hq
set_option maxHeartbeats 2500000 in
theorem Fj{h₀:Heap}
 (r:KN) (B N:Addr) (tk t3:Tok) (n1 n2:Nat)
 (hB:h₀.get? B=some (⟨.type "tuple",none,.seq #[.type "object"] 0,#[]⟩))
 (hN:h₀.get? N=some (eh (zx r) n1)) (hsl:h₀.get? r.sl=some (⟨.type "list",none,.seq #[.str "obj" t3] n2,#[]⟩))
 (KJ:(N==sysModules)=false) (V:uv r h₀) (AO:∀C,Looks (model prog w) h₀ (opaqueClassAbove (.ref C)) none)
 (Q:Fin->Shared->Prop)
 (hq:∀a ns md h1 t1 h2 t2 s',(∀b o,h₀.get? b=some o->s'.heap.get? b=some o)->s'.heap.get? a=some (kObj a ns B tk r.tq)->s'.heap.get? ns=some (eh (kO r h1 t1 md h2 t2) 3)->
  (∃tm,s'.heap.get? md=some (I9 tm a))->h₀.get? a=none->h₀.get? ns=none->h₀.get? md=none->s'.gens=g->s'.os=os->Q (.done (.ret (.ref a))) s'):
 wpAny (model prog w) A (Builtin.«type.__new__» ⟨[.type "type",.str "K" tk,.ref B,.ref N],[]⟩) Q E ⟨h₀,g,d,t,os⟩:=by
 have D:=qo h₀;have hTB:(⟨h₀,g,d,t,os⟩:Shared).TypeIs (.ref B) "tuple":=⟨_,hB,rfl⟩;have hTN:(⟨h₀,g,d,t,os⟩:Shared).TypeIs (.ref N) "dict":=⟨_,hN,rfl⟩;have f1:=fk1;have f2:=fk2;have f3:=YM;have f7:=fk7;have hnm:decide ((!((zx r).toArray.any λe=>e.key.isStr "__module__"))=true)=false:=by rw[Dz];rfl
 have hgB:((some #[Value.type "object"]).getD #[]).toList=[Value.type "object"]:=rfl;have GO:(if([Value.type "object"]:List Value).isEmpty=true then[Value.type "object"]else[Value.type "object"])=[Value.type "object"]:=rfl;unfold Builtin.«type.__new__»;repeat (first
  | ((with_reducible apply mZ);case e=>rfl)
  | ((with_reducible apply lZ);case e=>rfl)
  | (with_reducible refine bo YL ?_)
  | (with_reducible refine bo (Wb (by with_unfolding_all rfl)) ?_)
  | (with_reducible refine bo (Wa (by with_unfolding_all rfl)) ?_)
  | (with_reducible refine bo V9 ?_)
  | (with_reducible refine bo (V8 (by with_unfolding_all rfl)) ?_)
  | (with_reducible refine xS (by with_unfolding_all rfl) _ _ _ _ _ _ (Gb r) (Gf r) D hsl _ λc h1 oc D1=> ?_)
  | (with_reducible refine zH hB (by assumption) rfl ?_)
  | (with_reducible refine zH hN (by assumption) rfl ?_)
  | (with_reducible refine zH hsl (by assumption) rfl ?_)
  | (with_reducible refine dS hnm ?_)
  | (with_reducible refine sx (o:=⟨.type "dict",none,.dict (zx r).toArray 0,#[]⟩) (by assumption) (by with_unfolding_all rfl) λns _ _=> ?_)
  | (with_reducible refine sx (o:=⟨.type "type",none,.cls _,#[]⟩) (by assumption) (by with_unfolding_all rfl) λa _ _=> ?_)
  | (with_reducible refine sx (o:=⟨.type "member_descriptor",none,.fields _,#[]⟩) (by assumption) (by with_unfolding_all rfl) λmd _ _=> ?_)
  | (with_reducible refine dz 0 (by assumption) (by with_unfolding_all rfl) (Pw r _) ?_)
  | (with_reducible refine dz 0 (by assumption) (by with_unfolding_all rfl) (I3 r _) ?_)
  | (with_reducible refine dz 1 (by assumption) (by with_unfolding_all rfl) (Ax r _) ?_)
  | (with_reducible refine dz 1 (by assumption) (by with_unfolding_all rfl) (B7 r _) ?_)
  | (with_reducible refine dz 1 (by assumption) (by with_unfolding_all rfl) (Gh r _) ?_)
  | (with_reducible refine dz 1 (by assumption) (by with_unfolding_all rfl) (Kg r _) ?_)
  | (with_reducible refine dz 1 (by assumption) (by with_unfolding_all rfl) (Gi r _) ?_)
  | (with_reducible refine dz 1 (by assumption) (by with_unfolding_all rfl) (Ge r _) ?_)
  | (with_reducible refine dz 1 (by assumption) (by with_unfolding_all rfl) (B8 r _ _ _ _) ?_)
  | (with_reducible refine dz 1 (by assumption) (by with_unfolding_all rfl) (Gg r _ _ _ _ _ _) ?_)
  | (with_reducible refine dz 1 (by assumption) (by with_unfolding_all rfl) (yA r _ _ _ _ _ _) ?_)
  | (with_reducible refine dz 2 (by assumption) (by with_unfolding_all rfl) (Ax r _) ?_)
  | (with_reducible refine dz 2 (by assumption) (by with_unfolding_all rfl) (B7 r _) ?_)
  | (with_reducible refine dz 2 (by assumption) (by with_unfolding_all rfl) (Gh r _) ?_)
  | (with_reducible refine dz 2 (by assumption) (by with_unfolding_all rfl) (Kg r _) ?_)
  | (with_reducible refine dz 2 (by assumption) (by with_unfolding_all rfl) (Gi r _) ?_)
  | (with_reducible refine dz 2 (by assumption) (by with_unfolding_all rfl) (Ge r _) ?_)
  | (with_reducible refine dz 2 (by assumption) (by with_unfolding_all rfl) (B8 r _ _ _ _) ?_)
  | (with_reducible refine dz 2 (by assumption) (by with_unfolding_all rfl) (Gg r _ _ _ _ _ _) ?_)
  | (with_reducible refine dz 2 (by assumption) (by with_unfolding_all rfl) (yA r _ _ _ _ _ _) ?_)
  | (with_reducible refine E8 1 (by assumption) (by with_unfolding_all rfl) (Px r _) (Py r _) (by with_unfolding_all rfl) λ_ _=> ?_)
  | (with_reducible refine rM 2 (by assumption) (by with_unfolding_all rfl) (by with_unfolding_all rfl) (Gd r) (I0 r) (λ_ _=>I2 r _ _ _ _) (λ_ _=>(by with_unfolding_all rfl)) λ_ _ _ _ _=> ?_)
  | (with_reducible refine xG 2 (by assumption) (by with_unfolding_all rfl) (by with_unfolding_all rfl) (IZ r _ _ _) (λ_ _=>I1 r _ _ _ _ _ _) (λ_ _=>(by with_unfolding_all rfl)) λ_ _ _ _ _=> ?_)
  | (with_reducible refine wg 0 (by assumption) (by with_unfolding_all rfl) ?_)
  | (with_reducible refine sv 0 (by assumption) (by with_unfolding_all rfl) ?_)
  | (with_reducible refine ke 0 (by assumption) (by with_unfolding_all rfl) (by with_unfolding_all rfl) λ_ _=> ?_)
  | (with_reducible refine lX 0 (by assumption) (by with_unfolding_all rfl) (by with_unfolding_all rfl) λ_ _=> ?_)
  | (with_reducible refine wg 1 (by assumption) (by with_unfolding_all rfl) ?_)
  | (with_reducible refine sv 1 (by assumption) (by with_unfolding_all rfl) ?_)
  | (with_reducible refine ke 1 (by assumption) (by with_unfolding_all rfl) (by with_unfolding_all rfl) λ_ _=> ?_)
  | (with_reducible refine lX 1 (by assumption) (by with_unfolding_all rfl) (by with_unfolding_all rfl) λ_ _=> ?_)
  | (with_reducible refine wg 2 (by assumption) (by with_unfolding_all rfl) ?_)
  | (with_reducible refine sv 2 (by assumption) (by with_unfolding_all rfl) ?_)
  | (with_reducible refine ke 2 (by assumption) (by with_unfolding_all rfl) (by with_unfolding_all rfl) λ_ _=> ?_)
  | (with_reducible refine lX 2 (by assumption) (by with_unfolding_all rfl) (by with_unfolding_all rfl) λ_ _=> ?_)
  | (with_reducible refine E9 (x:= .type "object") (by simp) (by with_unfolding_all kernel_rfl) ?_)
  | (with_reducible refine bo V7 ?_)
  | (with_reducible refine dS V4 ?_)
  | (with_reducible refine bo Nc ?_)
  | (with_reducible refine bo V6 ?_)
  | (with_reducible refine zI 0 1 (by assumption) (by with_unfolding_all rfl) (by with_unfolding_all rfl) (by with_unfolding_all rfl) (by with_unfolding_all rfl) (.inr ⟨Ax r _,V5⟩) ?_)
  | (with_reducible refine je (k:=0) (sl:= #[]) (zX:= #[some (.ref B)]) 0 (by assumption) (by with_unfolding_all rfl) (by with_unfolding_all decide) (by kernel_rfl) (by with_unfolding_all rfl) λ_ _=> ?_)
  | (with_reducible refine je (k:=2) (sl:= #[some (.ref B)]) (zX:= #[some (.ref B),none,some (.str "K" tk)]) 0 (by assumption) (by with_unfolding_all rfl) (by with_unfolding_all decide) (by kernel_rfl) (by with_unfolding_all rfl) λ_ _=> ?_)
  | (with_reducible refine je (k:=3) (sl:= #[some (.ref B),none,some (.str "K" tk)]) (zX:= #[some (.ref B),none,some (.str "K" tk),some (.str fg r.tq)]) 0 (by assumption) (by with_unfolding_all rfl) (by with_unfolding_all decide) (by kernel_rfl) (by with_unfolding_all rfl) λ_ _=> ?_)
  | (with_reducible refine je (k:=4) (sl:= #[some (.ref B),none,some (.str "K" tk),some (.str fg r.tq)]) (zX:= #[some (.ref B),none,some (.str "K" tk),some (.str fg r.tq),some (.builtin "object.__new__")]) 0 (by assumption) (by with_unfolding_all rfl) (by with_unfolding_all decide) (by kernel_rfl) (by with_unfolding_all rfl) λ_ _=> ?_)
  | (with_reducible refine je (k:=5) (sl:= #[some (.ref B),none,some (.str "K" tk),some (.str fg r.tq),some (.builtin "object.__new__")]) (zX:= #[some (.ref B),none,some (.str "K" tk),some (.str fg r.tq),some (.builtin "object.__new__"),some (.bool false)]) 1 (by assumption) (by with_unfolding_all rfl) (by with_unfolding_all decide) (by kernel_rfl) (by with_unfolding_all rfl) λ_ _=> ?_)
  | (with_reducible refine pv 0 (by assumption) (by with_unfolding_all rfl) (by with_unfolding_all rfl) (by with_unfolding_all kernel_rfl) λ_ _=> ?_)
  | (with_reducible refine pv 1 (by assumption) (by with_unfolding_all rfl) (by with_unfolding_all rfl) (by with_unfolding_all kernel_rfl) λ_ _=> ?_)
  | (with_reducible refine GV ?_)
  |wp_step
  | (with_reducible refine dS (by with_unfolding_all kernel_rfl) ?_)
  | (with_reducible refine wpAny_ite_true (by with_unfolding_all kernel_rfl) ?_)
  |dsimp only)
 refine⟨wpAny_tryCatch (aQ ?_)⟩;have DL:= ‹Mem h₀ _ _ _›;have hmd:=DL.at 0 md _ (by with_unfolding_all rfl);have ha:=DL.at 1 a (kObj a ns B tk r.tq) (by kernel_rfl);have hns:=DL.at 2 ns _ rfl;have za:=(DL.nw (a,kObj a ns B tk r.tq) (bB (i:=1) (by kernel_rfl))).2;have Tb:=(DL.nw (ns,_) (bB (i:=2) (by with_unfolding_all rfl))).2;have Tc:=(DL.nw (md,_) (bB (i:=0) (by with_unfolding_all rfl))).2;have keep:∀b o,h₀.get? b=some o->_:=λb o e=>DL.keep b o e (by show(hasCls o||true)=true;simp);clear DL;have V':=V.keep keep;refine aa (aa (dD hns (ae ?_)));refine aa (pw (px (λe he Q' q=> ?_) ?_))
 ·obtain⟨sk,hk⟩:=Au _ _ _ _ _ _ e he;exact aa (bo hk (dS rfl (ae q)))
 refine dS rfl ?_;refine aa (aa (dD hns (ae ?_)));refine aa (pw (px (λe he Q' q=> ?_) ?_))
 ·refine dS (by rw[Aw _ _ _ _ _ _ e he];rfl) (aa ?_);exact Av r _ _ _ _ _ (s:=⟨_,g,d,_,os⟩) V' ⟨_,hmd,rfl⟩ e he _ (ae q)
 refine aa (ao (ug a ns _ ha) (λv s' hv=> ?_) λ_ _ z=>z.elim);obtain⟨so,ob,D1,rfl,rfl,g1,o1⟩:=hv;obtain⟨h1,_,d1,t1,_⟩:=s';simp only at D1 g1 o1
 subst g1 o1;have k1:∀b o,_->h1.get? b=some o:=λb o e=>D1.keep b o e (by show(hasCls o||true)=true;simp);refine aa (aQ (p5 so a ns _ (D1.at 0 _ _ rfl) ((AO a).keeps λb o e=>k1 b o (keep b o e)) (k1 _ _ ha) λq ob s2 D2 e2 g2 o2=> ?_));subst e2;obtain⟨h2,_,d2,t2,_⟩:=s2;simp only at D2 g2 o2
 subst g2 o2;have k2:∀b o,_->h2.get? b=some o:=λb o e=>D2.keep b o e (by show(hasCls o||true)=true;simp);refine aa (ao (uZ a ns q B tk r.tq (k2 _ _ (k1 _ _ ha)) (D2.at 0 _ _ rfl)) (λv s3 hv=> ?_) λ_ _ z=>z.elim);obtain⟨D3,g3,o3⟩:=hv;obtain⟨h3,_,d3,t3,_⟩:=s3;simp only at D3 g3 o3
 subst g3 o3;have k3:∀b o,_->h3.get? b=some o:=λb o e=>D3.keep b o e (by show(hasCls o||true)=true;simp);refine ae ?_;exact ae (hq a ns md _ _ _ _ _ (λb o e=>k3 _ _ (k2 _ _ (k1 _ _ (keep b o e)))) (k3 _ _ (k2 _ _ (k1 _ _ ha))) (k3 _ _ (k2 _ _ (k1 _ _ hns))) ⟨_,k3 _ _ (k2 _ _ (k1 _ _ hmd))⟩ za Tb Tc rfl rfl)
section
theorem V0:entryFor table "type.__new__"=some Builtin.«type.__new__»:=entryFor_of_tree (by kernel_rfl)
theorem VZ:plainId "type.__new__"=true:=by decide+kernel
theorem VY(a b c:Value):checkBuiltinCall "type.__new__" ⟨[.type "type",a,b,c],[]⟩=pure ():=by kernel_rfl
theorem acu:entryFor table "type.__init__"=some Builtin.«type.__init__»:=entryFor_of_tree (by kernel_rfl)
theorem VX:Bind.madeBy (.type "type")=pure (some "type.__new__"):=by kernel_rfl
theorem VW:mroOf (.type "type")=pure [.type "type",.type "object"]:=by rw[mroOf_type];kernel_rfl
theorem VV:typeLookup (.type "type") "__init__"=pure (some (.builtin "type.__init__")):=by rw[cN,bN];kernel_rfl
theorem VQ(v:Value):bindSpecial (.builtin "type.__init__") v=pure (.builtin "type.__init__",[v]):=by kernel_rfl
theorem VU(a b c:Value):checkTypeCall "type" ⟨[a,b,c],[]⟩=pure ():=by kernel_rfl
local macro_rules | `(tactic|x_close)=> `(tactic|exact⟨rfl,by first|assumption|exact qo _,rfl,rfl⟩)
set_option maxHeartbeats 0 in
theorem uf{prog:Program} {w:World} {A:Around} {g:Array GenState} {d:Drawn} {t:Nat} {os:OsState} (a ns B N:Addr) (tk tq Zz:Tok)
 (ha:h.get? a=some ⟨.type "type",none,.cls {name:="K",bases:=[.type "object"],mro:=[.ref a,.type "object"],ns,qualname:=fg,hasDict:=false,slotNames:=["obj"],hasDel:=false},#[some (.ref B),none,some (.str "K" tk),some (.str fg tq),some (.builtin "object.__new__"),some (.bool false)]⟩):
  wpAny (model prog w) A (call (.builtin "type.__init__") [.ref a,.str "K" Zz,.ref B,.ref N]) (λv s'=>v= .none/\Mem h s'.heap [] []/\s'.gens=g/\s'.os=os) (λ_ _=>False) ⟨h,g,d,t,os⟩:=by
 x_run
set_option maxHeartbeats 4000000 in
theorem Ek{h₀:Heap}
 (r:KN) (B N:Addr) (tk t3:Tok) (n1 n2:Nat)
 (hB:h₀.get? B=some (⟨.type "tuple",none,.seq #[.type "object"] 0,#[]⟩))
 (hN:h₀.get? N=some (eh (zx r) n1)) (hsl:h₀.get? r.sl=some (⟨.type "list",none,.seq #[.str "obj" t3] n2,#[]⟩))
 (KJ:(N==sysModules)=false) (V:uv r h₀) (AO:∀C,Looks (model prog w) h₀ (opaqueClassAbove (.ref C)) none)
 (Q:Value->Shared->Prop)
 (hq:∀a ns md h1 t1 h2 t2 s',(∀b o,h₀.get? b=some o->s'.heap.get? b=some o)->s'.heap.get? a=some (kObj a ns B tk r.tq)->s'.heap.get? ns=some (eh (kO r h1 t1 md h2 t2) 3)->
  (∃tm,s'.heap.get? md=some (I9 tm a))->h₀.get? a=none->h₀.get? ns=none->h₀.get? md=none->s'.gens=g->s'.os=os->Q (.ref a) s'):
 wpAny (model prog w) A (call (.type "type") [.str "K" tk,.ref B,.ref N]) Q E ⟨h₀,g,d,t,os⟩:=by
 refine gQ (Eu ?_);show wpAny _ _ (callAny (.type "type") _) _ _ _;refine ae ⟨Code.quiet_builtin _ (by decide+kernel),mD PySem.F.entry_type_call ?_⟩;rw[Around.under_plain (weight_type_call_type "type" _ []) rfl];have f3:=YM;have f44:=VX;have SM:=VW;have f47:=VU (.str "K" tk) (.ref B) (.ref N);have DT:∀(A':Around) (E':Value->Shared->Prop) (Nv:Value->Shared->Prop),(∀a ns md h1 t1 h2 t2 s',(∀b o,h₀.get? b=some o->s'.heap.get? b=some o)->s'.heap.get? a=some (kObj a ns B tk r.tq)->s'.heap.get? ns=some (eh (kO r h1 t1 md h2 t2) 3)->
  (∃tm,s'.heap.get? md=some (I9 tm a))->h₀.get? a=none->h₀.get? ns=none->h₀.get? md=none->s'.gens=g->s'.os=os->Nv (.ref a) s')->wpAny (model prog w) A' (call (.builtin "type.__new__") [.type "type",.str "K" tk,.ref B,.ref N]) Nv E' ⟨h₀,g,d,t,os⟩:=by
  intro A' E' Nv zB;refine gQ (codeAny_call_builtin VZ V0 (bo (VY _ _ _) ?_));exact Fj r B N tk t3 n1 n2 hB hN hsl KJ V AO _ zB
 repeat (first
  | (with_reducible refine DT _ _ _ λa ns md h1 t1 h2 t2 s' k1 ha hns hmd za Tb Tc hg ho=> ?_)
  | (with_reducible refine bo VV ?_)
  | (with_reducible refine bo (VQ _) ?_)
  | (refine ao (uf a ns B N tk r.tq tk ha) (λv s2 hv=> ?_) λ_ _ z=>z.elim)
  |wp_step
  |dsimp only)
 obtain⟨_,D,g',o'⟩:=hv;have k2:∀b o,s'.heap.get? b=some o->s2.heap.get? b=some o:=λb o e=>D.keep b o e (by show(hasCls o||true)=true;simp);exact hq a ns md h1 t1 h2 t2 s2 (λb o e=>k2 _ _ (k1 b o e)) (k2 _ _ ha) (k2 _ _ hns) (hmd.imp λ_ x=>k2 _ _ x) za Tb Tc (g'.trans hg) (o'.trans ho)
end
section
local macro_rules | `(tactic|x_close)=> `(tactic|exact⟨_,_,by assumption,rfl,rfl,rfl,rfl⟩)
set_option maxHeartbeats 0 in
theorem xk(tk:Tok):
  wpAny (model prog w) A (call (.builtin "type.__getattribute__") [.type "type",.str "__prepare__" tk]) (λv s'=>∃so ob,Mem h s'.heap [] [(so,ob)]/\v= .ref so/\ob=⟨.type "builtin_function_or_method",none,.fields #[.builtin "type.__prepare__",.type "type"],#[]⟩/\s'.gens=g/\s'.os=os) (λ_ _=>False) ⟨h,g,d,t,os⟩:=by
 x_run
set_option maxHeartbeats 0 in
theorem xl(tk:Tok) (q B:Addr)
 (hq:h.get? q=some ⟨.type "builtin_function_or_method",none,.fields #[.builtin "type.__prepare__",.type "type"],#[]⟩):
  wpAny (model prog w) A (call (.ref q) [.str "K" tk,.ref B]) (λv s'=>∃so ob,Mem h s'.heap [] [(so,ob)]/\v= .ref so/\ob=⟨.type "dict",none,.dict #[] 0,#[]⟩/\s'.gens=g/\s'.os=os) (λ_ _=>False) ⟨h,g,d,t,os⟩:=by
 x_run
theorem rU{Q:Option Value->Shared->Prop}
  (hq:∀q ob s',Mem h s'.heap [] [(q,ob)]->ob=⟨.type "builtin_function_or_method",none,.fields #[.builtin "type.__prepare__",.type "type"],#[]⟩->s'.gens=g->s'.os=os->Q (some (.ref q)) s'):
  wpAny (model prog w) A (getAttr? (.type "type") "__prepare__") Q E ⟨h,g,d,t,os⟩:=by
 have f50:typeOf (.type "type")=pure (.type "type"):=by kernel_rfl
 have f51:typeLookup (.type "type") "__getattribute__"=pure (some (.builtin "type.__getattribute__")):=by rw[cN,bN];kernel_rfl
 have f52:hookBefore (.type "type")=pure none:=by kernel_rfl
 have f53:bindSpecial (.builtin "type.__getattribute__") (.type "type")=pure (.builtin "type.__getattribute__",[.type "type"]):=by kernel_rfl
 unfold getAttr? getAttrBy? getAttrBy;refine aa (iB (aa (gR (aQ (aa (bo f50 (aa (bo f51 ?_))))))));show wpAny _ _ (getAttrByItsOwn (.type "type") (.str "__prepare__" t) (.type "type") (.builtin "type.__getattribute__") false false) _ _ _;unfold getAttrByItsOwn callGetattribute boundAndCalled;refine aa (bo f52 (aa (gR (aQ ?_))));show wpAny _ _ (bindSpecial (.builtin "type.__getattribute__") (.type "type")>>=_) _ _ _;refine aa (bo f53 ?_);refine ao (xk t) (λv s' hv=> ?_) λ_ _ z=>z.elim;obtain⟨q,ob,D,rfl,e,hg,ho⟩:=hv;refine ae (ae (hq q ob s' D e hg ho))
end
structure jn (h:Heap) (c P:Addr) (ps:Array Value):Prop where
 hd:CodeHd h c P
 tab:h.get? P=some (PySem.W.tabObj ps)
 tri:TriplesOk ps.toList
theorem jS{p q:Pos} {c:Value} (l:List Value) (h:TriplesOk l) (apart_at:¬(q.line=p.line/\q.col=p.col)):
  codeAmong q (l++[rawInt p.line,rawInt p.col,c])=codeAmong q l:=by
 match l,h with
 |[],_=>
  have:((p.line:Int)==(q.line:Int)&&(p.col:Int)==(q.col:Int))=false:=by
   rw[Bool.eq_false_iff];intro e;rw[cG,gT,gT]at e;exact apart_at ⟨by omega,by omega⟩
  show(if((p.line:Int)==(q.line:Int)&&(p.col:Int)==(q.col:Int))=true then some c else codeAmong q [])=codeAmong q []
  rw[this];rfl
 | .int a _:: .int b _::x::r,h=>
  show(if(a==(q.line:Int)&&b==(q.col:Int))=true then some x else codeAmong q (r++_))=(if(a==(q.line:Int)&&b==(q.col:Int))=true then some x else codeAmong q r)
  rw[jS r h apart_at]
section
variable {M:Model} {A:Around} {E:Value->Shared->Prop} {s:Shared} {name qual:Str} {params:Arguments} {body:List Stmt} {scope:Scope} {env:Env} {c P:Addr} {ps:Array Value} {pos:Pos} {firstLine:Nat} {mg:Str->Option Value}
 {clos:List (Str×Addr)} {Q:Value->Shared->Prop}
theorem Pp(T:jn s.heap c P ps) (MS:∀cv,codeAmong pos ps.toList=some cv->∃c',cv= .ref c'/\s.heap.CodeRec cv qual) (w0:closureFor scope env=pure clos) (DV:env.globals=mainGlobals)
  (hg:s.heap.Ns mainGlobals mg) (gn:env.code= .ref c) (U0:mainGlobals≠P) (vR:c≠P) (hb:s.heap.BuiltinsAt mg P)
  (h:∀h' gX c' lW doc tk fa,Heap.ExtBut P s.heap h'->jn h' c P gX->codeAmong pos gX.toList=some (.ref c')->(∀q:Pos,¬(q.line=pos.line/\q.col=pos.col)->codeAmong q gX.toList=codeAmong q ps.toList)->
   (codeAmong pos ps.toList≠none->gX=ps)->(codeAmong pos ps.toList=none->s.heap.get? c'=none)->(codeAmong pos ps.toList=some (.ref c')\/codeAmong pos ps.toList=none)->h'.CodeRec (.ref c') qual->s.heap.get? fa=none->h'.get? fa=some (fnMade name qual params body scope clos doc ((mg "__name__").getD .none) c' lW)->
   Q (.ref fa) {s with heap:=h',toks:=tk}):
  wpAny M A (makeFunction name qual params (.stmts body) scope env [] [] [] pos firstLine) Q E s:=by
 cases oU:codeAmong pos ps.toList with
 |none=>
  refine makeFunction_K w0 DV hg gn T.hd T.tab T.tri oU U0 hb λc' lW doc h' tk hx GO f_tup mU yH=> ?_;have XN:∀b o,b≠P->s.heap.get? b=some o->(h'.push (fnMade name qual params body scope clos doc ((mg "__name__").getD .none) c' lW)).get? b=some o:=λb o sq e=>aB _ (hx b o sq e);have tri:TriplesOk (ps++ #[rawInt pos.line,rawInt pos.col,Value.ref c']).toList:=by
   rw[eJ];exact uB _ _ _ _ T.tri
  refine h _ _ c' lW doc tk _ XN ⟨?_,aB _ yH,tri⟩ ?_ ?_ (λq=>absurd oU q) (λ_=> ?_) (.inr oU) ?_ ?_ (aZ _ rfl)
  ·obtain⟨o,vs,file,tf,flags,tg,uU,text,tt,e,r⟩:=T.hd;exact⟨o,vs,file,tf,flags,tg,uU,text,tt,XN _ _ vR e,r⟩
  ·rw[eJ];exact uA _ T.tri oU
  ·intro q hq;rw[eJ];exact jS _ T.tri hq
  ·cases e:s.heap.get? c' with
   |none=>rfl
   |some o=>exact absurd (dY e) (Xd.mpr GO)
  ·obtain⟨c₂,o,vs,t,e1,e2,r⟩:=mU;exact⟨c₂,o,vs,t,e1,aB _ e2,r⟩
  ·cases e:s.heap.get? h'.objs.size with
   |none=>rfl
   |some o=>
    by_cases hp:h'.objs.size=P
    ·rw[hp]at e;have:=dY yH;rw[<-hp]at this;exact absurd this (pa _)
    ·exact absurd (dY (hx _ _ hp e)) (pa _)
 |some cv=>
  obtain⟨c',rfl,mU⟩:=MS cv oU;refine makeFunction_hit w0 DV hg gn T.hd T.tab T.tri oU hb λlW doc h' tk hk hsz=> ?_;have Sh:∀b o,s.heap.get? b=some o->(h'.push (fnMade name qual params body scope clos doc ((mg "__name__").getD .none) c' lW)).get? b=some o:=λb o e=>aB _ (hk b o e);refine h _ ps c' lW doc tk _ (λb o _ e=>Sh b o e) ⟨T.hd.keeps Sh,Sh _ _ T.tab,T.tri⟩ oU (λ_ _=>rfl) (λ_=>rfl) (λq=>by rw[oU]at q;cases q) (.inl oU) ?_ ?_ (aZ _ rfl)
  ·obtain⟨c₂,o,vs,t,e1,e2,r⟩:=mU;exact⟨c₂,o,vs,t,e1,Sh _ _ e2,r⟩
  ·cases e:s.heap.get? h'.objs.size with
   |none=>rfl
   |some o=>exact absurd (dY (hk _ _ e)) (pa _)
end
section
variable {M:Model} {A:Around} {E:Value->Shared->Prop} {s:Shared} {name qual:Str} {scope:Scope} {env:Env} {c P:Addr} {ps:Array Value} {pos:Pos} {firstLine:Nat} {Q:Value->Shared->Prop}
theorem y8{cv:Value} (T:jn s.heap c P ps) (gn:env.code= .ref c) (hf:codeAmong pos ps.toList=some cv) (h:Q cv s):wpAny M A (classCode env pos firstLine name qual scope) Q E s:=
 wpAny_codeAt_hit gn (T.hd.code T.tab T.tri) hf h
theorem xi(T:jn s.heap c P ps) (gn:env.code= .ref c) (Of:codeAmong pos ps.toList=none) (vR:c≠P)
  (h:∀c' P' h' tk,Heap.ExtBut P s.heap h'->jn h' c P (ps++ #[rawInt pos.line,rawInt pos.col,.ref c'])->jn h' c' P' #[]->s.heap.get? c'=none->s.heap.get? P'=none->c'≠P'->
   Q (.ref c') {s with heap:=h',toks:=tk}):wpAny M A (classCode env pos firstLine name qual scope) Q E s:=by
 obtain⟨o,vs,file,tf,flags,tg,uU,text,tt,op,ho,hd,VA,h2,h7,h9,Ia,Sa,Uu,XP,apart_at⟩:=T.hd.code T.tab T.tri;unfold classCode codeAt;rw[gn,aC (show ¬((Value.ref c==Value.none)=true)from bL)];refine aa (HI ho hd ?_);rw[VA];refine aa (HI Sa Uu ?_);rw[Of,h2,h7,h9,Ia];refine aa (wpAny_newCodeX λc' P' h' tk hk Ju Jy GR yG XW=> ?_);have P5:=hk _ _ Sa;refine aa (wpAny_updateFieldsOfTheText P5 Uu ?_);have DT:(Obj.mapFields (λvs=>if(codeAmong pos vs.toList).isSome=true then vs else vs++ #[rawInt pos.line,rawInt pos.col,.ref c']) op).data=
   .fields (ps++ #[rawInt pos.line,rawInt pos.col,.ref c']):=by
  rw[iD Uu,Of];rfl
 have ints_of:=cz (h:=h') (λo=>Obj.mapFields (λvs=>if(codeAmong pos vs.toList).isSome=true then vs else
  vs++ #[rawInt pos.line,rawInt pos.col,.ref c']) o) P5 (k8 DT)
 refine aa (HI ints_of DT ?_);have hl:(ps++ #[rawInt pos.line,rawInt pos.col,Value.ref c']).toList=ps.toList++[rawInt pos.line,rawInt pos.col,.ref c']:=by simp
 rw[hl,uA _ XP Of];have sb:=hM h' P (λo=>Obj.mapFields (λvs=>if(codeAmong pos vs.toList).isSome=true then vs else vs++ #[rawInt pos.line,rawInt pos.col,.ref c']) o);have dead:∀b,s.heap.objs.size<=b->s.heap.get? b=none:=λb hb=>by
  cases e:s.heap.get? b with
  |none=>rfl
  |some o=>exact absurd (dY e) (Xd.mpr hb)
 have XI:∀b,s.heap.objs.size<=b->b≠P:=λb hb=>NC (Xe (dY Sa) hb);have hx:Heap.ExtBut P s.heap _:=λb o' hb e=>sb.extBut b o' hb (hk b o' e);have MZ:c'≠P':=by obtain⟨_,_,_,_,_,_,_,_,_,_,_,_,_,_,_,_,_,_,_,_,r⟩:=GR;exact r
 refine ae (h c' P' _ _ hx ⟨?_, ?_, ?_⟩ ⟨?_, ?_,trivial⟩ (dead _ Ju) (dead _ Jy) MZ)
 ·obtain⟨o,vs,file,tf,flags,tg,uU,text,tt,e,r⟩:=T.hd;exact⟨o,vs,file,tf,flags,tg,uU,text,tt,hx _ _ vR e,r⟩
 ·have e1:op={cls:= .none,data:= .fields ps}:=bV (Sa.symm.trans T.tab);rw[ints_of,e1];simp only [Obj.mapFields,Of];rfl
 ·rw[hl];exact uB _ _ _ _ XP
 ·obtain⟨o,vs,file,tf,flags,tg,uU,text,tt,e,r⟩:=CodeHd.of GR yG;exact⟨o,vs,file,tf,flags,tg,uU,text,tt,sb.extBut _ _ (XI _ Ju) e,r⟩
 ·exact sb.extBut _ _ (XI _ Jy) yG.2
end
def gz (P N:Addr) (h h':Heap):Prop:=∀b o,b≠P->b≠N->h.get? b=some o->h'.get? b=some o
theorem gz.trans {P N:Addr} {Yy:Heap} (x:gz P N h h') (y:gz P N h' Yy):gz P N h Yy:=λb o p n e=>y b o p n (x b o p n e)
structure Ld (mg:Str->Option Value) (P N:Addr) (h:Heap):Prop where
 g:h.Ns mainGlobals mg
 b:h.BuiltinsAt mg P
 gP:mainGlobals≠P
 gN:mainGlobals≠N
section
variable {M:Model} {A:Around} {E:Value->Shared->Prop} {s:Shared} {name qual:Str} {params:Arguments} {body:List Stmt} {scope:Scope} {env:Env} {c P N:Addr} {ps:Array Value} {pos:Pos} {mg:Str->Option Value}
 {clos:List (Str×Addr)} {es:List DictEntry} {n:Nat}
theorem Ld.keep (x:Ld mg P N h) (k:gz P N h h') (hN:h.get? N=some (eh es n)):Ld mg P N h':=by
 refine⟨?_, ?_,x.gP,x.gN⟩
 ·obtain⟨o,es,ep,e,r⟩:=x.g;exact⟨o,es,ep,k _ _ x.gP x.gN e,r⟩
 ·obtain⟨bm,ob,h1,h2,h3,h4,h5,h6,h7,h8⟩:=x.b;refine⟨bm,ob,h1,h2,h3,h4,k _ _ h4 ?_ h5,h6,h7,h8⟩;rintro rfl;rw[hN]at h5;cases h5;exact absurd (c6 h6) (by decide)
theorem i4{v:Value} {es':Int->Tok->List DictEntry} {n':Nat} (hk:env.scope.kind= .class) (hl:env.locals=N) (fw:env.kindOf name=some .local\/(env.kindOf name=none/\compilersOwnNames.contains name=true))
  (uV:s.heap.get? N=some (eh es n)) (AI:aRefKeyMayBeTheName name es.toArray=false) (yI:∀H T,Obj.putName name H (.str name T) v (eh es n)=eh (es' H T) n')
  (h:∀H T h' tk,Heap.SameBut N s.heap h'->h'.get? N=some (eh (es' H T) n')->Q () {s with heap:=h',toks:=tk}):wpAny M A (storeName env name v) Q E s:=by
 have fin:wpAny M A (localSet env name v) Q E s:=by
  unfold localSet;rw[hl];refine aa (dZ uV ?_);rw[aD (by rfl)];unfold nsSet strHash;refine aa (aa (ql (ae ?_)));refine aa (iB (aa (uy uV ?_)));show wpAny M A (do
   if aRefKeyMayBeTheName name es.toArray=true then unsupported "namespace:key-that-is-no-exact-str"
   updatePart N (some (.str name 0)) (Obj.putName name _ _ v)) _ _ _
  rw[AI,aC (by decide)];refine aa (ae ?_);refine wpAny_updatePart uV ?_;exact h _ _ _ _ (hM ..) ((cz _ uV (by rw[yI];rfl)).trans (dg some (yI _ _)))
 unfold storeName;have e1:env.blockKind= .class:=by unfold Env.blockKind;rw[hk];rfl
 have e2:(ScopeKind.class==ScopeKind.function)=false:=by decide
 have e3:(ScopeKind.class==ScopeKind.class)=true:=by decide
 rcases fw with GN|⟨GN,tT⟩
 ·rw[GN,hk];simp only [e3,zt,jM];exact fin
 ·rw[GN,hk,e1];simp only [e2,e3,tT,zt,J0,pg,HK,bU,jM,gH];exact fin
theorem JO{Q:Flow->Shared->Prop} (hk:env.scope.kind= .class) (hl:env.locals=N) (DV:env.globals=mainGlobals) (gn:env.code= .ref c) (fw:env.kindOf name=some .local) (hq:env.qual++name=qual)
  (GQ:params.defaults=[]) (UU:params.kw_defaults=[]) (ha:annTrees params none env=[]) (w0:closureFor scope env=pure clos)
  (T:jn s.heap c P ps) (MS:∀cv,codeAmong pos ps.toList=some cv->∃c',cv= .ref c'/\s.heap.CodeRec cv qual) (vR:c≠P) (am:Ld mg P N s.heap)
  (uV:s.heap.get? N=some (eh es n)) (AI:aRefKeyMayBeTheName name es.toArray=false) (yI:∀v H T,Obj.putName name H (.str name T) v (eh es n)=eh (es++[⟨H,.str name T,v⟩]) (n+1))
  (h:∀h' gX c' lW doc tk fa H T,gz P N s.heap h'->jn h' c P gX->Ld mg P N h'->h'.get? N=some (eh (es++[⟨H,.str name T,.ref fa⟩]) (n+1))->codeAmong pos gX.toList=some (.ref c')->
   (∀q:Pos,¬(q.line=pos.line/\q.col=pos.col)->codeAmong q gX.toList=codeAmong q ps.toList)->(codeAmong pos ps.toList≠none->gX=ps)->h'.CodeRec (.ref c') qual->s.heap.get? fa=none->(codeAmong pos ps.toList=none->s.heap.get? c'=none)->
   (codeAmong pos ps.toList=some (.ref c')\/codeAmong pos ps.toList=none)->h'.get? fa=some (fnMade name qual params body scope clos doc ((mg "__name__").getD .none) c' lW)->Q .next {s with heap:=h',toks:=tk}):
  wpAny M A (exec (.FunctionDef name params body [] none [] scope none name pos) env) Q E s:=by
 refine nestDef_K GQ UU ha ?_;have hqi:qualnameIn env name name=qual:=by
  unfold qualnameIn;rw[fw,aC (by decide)];exact hq
 rw[hqi];refine Pp T MS w0 DV am.g gn am.gP vR am.b λfF gX c' lW doc tk fa hx T' oU Jk Gz U6 Uw mU MU Sp=> ?_;have M3:N≠P:=by
  rintro rfl;have e:=T.tab;rw[uV]at e;have:=dg Obj.cls (bV e);cases this
 have Ks:fF.get? N=some (eh es n):=hx _ _ M3 uV;have Qx:c≠N:=by
  rintro rfl;obtain⟨o,vs,_,_,_,_,_,_,_,e1,e2,_⟩:=T.hd;rw[uV]at e1;cases e1;exact absurd (c6 e2) (by decide)
 have faN:fa≠N:=λz=>by rw[z,uV]at MU;cases MU
 refine i4 (s:={s with heap:=fF,toks:=tk}) hk hl (.inl fw) Ks AI (es':=λH T=>es++[⟨H,.str name T,.ref fa⟩]) (yI _) λH T h₂ Xr sb P8=> ?_;have k2:gz P N s.heap h₂:=λb o hp hn e=>sb.extBut b o hn (hx b o hp e);refine h h₂ gX c' lW doc Xr fa H T k2 ⟨?_,sb.extBut _ _ M3.symm T'.tab,T'.tri⟩ (am.keep k2 uV) P8 oU Jk Gz ?_ MU U6 Uw (sb.extBut _ _ faN Sp)
 ·obtain⟨o,vs,file,tf,flags,tg,uU,text,tt,e,r⟩:=T'.hd;exact⟨o,vs,file,tf,flags,tg,uU,text,tt,sb.extBut _ _ Qx e,r⟩
 ·obtain⟨c₂,o,vs,t,e1,e2,e3,e4⟩:=mU;refine⟨c₂,o,vs,t,e1,sb.extBut _ _ ?_ e2,e3,e4⟩;rintro rfl;rw[Ks]at e2;cases e2;cases e3
end
section
variable {M:Model} {A:Around} {E:Value->Shared->Prop} {s:Shared} {name qual:Str} {params:Arguments} {body:List Stmt} {scope:Scope} {env:Env} {c P N:Addr} {ps:Array Value} {pos:Pos} {mg:Str->Option Value}
 {clos:List (Str×Addr)} {es:List DictEntry} {n:Nat} {L:List (Pos×Str)} {G:Addr->Prop}
theorem rh:∀{l:List Value},TriplesOk l->∀{q:Str} {t:Tok},l[1]?≠some (.str q t)
 |[],_,_,_,e=>by cases e
 | .int _ _:: .int _ _::_::_,_,_,_,e=>by cases e
theorem cU{cv:Value} {q:Str} (T:jn h c P ps) (hN:h.get? N=some (eh es n)) (k:gz P N h h') (x:h.CodeRec cv q):h'.CodeRec cv q:=by
 obtain⟨c₂,o,vs,t,e1,e2,e3,e4⟩:=x;refine⟨c₂,o,vs,t,e1,k _ _ ?_ ?_ e2,e3,e4⟩
 ·rintro rfl;rw[T.tab]at e2;cases e2;cases e3;exact rh T.tri (by rw[r6];exact e4)
 ·rintro rfl;rw[hN]at e2;cases e2;cases e3
structure CB (c P N:Addr) (mg:Str->Option Value) (L:List (Pos×Str)) (G:Addr->Prop) (h:Heap) (es:List DictEntry) (n:Nat) (ps:Array Value):Prop where
 T:jn h c P ps
 am:Ld mg P N h
 hN:h.get? N=some (eh es n)
 hits:∀x∈L,∀cv,codeAmong x.1 ps.toList=some cv->∃c',cv= .ref c'/\h.CodeRec cv x.2/\G c'
 dead:∀b,h.get? b=none->G b
theorem CB.ne (B:CB c P N mg L G h es n ps):N≠P/\c≠N:=by
 constructor
 ·rintro rfl;have e:=B.T.tab;rw[B.hN]at e;have:=dg Obj.cls (bV e);cases this
 ·rintro rfl;obtain⟨o,vs,_,_,_,_,_,_,_,e1,e2,_⟩:=B.T.hd;rw[B.hN]at e1;cases e1;exact absurd (c6 e2) (by decide)
theorem CB.store {es':List DictEntry} {n':Nat} (B:CB c P N mg L G h es n ps) (sb:Heap.SameBut N h h') (QC:h'.get? N=some (eh es' n')):CB c P N mg L G h' es' n' ps:=by
 obtain⟨M3,Qx⟩:=B.ne;have k2:gz P N h h':=λb o _ hn e=>sb.extBut b o hn e;refine⟨⟨?_,sb.extBut _ _ M3.symm B.T.tab,B.T.tri⟩,B.am.keep k2 B.hN,QC,λx hx cv hc=> ?_,λb hb=>B.dead b ?_⟩
 ·obtain⟨o,vs,file,tf,flags,tg,uU,text,tt,e,r⟩:=B.T.hd;exact⟨o,vs,file,tf,flags,tg,uU,text,tt,sb.extBut _ _ Qx e,r⟩
 ·obtain⟨c',e1,e2,e3⟩:=B.hits x hx cv hc;exact⟨c',e1,cU B.T B.hN k2 e2,e3⟩
 ·cases e:h.get? b with
  |none=>rfl
  |some o=>
   by_cases z:b=N
   ·rw[z,QC]at hb;cases hb
   ·rw[sb.extBut _ _ z e]at hb;cases hb
theorem Hg{Q:Flow->Shared->Prop} (hk:env.scope.kind= .class) (hl:env.locals=N) (DV:env.globals=mainGlobals) (gn:env.code= .ref c) (fw:env.kindOf name=some .local) (hq:env.qual++name=qual)
  (GQ:params.defaults=[]) (UU:params.kw_defaults=[]) (ha:annTrees params none env=[]) (w0:closureFor scope env=pure clos) (vR:c≠P)
  (B:CB c P N mg L G s.heap es n ps) (hm:(pos,qual)∈L) (hL:∀x∈L,x=(pos,qual)\/¬(x.1.line=pos.line/\x.1.col=pos.col))
  (AI:aRefKeyMayBeTheName name es.toArray=false) (yI:∀v H T,Obj.putName name H (.str name T) v (eh es n)=eh (es++[⟨H,.str name T,v⟩]) (n+1))
  (h:∀h' gX c' lW doc tk fa H T,gz P N s.heap h'->CB c P N mg L G h' (es++[⟨H,.str name T,.ref fa⟩]) (n+1) gX->s.heap.get? fa=none->h'.get? fa=some (fnMade name qual params body scope clos doc ((mg "__name__").getD .none) c' lW)->
   h'.CodeRec (.ref c') qual->G c'->codeAmong pos gX.toList≠none->(∀x∈L,codeAmong x.1 ps.toList≠none->codeAmong x.1 gX.toList≠none)->(codeAmong pos ps.toList≠none->gX=ps)->Q .next {s with heap:=h',toks:=tk}):
  wpAny M A (exec (.FunctionDef name params body [] none [] scope none name pos) env) Q E s:=by
 refine JO hk hl DV gn fw hq GQ UU ha w0 B.T (λcv hc=> ?_) vR B.am B.hN AI yI λh' gX c' lW doc tk fa H T k2 T' am' QC oU Jk Gz mU MU U6 Uw Sp=> ?_
 ·obtain⟨c',e1,e2,_⟩:=B.hits _ hm cv hc;exact⟨c',e1,e2⟩
 have gc:G c':=by
  rcases Uw with e|e
  ·obtain⟨c₂,e1,_,e3⟩:=B.hits _ hm _ e;cases e1;exact e3
  ·exact B.dead _ (U6 e)
 refine h h' gX c' lW doc tk fa H T k2 ⟨T',am',QC,λx hx cv hc=> ?_,λb hb=>B.dead b ?_⟩ MU Sp mU gc (by rw[oU];exact λz=>nomatch z) (λx hx hn=> ?_) Gz
 ·rcases hL x hx with rfl|z
  ·rw[oU]at hc;cases hc;exact⟨c',rfl,mU,gc⟩
  ·rw[Jk _ z]at hc;obtain⟨c₂,e1,e2,e3⟩:=B.hits x hx cv hc;exact⟨c₂,e1,cU B.T B.hN k2 e2,e3⟩
 ·cases e:s.heap.get? b with
  |none=>rfl
  |some o=>
   by_cases z:b=N
   ·rw[z,QC]at hb;cases hb
   ·by_cases z2:b=P
    ·rw[z2,T'.tab]at hb;cases hb
    ·rw[k2 _ _ z2 z e]at hb;cases hb
 ·rcases hL x hx with rfl|z
  ·rw[oU];exact λq=>nomatch q
  ·rw[Jk _ z];exact hn
end
structure FD where
 args:Arguments
 body:List Stmt
 scope:Scope
 pos:Pos
structure xt (d:FD) (cells:List (Str×Addr)) (clos:List (Str×Addr)):Prop where
 d0:d.args.defaults=[]
 k0:d.args.kw_defaults=[]
 ann:∀env,annTrees d.args none env=[]
 cl:∀env:Env,env.cells=cells->closureFor d.scope env=pure clos
def Mr (name:Str) (d:FD):Stmt:= .FunctionDef name d.args d.body [] none [] d.scope none name d.pos
def tJ (p:Nat->Pos) (d:Nat->FD):List Stmt:=
 [.Assign [.Name "__module__" (p 0)] (.Constant (.str "cpy313.functools") 0 (p 1)) (p 2),
  .Assign [.Name "__slots__" (p 3)] (.List [.Constant (.str "obj") 0 (p 4)] (p 5)) (p 6),
  Mr "__init__" (d 0),Mr "__lt__" (d 1),Mr "__gt__" (d 2),Mr "__eq__" (d 3),Mr "__le__" (d 4),Mr "__ge__" (d 5),
  .Assign [.Name "__hash__" (p 7)] (.Constant .none 0 (p 8)) (p 9)]
def jP:Scope:={kind:= .class,names:=[("__module__",.local),("__slots__",.local),("__init__",.local),("__lt__",.local),("__gt__",.local),("__eq__",.local),("__le__",.local),("__ge__",.local),("__hash__",.local),("mycmp",.free)],isGenerator:=false,isCoroutine:=false,more:=[]}
def mQ (N kc fr cell:Addr):Env:={scope:=jP,locals:=N,globals:=mainGlobals,cells:=[("mycmp",cell)],qual:="cmp_to_key.<locals>.K.",code:= .ref kc,frame:=some fr,builtins:=builtinsNs}
def kPairs (d:Nat->FD):List (Pos×Str):=[((d 0).pos,"cmp_to_key.<locals>.K.__init__"),((d 1).pos,"cmp_to_key.<locals>.K.__lt__"),((d 2).pos,"cmp_to_key.<locals>.K.__gt__"),((d 3).pos,"cmp_to_key.<locals>.K.__eq__"),
 ((d 4).pos,"cmp_to_key.<locals>.K.__le__"),((d 5).pos,"cmp_to_key.<locals>.K.__ge__")]
def lA (d:Nat->FD):Prop:=∀i j,i<6->j<6->i≠j->¬((d i).pos.line=(d j).pos.line/\(d i).pos.col=(d j).pos.col)
theorem N0(N kc fr cell:Addr):(mQ N kc fr cell).scope.kind= .class:=rfl
section
variable {prog:Program} {w:World} {A:Around} {E:Value->Shared->Prop} {s:Shared} {c P N fr cell:Addr} {ps:Array Value} {mg:Str->Option Value} {d:Nat->FD} {G:Addr->Prop} {p:Nat->Pos}
 {es:List DictEntry} {n:Nat}
theorem wO(hA:lA d) {i:Nat} (hi:i<6) {q:Str} (hq:(kPairs d)[i]? =some ((d i).pos,q)):∀x∈kPairs d,x=((d i).pos,q)\/¬(x.1.line=(d i).pos.line/\x.1.col=(d i).pos.col):=by
 intro x hx;obtain⟨j,hj⟩:=k9.mp hx;by_cases z:j=i
 ·subst z;rw[hq]at hj;exact .inl (bV hj).symm
 ·right
  match j,hj with
  |0,hj=>cases hj;exact hA 0 i (by omega) hi z
  |1,hj=>cases hj;exact hA 1 i (by omega) hi z
  |2,hj=>cases hj;exact hA 2 i (by omega) hi z
  |3,hj=>cases hj;exact hA 3 i (by omega) hi z
  |4,hj=>cases hj;exact hA 4 i (by omega) hi z
  |5,hj=>cases hj;exact hA 5 i (by omega) hi z
  |k+6,hj=>simp [kPairs]at hj
theorem vL{Q:Flow->Shared->Prop} (i:Nat) (hi:i<6) (name qual:Str) (clos:List (Str×Addr)) (hA:lA d) (hq:(kPairs d)[i]? =some ((d i).pos,qual)) (hok:xt (d i) [("mycmp",cell)] clos)
  (fw:(mQ N c fr cell).kindOf name=some .local) (hqq:(mQ N c fr cell).qual++name=qual) (vR:c≠P) (B:CB c P N mg (kPairs d) G s.heap es n ps)
  (AI:aRefKeyMayBeTheName name es.toArray=false) (yI:∀v H T,Obj.putName name H (.str name T) v (eh es n)=eh (es++[⟨H,.str name T,v⟩]) (n+1))
  (h:∀h' gX c' lW doc tk fa H T,gz P N s.heap h'->CB c P N mg (kPairs d) G h' (es++[⟨H,.str name T,.ref fa⟩]) (n+1) gX->s.heap.get? fa=none->h'.get? fa=some (fnMade name qual (d i).args (d i).body (d i).scope clos doc ((mg "__name__").getD .none) c' lW)->
   h'.CodeRec (.ref c') qual->G c'->codeAmong (d i).pos gX.toList≠none->(∀x∈kPairs d,codeAmong x.1 ps.toList≠none->codeAmong x.1 gX.toList≠none)->(codeAmong (d i).pos ps.toList≠none->gX=ps)->Q .next {s with heap:=h',toks:=tk}):
  wpAny (model prog w) A (exec (Mr name (d i)) (mQ N c fr cell)) Q E s:=
 Hg rfl rfl rfl rfl fw hqq hok.d0 hok.k0 (hok.ann _) (hok.cl _ rfl) vR B (bB hq) (wO hA hi hq) AI yI h
end
section
open PySem.Calls
section
variable {prog:Program} {w:World} {A:Around} {E:Value->Shared->Prop} {s:Shared} {c P N fr cell:Addr} {ps:Array Value} {mg:Str->Option Value} {d:Nat->FD} {G:Addr->Prop} {p:Nat->Pos}
theorem CB.cT {L:List (Pos×Str)} {es:List DictEntry} {n:Nat} (B:CB c P N mg L G h es n ps) (k:gz P N h h') {b:Addr} (e:h.get? b=some o) (hc:o.cls= .type "function"\/o.cls= .type "list"):h'.get? b=some o:=by
 refine k _ _ ?_ ?_ e
 ·rintro rfl;rw[B.T.tab]at e;cases e;rcases hc with hc|hc<;>cases hc
 ·rintro rfl;rw[B.hN]at e;cases e;rcases hc with hc|hc<;>exact absurd (c6 hc) (by decide)
theorem CB.keeps {L:List (Pos×Str)} {h h':Heap} {es:List DictEntry} {n:Nat} (B:CB c P N mg L G h es n ps) (k:∀b o,h.get? b=some o->h'.get? b=some o):CB c P N mg L G h' es n ps:=by
 refine⟨⟨B.T.hd.keeps k,k _ _ B.T.tab,B.T.tri⟩,B.am.keep (λb o _ _ e=>k b o e) B.hN,k _ _ B.hN,λx hx cv hc=> ?_,λb hb=>B.dead b ?_⟩
 ·obtain⟨c',e1,e2,e3⟩:=B.hits x hx cv hc;exact⟨c',e1,cU B.T B.hN (λb o _ _ e=>k b o e) e2,e3⟩
 ·cases e:h.get? b with
  |none=>rfl
  |some o=>rw[k _ _ e]at hb;cases hb
structure Bj (h:Heap) (mg:Str->Option Value) (d:Nat->FD) (cell:Addr) (G:Addr->Prop) (r:KN):Prop where
 fi:∃doc c' lW,h.get? r.fi=some (fnMade "__init__" "cmp_to_key.<locals>.K.__init__" (d 0).args (d 0).body (d 0).scope [] doc ((mg "__name__").getD .none) c' lW)/\h.CodeRec (.ref c') "cmp_to_key.<locals>.K.__init__"/\G c'
 t6:∃doc c' lW,h.get? r.t6=some (fnMade "__lt__" "cmp_to_key.<locals>.K.__lt__" (d 1).args (d 1).body (d 1).scope [("mycmp",cell)] doc ((mg "__name__").getD .none) c' lW)/\h.CodeRec (.ref c') "cmp_to_key.<locals>.K.__lt__"/\G c'
 sl:∃t3 n2,h.get? r.sl=some ⟨.type "list",none,.seq #[.str "obj" t3] n2,#[]⟩
 EJ:∃o,h.get? r.EJ=some o/\o.cls= .type "function"
 Ec:∃o,h.get? r.Ec=some o/\o.cls= .type "function"
 EI:∃o,h.get? r.EI=some o/\o.cls= .type "function"
 EK:∃o,h.get? r.EK=some o/\o.cls= .type "function"
set_option maxHeartbeats 4000000 in
theorem Mu{Q:Flow->Shared->Prop} {H0 H1 H2:Int} {T0 T1 T2 tq tl:Tok} {v0:Value} {line:Int} (hA:lA d) (AK:xt (d 0) [("mycmp",cell)] []) (hok:∀i,1<=i->i<6->xt (d i) [("mycmp",cell)] [("mycmp",cell)]) (vR:c≠P)
  (B:CB c P N mg (kPairs d) G s.heap [⟨H0,.str "__module__" T0,v0⟩,⟨H1,.str "__qualname__" T1,.str fg tq⟩,⟨H2,.str "__firstlineno__" T2,.int line tl⟩] 3 ps)
  (h:∀h' gX tk r,gz P N s.heap h'->CB c P N mg (kPairs d) G h' ((zx r).take 11) 11 gX->Bj h' mg d cell G r->s.heap.get? r.fi=none->s.heap.get? r.t6=none->(∀x∈kPairs d,codeAmong x.1 gX.toList≠none)->((∀x∈kPairs d,codeAmong x.1 ps.toList≠none)->gX=ps)->
   r.tq=tq->r.line=line->Q .next {s with heap:=h',toks:=tk}):
  wpAny (model prog w) A (execs (tJ p d) (mQ N c fr cell)) Q E s:=by
 have back:∀{fF h₂:Heap} {es:List DictEntry} {n:Nat} {Kb:Array Value},CB c P N mg (kPairs d) G fF es n Kb->∀{b:Addr},h₂.get? b=none->gz P N fF h₂->(∃o,h₂.get? P=some o)->(∃o,h₂.get? N=some o)->fF.get? b=none:=by
  intro fF h₂ es n Kb B b hb k hP hN;cases e:fF.get? b with
  |none=>rfl
  |some o=>
   by_cases z:b=N
   ·obtain⟨o,q⟩:=hN;rw[z,q]at hb;cases hb
   ·by_cases z2:b=P
    ·obtain⟨o,q⟩:=hP;rw[z2,q]at hb;cases hb
    ·rw[k _ _ z2 z e]at hb;cases hb
 unfold tJ;refine eR (zk (W6 ?_));refine i4 (es':=λ_ _=>[⟨H0,.str "__module__" T0,.str "cpy313.functools" s.toks⟩,⟨H1,.str "__qualname__" T1,.str fg tq⟩,⟨H2,.str "__firstlineno__" T2,.int line tl⟩]) (n':=3) rfl rfl (.inl (by kernel_rfl)) B.hN (by kernel_rfl) (λ_ _=>by kernel_rfl) λ_ _ ha NW O6 SA=> ?_
 have Ba:=B.store O6 SA;have ka:gz P N s.heap ha:=λb o _ hn e=>O6.extBut b o hn e;refine eR (zk (wpAny_List ?_));show wpAny _ _ (spliced [(false,eval (.Constant (.str "obj") 0 (p 4)) _)]) _ _ _;refine spliced_cons (W6 (spliced_nil ⟨by size_fits, ?_⟩));have Uj:(ha.push {cls:= .type "list",data:= .seq #[.str "obj" NW]}).get? ha.objs.size=some _:=aZ _ rfl;have Bp:=Ba.keeps (h':=ha.push {cls:= .type "list",data:= .seq #[.str "obj" NW]}) λ_ _ e=>aB _ e;have kp:gz P N ha (ha.push {cls:= .type "list",data:= .seq #[.str "obj" NW]}):=λ_ _ _ _ e=>aB _ e;refine i4 (es':=λH T=>[⟨H0,.str "__module__" T0,.str "cpy313.functools" s.toks⟩,⟨H1,.str "__qualname__" T1,.str fg tq⟩,⟨H2,.str "__firstlineno__" T2,.int line tl⟩,⟨H,.str "__slots__" T,.ref ha.objs.size⟩]) (n':=4) rfl rfl (.inl (by kernel_rfl)) Bp.hN (by kernel_rfl) (λ_ _=>by kernel_rfl) λH3 T3 hb Xq O5 Sz=> ?_
 have Bb:=Bp.store O5 Sz;have kb:gz P N _ hb:=λb o _ hn e=>O5.extBut b o hn e;have ZL:=Bp.cT kb Uj (.inr rfl);refine eR (vL 0 (by decide) "__init__" "cmp_to_key.<locals>.K.__init__" [] hA rfl AK (by kernel_rfl) (by kernel_rfl) vR Bb (by kernel_rfl) (λ_ _ _=>by kernel_rfl) λh0 ps0 c0 Q0 QW tk0 YV H4 T4 k0 B0 fd0 fo0 Tx VC at0 ZH Pg=> ?_);have Tt:=Bb.cT k0 ZL (.inr rfl);refine eR (vL 1 (by decide) "__lt__" "cmp_to_key.<locals>.K.__lt__" [("mycmp",cell)] hA rfl (hok 1 (by decide) (by decide)) (by kernel_rfl) (by kernel_rfl) vR B0 (by kernel_rfl) (λ_ _ _=>by kernel_rfl) λh1 ps1 c1 QZ QV tk1 YT H5 T5 k1 B1 fd1 fo1 Tw VB at1 Tj Pb=> ?_);have Ts:=B0.cT k1 Tt (.inr rfl);have WH:=B0.cT k1 fo0 (.inl rfl);have Mi:=cU B0.T B0.hN k1 Tx;refine eR (vL 2 (by decide) "__gt__" "cmp_to_key.<locals>.K.__gt__" [("mycmp",cell)] hA rfl (hok 2 (by decide) (by decide)) (by kernel_rfl) (by kernel_rfl) vR B1 (by kernel_rfl) (λ_ _ _=>by kernel_rfl) λh2 Dh c2 acZ acT Xr YS H6 T6 k2 B2 fd2 fo2 ZR gc2 at2 OX Pa=> ?_);have Tr:=B1.cT k2 Ts (.inr rfl);have WG:=B1.cT k2 WH (.inl rfl);have Wy:=B1.cT k2 fo1 (.inl rfl);have Mh:=cU B1.T B1.hN k2 Mi;have Ma:=cU B1.T B1.hN k2 Tw;refine eR (vL 3 (by decide) "__eq__" "cmp_to_key.<locals>.K.__eq__" [("mycmp",cell)] hA rfl (hok 3 (by decide) (by decide)) (by kernel_rfl) (by kernel_rfl) vR B2 (by kernel_rfl) (λ_ _ _=>by kernel_rfl) λh3 Pk c3 acY acS tk3 YR H7 T7 k3 B3 fd3 fo3 ZQ gc3 at3 LR O9=> ?_);have Tq:=B2.cT k3 Tr (.inr rfl);have WD:=B2.cT k3 WG (.inl rfl);have Wx:=B2.cT k3 Wy (.inl rfl);have Wt:=B2.cT k3 fo2 (.inl rfl);have Mg:=cU B2.T B2.hN k3 Mh;have L9:=cU B2.T B2.hN k3 Ma;refine eR (vL 4 (by decide) "__le__" "cmp_to_key.<locals>.K.__le__" [("mycmp",cell)] hA rfl (hok 4 (by decide) (by decide)) (by kernel_rfl) (by kernel_rfl) vR B3 (by kernel_rfl) (λ_ _ _=>by kernel_rfl) λh4 ps4 c4 acX acR tk4 YQ H8 T8 k4 B4 fd4 fo4 ZP gc4 at4 Iy O8=> ?_);have Tp:=B3.cT k4 Tq (.inr rfl);have WC:=B3.cT k4 WD (.inl rfl);have Ww:=B3.cT k4 Wx (.inl rfl);have Ws:=B3.cT k4 Wt (.inl rfl);have Wo:=B3.cT k4 fo3 (.inl rfl);have Mf:=cU B3.T B3.hN k4 Mg;have L8:=cU B3.T B3.hN k4 L9;refine eR (vL 5 (by decide) "__ge__" "cmp_to_key.<locals>.K.__ge__" [("mycmp",cell)] hA rfl (hok 5 (by decide) (by decide)) (by kernel_rfl) (by kernel_rfl) vR B4 (by kernel_rfl) (λ_ _ _=>by kernel_rfl) λh5 ZU c5 acW acQ tk5 YP H9 T9 k5 B5 fd5 fo5 ZO gc5 at5 Fv O7=> ?_);have To:=B4.cT k5 Tp (.inr rfl);have WB:=B4.cT k5 WC (.inl rfl);have Wv:=B4.cT k5 Ww (.inl rfl);have Wr:=B4.cT k5 Ws (.inl rfl);have Wn:=B4.cT k5 Wo (.inl rfl);have Wk:=B4.cT k5 fo4 (.inl rfl);have Md:=cU B4.T B4.hN k5 Mf;have L7:=cU B4.T B4.hN k5 L8;refine eR (zk (wpAny_Constant_none ?_));refine i4 (es':=λH T=>[⟨H0,.str "__module__" T0,.str "cpy313.functools" s.toks⟩,⟨H1,.str "__qualname__" T1,.str fg tq⟩,⟨H2,.str "__firstlineno__" T2,.int line tl⟩,⟨H3,.str "__slots__" T3,.ref ha.objs.size⟩,⟨H4,.str "__init__" T4,.ref YV⟩,⟨H5,.str "__lt__" T5,.ref YT⟩,⟨H6,.str "__gt__" T6,.ref YS⟩,⟨H7,.str "__eq__" T7,.ref YR⟩,⟨H8,.str "__le__" T8,.ref YQ⟩,⟨H9,.str "__ge__" T9,.ref YP⟩,⟨H,.str "__hash__" T,.none⟩]) (n':=11) rfl rfl (.inl (by kernel_rfl)) B5.hN (by kernel_rfl) (λ_ _=>by kernel_rfl) λH10 T10 hz RG Xy hNz=> ?_
 have Bz:=B5.store Xy hNz;have kz:gz P N _ hz:=λb o _ hn e=>Xy.extBut b o hn e;have Tn:=B5.cT kz To (.inr rfl);have Wz:=B5.cT kz WB (.inl rfl);have Wu:=B5.cT kz Wv (.inl rfl);have Wq:=B5.cT kz Wr (.inl rfl);have Wm:=B5.cT kz Wn (.inl rfl);have Wj:=B5.cT kz Wk (.inl rfl);have Wh:=B5.cT kz fo5 (.inl rfl);have Mb:=cU B5.T B5.hN kz Md;have L4:=cU B5.T B5.hN kz L7;rw[execs_nil];refine ae ?_;have K0:gz P N s.heap hb:=((ka.trans kp).trans kb);have K1:=K0.trans k0;have K2:=K1.trans k1;have K3:=K2.trans k2;have K4:=K3.trans k3;have K5:=K4.trans k4;have K6:=K5.trans k5;have K7:=K6.trans kz;refine h hz ZU RG ⟨λi=>([H0,H1,H2,H3,H4,H5,H6,H7,H8,H9,H10]:List Int).getD i 0,λi=>([T0,T1,T2,T3,T4,T5,T6,T7,T8,T9,T10]:List Tok).getD i 0,s.toks,tq,line,tl,ha.objs.size,YV,YT,YS,YR,YQ,YP,0⟩ K7 Bz ⟨⟨_,_,_,Wz,Mb,VC⟩,⟨_,_,_,Wu,L4,VB⟩,⟨_,_,Tn⟩,⟨_,Wq,rfl⟩,⟨_,Wm,rfl⟩,⟨_,Wj,rfl⟩,⟨_,Wh,rfl⟩⟩
  (back B fd0 K0 ⟨_,Bb.T.tab⟩ ⟨_,Bb.hN⟩) (back B fd1 K1 ⟨_,B0.T.tab⟩ ⟨_,B0.hN⟩) ?_ ?_ rfl rfl
 ·intro x hx;obtain⟨j,hj⟩:=k9.mp hx
  match j,hj with
  |0,hj=>cases hj;exact Fv _ hx (Iy _ hx (LR _ hx (OX _ hx (Tj _ hx at0))))
  |1,hj=>cases hj;exact Fv _ hx (Iy _ hx (LR _ hx (OX _ hx at1)))
  |2,hj=>cases hj;exact Fv _ hx (Iy _ hx (LR _ hx at2))
  |3,hj=>cases hj;exact Fv _ hx (Iy _ hx at3)
  |4,hj=>cases hj;exact Fv _ hx at4
  |5,hj=>cases hj;exact at5
  |k+6,hj=>simp [kPairs]at hj
 ·intro tV;have m:∀(i:Nat) q,(kPairs d)[i]? =some ((d i).pos,q)->codeAmong (d i).pos ps.toList≠none:=λi q e=>tV _ (bB e);have e0:=Pg (m 0 _ rfl);subst e0;have e1:=Pb (m 1 _ rfl);subst e1;have e2:=Pa (m 2 _ rfl);subst e2;have e3:=O9 (m 3 _ rfl);subst e3;have e4:=O8 (m 4 _ rfl);subst e4;exact O7 (m 5 _ rfl)
end
end
section
open PySem.Calls
theorem Dt{M:Model} {ms:Str->Option Value} (hst:h.Ns cStatics ms) (e:ms "thirdparty.any"=none) (C:Addr):Looks M h (opaqueClassAbove (.ref C)) none:=by
 intro A Q E s k q;have hn:=hst.keeps k;show wpAny M A (do
   if !(<-anyOpaqueLoaded)then return none
   for t in (<-mroOf (.ref C))do
    if let .ref a:=t then
     if let some k<-opaqueClassKey? a then return some k
   return none) Q E s
 unfold anyOpaqueLoaded;refine aa (aa (j0 hn (ae ?_)));rw[e];rw[aD (show(!(none:Option Value).isSome)=true from rfl)]
 exact ae q
theorem uQ{P N kc fr cell:Addr} {mg:Str->Option Value} {v:Value} {Q:Value->Shared->Prop}
  (Am:Ld mg P N s.heap) (hN:s.heap.get? N=some (eh [] 0)) (hv:mg "__name__"=some v) (h:Q v s):wpAny (model prog w) A (loadName (mQ N kc fr cell) "__name__") Q E s:=by
 unfold loadName;have e1:(mQ N kc fr cell).kindOf "__name__"=none:=by kernel_rfl
 have e2:(mQ N kc fr cell).blockKind= .class:=rfl;have e3:((mQ N kc fr cell).scope.kind.isAnnotationScope&&(mQ N kc fr cell).kindOf "__classdict__"==some .free&&("__name__":Str) !="__classdict__")=false:=by kernel_rfl
 have e4:(!compilersOwnNames.contains ("__name__":Str))=false:=by kernel_rfl
 rw[e1,e2,e3];simp only [bU,gH,e4];unfold localGet;refine aa (aa (dZ hN ?_));rw[aD (by rfl)];refine aa ?_;refine uy hN ?_;have e5:nsLook "__name__" (eh [] 0)=pure none:=by kernel_rfl
 rw[e5];refine ae ?_;show wpAny _ _ (loadGlobal _ _) _ _ _;unfold loadGlobal;refine aa (j0 Am.g ?_);rw[hv];exact ae h
def KN.fin (r:KN) (H:Int) (T:Tok) (sa:Addr):KN:={r with H:=λi=>if i=11 then H else r.H i,T:=λi=>if i=11 then T else r.T i,sa:=sa}
theorem KN.Wf (r:KN) (H:Int) (T:Tok) (sa:Addr):zx (r.fin H T sa)=(zx r).take 11++[⟨H,.str "__static_attributes__" T,.ref sa⟩]:=rfl
theorem Bj.mono {mg:Str->Option Value} {d:Nat->FD} {cell:Addr} {G G':Addr->Prop} {r:KN} (x:Bj h mg d cell G r) (k:∀b o,h.get? b=some o->(o.cls= .type "function"\/o.cls= .type "list"\/(∃q,h.CodeRec (.ref b) q))->h'.get? b=some o)
  (g:∀b,G b->G' b):Bj h' mg d cell G' r:=by
 have kc:∀{c':Addr} {q:Str},h.CodeRec (.ref c') q->h'.CodeRec (.ref c') q:=fun{c' q} z=>by
  obtain⟨c₂,o,vs,t,e1,e2,e3⟩:=id z;cases e1;exact⟨c',o,vs,t,rfl,k _ _ e2 (.inr (.inr ⟨q,z⟩)),e3⟩
 obtain⟨⟨d0,c0,t0,a0,a1,a2⟩,⟨d1,c1,t1,b0,b1,b2⟩,⟨t3,n2,s⟩,⟨o1,f1,g1⟩,⟨o2,f2,g2⟩,⟨o3,f3,g3⟩,⟨o4,f4,g4⟩⟩:=x;exact⟨⟨d0,c0,t0,k _ _ a0 (.inl rfl),kc a1,g _ a2⟩,⟨d1,c1,t1,k _ _ b0 (.inl rfl),kc b1,g _ b2⟩,⟨t3,n2,k _ _ s (.inr (.inl rfl))⟩,⟨o1,k _ _ f1 (.inl g1),g1⟩,⟨o2,k _ _ f2 (.inl g2),g2⟩,⟨o3,k _ _ f3 (.inl g3),g3⟩,⟨o4,k _ _ f4 (.inl g4),g4⟩⟩
structure KCls (h:Heap) (mg:Str->Option Value) (d:Nat->FD) (G:Addr->Prop) (cell a ns md B:Addr) (r:KN):Prop where
 cls:∃tk,h.get? a=some (kObj a ns B tk r.tq)
 dict:∃h1 t1 h2 t2,h.get? ns=some (eh (kO r h1 t1 md h2 t2) 3)
 md:∃tm,h.get? md=some (I9 tm a)
 fns:Bj h mg d cell G r
def KTab (h:Heap) (c P:Addr) (pos:Pos) (d:Nat->FD) (G:Addr->Prop):Prop:=
 ∃ps,jn h c P ps/\∀cv,codeAmong pos ps.toList=some cv->∃kc P' gX,cv= .ref kc/\G kc/\G P'/\jn h kc P' gX/\kc≠P'/\(∀x∈kPairs d,∃c',codeAmong x.1 gX.toList=some (.ref c')/\h.CodeRec (.ref c') x.2/\G c')
end
section
open PySem.Calls
section
variable {prog:Program} {w:World} {A:Around} {E:Value->Shared->Prop} {c P N fr cell B:Addr} {ps:Array Value} {mg ms:Str->Option Value} {d:Nat->FD} {G:Addr->Prop} {p:Nat->Pos} {line:Int} {tk:Tok} {vn:Value}
 {h:Heap} {g:Array GenState} {dr:Drawn} {t:Nat} {os:OsState}
theorem jR{cv:Value} {q:Str} (x:h.CodeRec cv q) (k:∀b o,h.get? b=some o->h'.get? b=some o):h'.CodeRec cv q:=by
 obtain⟨c₂,o,vs,t,e1,e2,e3⟩:=x;exact⟨c₂,o,vs,t,e1,k _ _ e2,e3⟩
set_option maxHeartbeats 4000000 in
theorem A7{Q:Value->Shared->Prop} {f:Value->Sem Value} (Am:Ld mg P N h) (hN:h.get? N=some (eh [] 0)) (T:jn h c P ps) (vR:c≠P)
  (hits:∀x∈kPairs d,∀cv,codeAmong x.1 ps.toList=some cv->∃c',cv= .ref c'/\h.CodeRec cv x.2/\G c') (dead:∀b,h.get? b=none->G b)
  (hB:h.get? B=some (⟨.type "tuple",none,.seq #[.type "object"] 0,#[]⟩)) (hst:h.Ns cStatics ms) (hs1:ms "thirdparty.any"=none) (hs2:ms "sys.recursionlimit"=none)
  (Um:cStatics≠P) (Un:cStatics≠N) (KJ:(N==sysModules)=false) (hA:lA d) (AK:xt (d 0) [(("mycmp":Str),cell)] [])
  (hok:∀i,1<=i->i<6->xt (d i) [(("mycmp":Str),cell)] [(("mycmp":Str),cell)]) (wZ:A.depth<recursionLimit) (hnm:mg "__name__"=some vn)
  (q:∀a ns md r Dh s',gz P N h s'.heap->jn s'.heap c P Dh->KCls s'.heap mg d G cell a ns md B r->h.get? a=none->h.get? ns=none->h.get? md=none->h.get? r.fi=none->h.get? r.t6=none->
   (∀x∈kPairs d,∃c',codeAmong x.1 Dh.toList=some (.ref c')/\s'.heap.CodeRec (.ref c') x.2/\G c')->((∀x∈kPairs d,codeAmong x.1 ps.toList≠none)->Dh=ps)->s'.gens=g->s'.os=os->wpAny (model prog w) A (f (.ref a)) Q E s'):
  wpAny (model prog w) A (do
   enterFrame
   (do
     storeName (mQ N c fr cell) "__module__" (<-loadName (mQ N c fr cell) "__name__")
     storeName (mQ N c fr cell) "__qualname__" (<-mkText fg)
     storeName (mQ N c fr cell) "__firstlineno__" (<-mkInt line)
     pure ():Sem Unit).onRaise (leavingAround (mQ N c fr cell))
   let _<-run (.body (tJ p d) (mQ N c fr cell))
   (do
     storeName (mQ N c fr cell) "__static_attributes__" (<-newTextTuple (<-[("obj":Str)].mapM mkText))
     pure ():Sem Unit).onRaise (leavingAround (mQ N c fr cell))
   let cls<-call (.type "type") [.str "K" tk,.ref B,.ref N] []
   f cls) Q E ⟨h,g,dr,t,os⟩:=by
 refine aa (wpAny_enterFrame ⟨_,hst,hs2⟩ wZ ?_);refine aa (JX (aa (uQ Am hN hnm ?_)));refine aa (i4 (es':=λH T=>[⟨H,.str "__module__" T,vn⟩]) (n':=1) rfl rfl (.inl (by kernel_rfl)) hN (by kernel_rfl) (λ_ _=>by kernel_rfl) λH0 T0 ha NW O6 SA=> ?_);refine aa (iB (aa ?_));refine i4 (es':=λH T=>[⟨H0,.str "__module__" T0,vn⟩,⟨H,.str "__qualname__" T,.str fg NW⟩]) (n':=2) rfl rfl (.inr ⟨by kernel_rfl,by kernel_rfl⟩) SA (by kernel_rfl) (λ_ _=>by kernel_rfl) λH1 T1 hb Xq O5 Sz=> ?_;refine aa (wpAny_mkInt (aa ?_));refine i4 (es':=λH T=>[⟨H0,.str "__module__" T0,vn⟩,⟨H1,.str "__qualname__" T1,.str fg NW⟩,⟨H,.str "__firstlineno__" T,.int line Xq⟩]) (n':=3) rfl rfl (.inr ⟨by kernel_rfl,by kernel_rfl⟩) Sz (by kernel_rfl) (λ_ _=>by kernel_rfl) λH2 T2 hc tkc Xz hNc=> ?_
 refine ae ?_;have B0:CB c P N mg (kPairs d) G h [] 0 ps:=⟨T,Am,hN,hits,dead⟩;have Bc:=((B0.store O6 SA).store O5 Sz).store Xz hNc;have kc:gz P N h hc:=λb o _ hn e=>Xz.extBut b o hn (O5.extBut b o hn (O6.extBut b o hn e));have alive:∀{h':Heap} {es:List DictEntry} {n:Nat} {gX:Array Value},CB c P N mg (kPairs d) G h' es n gX->gz P N h h'->∀b,h'.get? b=none->h.get? b=none:=fun{h' es n gX} B k b hb=>by
  cases e:h.get? b with
  |none=>rfl
  |some o=>
   by_cases z:b=N
   ·rw[z,B.hN]at hb;cases hb
   ·by_cases z2:b=P
    ·rw[z2,B.T.tab]at hb;cases hb
    ·rw[k _ _ z2 z e]at hb;cases hb
 refine aa (wpAny_run (codeAny_body (by kernel_rfl) (by kernel_rfl) ?_));refine Mu hA AK hok vR Bc λhz XC RG r kz Bz F fi0 VM full same rtq XA=> ?_;dsimp only;refine aa (JX ?_);rw[show List.mapM (m:=Sem) mkText [("obj":Str)]=(mkText "obj">>=λx=>pure [x])from rfl];refine aa (aa (iB (ae (aa (wpAny_newTextTuple (aa ?_))))));dsimp only;have PZ:(hz.push {cls:= .type "tuple",data:= .seq #[.str "obj" RG]}).get? hz.objs.size=some _:=aZ _ rfl;have kp:∀b o,hz.get? b=some o->(hz.push {cls:= .type "tuple",data:= .seq #[.str "obj" RG]}).get? b=some o:=λ_ _ e=>aB _ e;have Bp:=Bz.keeps kp;refine i4 (es':=λH T=>zx (r.fin H T hz.objs.size)) (n':=12) rfl rfl (.inr ⟨by kernel_rfl,by kernel_rfl⟩) Bp.hN (by kernel_rfl) (λ_ _=>by kernel_rfl) λRj Rf hw tkw RH Yr=> ?_;refine ae ?_;have Bw:=Bp.store RH Yr;have kw:gz P N h hw:=kc.trans (kz.trans (λb o _ hn e=>RH.extBut b o hn (kp _ _ e)));have Z7:gz P N hz hw:=λb o _ hn e=>RH.extBut b o hn (kp _ _ e);have Fw:Bj hw mg d cell G (r.fin Rj Rf hz.objs.size):=by
  have F':Bj hz mg d cell G (r.fin Rj Rf hz.objs.size):=⟨F.fi,F.t6,F.sl,F.EJ,F.Ec,F.EI,F.EK⟩;refine F'.mono (λb o e ho=> ?_) λ_ x=>x;refine Z7 b o ?_ ?_ e
  ·rintro rfl;rw[Bz.T.tab]at e;cases e;rcases ho with ho|ho|⟨q,c₂,o,vs,t,e1,e2,e3,e4⟩
   ·cases ho
   ·cases ho
   ·cases e1;rw[Bz.T.tab]at e2;cases e2;cases e3;exact rh Bz.T.tri (by rw[r6];exact e4)
  ·rintro rfl;rw[Bz.hN]at e;cases e;rcases ho with ho|ho|⟨q,c₂,o,vs,t,e1,e2,e3,e4⟩
   ·exact absurd (c6 ho) (by decide)
   ·exact absurd (c6 ho) (by decide)
   ·cases e1;rw[Bz.hN]at e2;cases e2;cases e3
 have hBN:B≠N:=by rintro rfl;rw[hN]at hB;exact absurd (c6 (dg Obj.cls (bV hB))) (by decide)
 have Vy:B≠P:=by rintro rfl;rw[T.tab]at hB;cases (dg Obj.cls (bV hB))
 have f_tup:N<hz.objs.size:=dY Bz.hN;have Vw:uv (r.fin Rj Rf hz.objs.size) hw:=by
  obtain⟨⟨_,_,_,x0,_⟩,⟨_,_,_,x1,_⟩,⟨_,_,x2⟩,x3,x4,x5,x6⟩:=Fw;refine⟨⟨_,x2,rfl⟩,⟨_,x0,rfl⟩,⟨_,x1,rfl⟩,x3,x4,x5,x6,⟨_,RH.extBut _ _ ?_ PZ,rfl⟩⟩;intro z;have z':hz.objs.size=N:=z;rw[z']at f_tup;exact pa _ f_tup
 obtain⟨t3,n2,hsl⟩:=Fw.sl;refine aa (Ek (r.fin Rj Rf hz.objs.size) B N tk t3 12 n2 (kw _ _ Vy hBN hB) Yr hsl KJ Vw
  (Dt (let ⟨o,es,ep,e,r⟩:=hst;⟨o,es,ep,kw _ _ Um Un e,r⟩) hs1) _ λa ns md h1 t1 h2 t2 s' k5 ea SQ SU da QX QY g5 o5=> ?_)
 have k6:gz P N h s'.heap:=λb o hp hn e=>k5 _ _ (kw _ _ hp hn e);refine q a ns md (r.fin Rj Rf hz.objs.size) XC s' k6 ⟨Bw.T.hd.keeps k5,k5 _ _ Bw.T.tab,Bw.T.tri⟩ ⟨⟨_,ea⟩,⟨_,_,_,_,SQ⟩,SU,Fw.mono (λb o e _=>k5 _ _ e) λ_ x=>x⟩ (alive Bw kw _ da) (alive Bw kw _ QX) (alive Bw kw _ QY) (alive Bc kc _ fi0) (alive Bc kc _ VM)
  (λx hx=> ?_) (λh=>same h) g5 o5
 cases oU:codeAmong x.1 XC.toList with
 |none=>exact absurd oU (full x hx)
 |some cv=>
  obtain⟨c',rfl,e2,e3⟩:=Bw.hits x hx cv oU;exact⟨c',rfl,jR e2 k5,e3⟩
end
end
section
open PySem.Calls
theorem VO:typeOf (.type "object")=pure (.type "type"):=YL
theorem VN:typeLookup (.type "dict") "__getitem__"=pure (some (.builtin "dict.__getitem__")):=by rw[cN,bN];kernel_rfl
theorem acs:jP.names.lookup ("__class__":Str)=none:=by kernel_rfl
theorem acr:jP.names.lookup ("__classdict__":Str)=none:=by kernel_rfl
theorem Jw{M:Model} {env:Env} {pos:Pos} {n:Nat} {a b:Str} {sc:Scope} {Q:Value->Shared->Prop} (x:Halt (wpAny M A (classCode env pos n a b sc) Q E s)):wpAny M A (classCode env pos n a b sc) Q E s:=x.h
section
variable {prog:Program} {w:World} {A:Around} {E:Value->Shared->Prop} {c P N fr cell L:Addr} {ps:Array Value} {mg ms:Str->Option Value} {vn:Value} {d:Nat->FD} {G:Addr->Prop} {p:Nat->Pos} {env:Env} {pos:Pos} {line:Nat}
 {h₀:Heap} {g:Array GenState} {dr:Drawn} {t:Nat} {os:OsState}
theorem Ei(AX:env.cells.lookup ("mycmp":Str)=some cell):closureFor jP env=pure [(("mycmp":Str),cell)]:=by
 have hc:cellOf env ("mycmp":Str)=pure cell:=by unfold cellOf;rw[AX]
 have q:closureFor jP env=((forIn jP.names ([]:List (Str×Addr)) fun(x:Str×NameKind) (r:List (Str×Addr))=>(if(x.2==NameKind.free)=true then(do let a<-cellOf env x.1;pure (ForInStep.yield ((x.1,a)::r)))else pure (ForInStep.yield r):Sem _))>>=λr=>pure r):=rfl;rw[q];have go:∀(l:List (Str×NameKind)) (r:List (Str×Addr)),(∀x∈l,(x.2==NameKind.free)=false)->(forIn (l++[(("mycmp":Str),NameKind.free)]) r fun(x:Str×NameKind) (r:List (Str×Addr))=>(if(x.2==NameKind.free)=true then(do let a<-cellOf env x.1;pure (ForInStep.yield ((x.1,a)::r)))else pure (ForInStep.yield r):Sem _))=pure ((("mycmp":Str),cell)::r):=by
  intro l;induction l with
  |nil=>
   intro r _;rw[eN,dX,aD (by rfl)];dsimp only;rw[hc];simp only [pure_bind,eG]
  |cons x l ih=>
   intro r h;rw[bG,dX,h x (aj ..),aC bL,pure_bind];exact ih r λy hy=>h y (ah _ hy)
 have e:jP.names=(jP.names.take 9)++[(("mycmp":Str),NameKind.free)]:=rfl;rw[e,go _ _ (by decide),pure_bind]
set_option maxHeartbeats 4000000 in
theorem build_class{Q:Value->Shared->Prop} (AX:env.cells.lookup ("mycmp":Str)=some cell) (GO:env.globals=mainGlobals) (Qy:env.builtins=builtinsNs) (Ue:∃o,h₀.get? sysModules=some o)
  (gn:env.code= .ref c) (hT:KTab h₀ c P pos d G) (Vu:¬G P) (vR:c≠P) (hg:h₀.Ns mainGlobals mg) (hb:h₀.BuiltinsAt mg P) (U0:mainGlobals≠P) (hA:lA d) (AK:xt (d 0) [(("mycmp":Str),cell)] [])
  (hok:∀i,1<=i->i<6->xt (d i) [(("mycmp":Str),cell)] [(("mycmp":Str),cell)]) (hst:h₀.Ns cStatics ms) (hs1:ms "thirdparty.any"=none) (hs2:ms "sys.recursionlimit"=none) (hnm:mg "__name__"=some vn) (Um:cStatics≠P) (wZ:A.depth<recursionLimit)
  (f1:typeOf (.type "object")=pure (.type "type")) (f3:isSubtype (.type "type") (.type "type")=pure true) (f61:typeLookup (.type "dict") "__getitem__"=pure (some (.builtin "dict.__getitem__")))
  (hq:∀a ns md B r s',(∀b o,b≠P->h₀.get? b=some o->s'.heap.get? b=some o)->KTab s'.heap c P pos d (λb=>G b\/h₀.get? b=none)->KCls s'.heap mg d (λb=>G b\/h₀.get? b=none) cell a ns md B r->
   h₀.get? a=none->h₀.get? ns=none->h₀.get? md=none->h₀.get? r.fi=none->h₀.get? r.t6=none->s'.gens=g->s'.os=os->Q (.ref a) s'):
  wpAny (model prog w) A (buildClass "K" fg [.type "object"] [] (tJ p d) jP ["obj"] line env pos none) Q E ⟨h₀,g,dr,t,os⟩:=by
 have D:=qo h₀;unfold buildClass;refine aa (nI ?_);repeat (first
  | ((with_reducible apply mZ);case e=>rfl)
  | ((with_reducible apply lZ);case e=>rfl)
  | (with_reducible refine rU λq ob s1 D1 e1 g1 o1=>Halt.h ?_)
  |wp_step
  |dsimp only)
 refine⟨?_⟩;subst e1;obtain⟨h1,ge1,d1,t1,os1⟩:=s1;simp only at D1 g1 o1
 subst g1 o1;refine aa (ao (xl t q h₀.objs.size (D1.at 0 _ _ rfl)) (λv s2 hv=> ?_) λ_ _ z=>z.elim);obtain⟨N,ob,D2,rfl,rfl,g2,o2⟩:=hv;obtain⟨h2,Yz,d2,t2,XF⟩:=s2;simp only at D2 g2 o2
 subst g2 o2;have k1:∀b o,h₀.get? b=some o->h1.get? b=some o:=λb o e=>D1.keep b o (aB _ e) (by show(hasCls o||true)=true;simp);have k2:∀b o,h1.get? b=some o->h2.get? b=some o:=λb o e=>D2.keep b o e (by show(hasCls o||true)=true;simp);have hTN:(⟨h2,Yz,d2,t2,XF⟩:Shared).TypeIs (.ref N) "dict":=⟨_,D2.at 0 _ _ rfl,rfl⟩;have KJ:decide ((N==sysModules)=true)=false:=by
  obtain⟨o,e⟩:=Ue;have:=(D2.nw (N,_) (.head _)).2;rw[ia,gT];rintro rfl;rw[k1 _ _ e]at this;cases this
 repeat (first
  | (with_reducible refine Jw ?_)
  | (with_reducible refine dS KJ ?_)
  | (with_reducible refine dS (by with_unfolding_all kernel_rfl) ?_)
  |wp_step
  |dsimp only)
 obtain⟨ps,T,hK⟩:=hT;have Bg:∀b,h2.get? b=none->h₀.get? b=none:=λb hb=>by
  cases e:h₀.get? b with
  |none=>rfl
  |some o=>rw[k2 _ _ (k1 _ _ e)]at hb;cases hb
 have N8:∀b o,h₀.get? b=some o->h2.get? b=some o:=λb o e=>k2 _ _ (k1 _ _ e);have T2:jn h2 c P ps:=⟨T.hd.keeps N8,N8 _ _ T.tab,T.tri⟩;have N2:h2.get? N=some (eh [] 0):=D2.at 0 _ _ rfl;have M3:N≠P:=by
  rintro rfl;rw[T2.tab]at N2;have:=dg Obj.cls (bV N2);cases this
 have zN:h₀.get? N=none:=by
  cases e:h₀.get? N with
  |none=>rfl
  |some o=>have:=(D2.nw (N,_) (.head _)).2;rw[k1 _ _ e]at this;cases this
 refine⟨ao (Q:=λv s3=>∃kc P' gX Pk,v= .ref kc/\(∀b o,b≠P->h2.get? b=some o->s3.heap.get? b=some o)/\jn s3.heap c P Pk/\codeAmong pos Pk.toList=some (.ref kc)/\jn s3.heap kc P' gX/\kc≠P'/\
   (∀x∈kPairs d,∀cv,codeAmong x.1 gX.toList=some cv->∃c',cv= .ref c'/\s3.heap.CodeRec cv x.2/\(G c'\/h₀.get? c'=none))/\(G kc\/h₀.get? kc=none)/\(G P'\/h₀.get? P'=none)/\P'≠N/\
   ((∀x∈kPairs d,codeAmong x.1 gX.toList≠none)\/h₀.get? P'=none)/\s3.gens=Yz/\s3.os=XF) (E:=λ_ _=>False) ?_ (λv s3 hv=> ?_) λ_ _ z=>z.elim⟩
 ·cases oU:codeAmong pos ps.toList with
  |some cv=>
   obtain⟨kc,P',gX,rfl,g1,g2,T',apart_at,tV⟩:=hK cv oU;refine y8 T2 gn oU ⟨kc,P',gX,ps,rfl,λb o _ e=>e,T2,oU,⟨T'.hd.keeps N8,N8 _ _ T'.tab,T'.tri⟩,apart_at,λx hx cv hc=> ?_,.inl g1,.inl g2, ?_,.inl λx hx=> ?_,rfl,rfl⟩
   ·obtain⟨c',e1,e2,e3⟩:=tV x hx;rw[e1]at hc;cases hc;obtain⟨c₂,o,vs,t,q1,q2,q3⟩:=e2;exact⟨c',rfl,⟨c₂,o,vs,t,q1,N8 _ _ q2,q3⟩,.inl e3⟩
   ·rintro rfl;rw[T'.tab]at zN;cases zN
   ·obtain⟨c',e1,_⟩:=tV x hx;rw[e1];exact λz=>nomatch z
  |none=>
   refine xi T2 gn oU vR λkc P' h3 tk hx T3 T' UP Jy apart_at=>⟨kc,P',#[],_,rfl,λb o hb e=>hx b o hb e,T3, ?_,T',apart_at,λx hx cv hc=>(by cases hc),.inr (Bg _ UP),.inr (Bg _ Jy), ?_,.inr (Bg _ Jy),rfl,rfl⟩
   ·rw[eJ];exact uA _ T.tri oU
   ·rintro rfl;rw[N2]at Jy;cases Jy
 obtain⟨kc,P',gX,Pk,rfl,k3,T3,Vd,T',Jm,hits,gkc,YC,abB,Qn,g3,o3⟩:=hv;obtain⟨h3,ge3,d3,t3,os3⟩:=s3;simp only at k3 T3 T' hits g3 o3
 subst g3 o3;have Vq:P'≠P:=by
  rintro rfl;rcases YC with z|z
  ·exact Vu z
  ·rw[T.tab]at z;cases z
 have Kl:∀b o,b≠P->h₀.get? b=some o->h3.get? b=some o:=λb o hb e=>k3 b o hb (N8 _ _ e);have Hw:∀b,h3.get? b=none->h₀.get? b=none:=λb hb=>by
  cases e:h₀.get? b with
  |none=>rfl
  |some o=>
   by_cases z:b=P
   ·rw[z,T3.tab]at hb;cases hb
   ·rw[Kl _ _ z e]at hb;cases hb
 obtain⟨bm,ob,Yl,Qa,Ss,MM,Ve,MY,KD,KG⟩:=id hb;have Ky:h3.Ns mainGlobals mg:=by obtain⟨o,es,ep,e,r⟩:=hg;exact⟨o,es,ep,Kl _ _ U0 e,r⟩
 rw[GO];refine aa (wpAny_builtinsFor Ky Yl Qa (Kl _ _ MM Ve) MY KD KG ?_);unfold newBodyFrame;refine aa (aa (j0 Ky (uz ?_)));rw[Ei AX];refine aa (ae ?_);refine aQ ?_;generalize Sp:({cls:= .type "frame",slots:= #[some (Value.ref kc),some (.ref mainGlobals),some (.ref N),none,some ((mg "__name__").getD .none),none,some (.ref builtinsNs)]}:Obj)=fo;have kp:∀b o,h3.get? b=some o->(h3.push fo).get? b=some o:=λ_ _ e=>aB _ e;have N3:h3.get? N=some (eh [] 0):=k3 _ _ M3 N2;have hgN:mainGlobals≠N:=by
  rintro e;obtain⟨o,es,ep,e',r⟩:=hg;rw[e,zN]at e';cases e'
 have UZ:mainGlobals≠P':=by
  rintro e;obtain⟨o,es,ep,e',r,_⟩:=Ky;rw[e,T'.tab]at e';cases e';cases r
 have Vf:bm≠P':=by
  rintro e;have:=Kl _ _ MM Ve;rw[e,T'.tab]at this;cases this;cases MY
 have PS:h3.Ns cStatics ms:=by obtain⟨o,es,ep,e,r⟩:=hst;exact⟨o,es,ep,Kl _ _ Um e,r⟩
 have Ul:cStatics≠P':=by
  rintro e;obtain⟨o,es,ep,e',r,_⟩:=PS;rw[e,T'.tab]at e';cases e';cases r
 have Un:cStatics≠N:=by
  rintro e;obtain⟨o,es,ep,e',r⟩:=hst;rw[e,zN]at e';cases e'
 have Vy:h₀.objs.size≠P:=λe=>absurd (dY T.tab) (by rw[e];exact pa _);have hB3:h3.get? h₀.objs.size=some (⟨.type "tuple",none,.seq #[.type "object"] 0,#[]⟩):=k3 _ _ Vy (k2 _ _ (D1.keep _ _ (aZ _ rfl) rfl));have Vs:(N==sysModules)=false:=by
  rw[ia]at KJ;cases z:(N==sysModules)with
  |false=>rfl
  |true=>exact absurd z KJ
 refine A7 (p:=p) (fr:=h3.objs.size) (ps:=gX) (mg:=mg) (ms:=ms) (d:=d) (G:=λb=>G b\/h₀.get? b=none) (f:=λv=>pure v) (line:=(line:Int)) ⟨Ky.keeps kp,⟨bm,ob,Yl,Qa,Ss,Vf,kp _ _ (Kl _ _ MM Ve),MY,KD,KG⟩,UZ,hgN⟩ (kp _ _ N3) ⟨T'.hd.keeps kp,kp _ _ T'.tab,T'.tri⟩ Jm
  (λx hx cv hc=> ?_) (λb hb=> .inr (Hw b ?_)) (kp _ _ hB3) (PS.keeps kp) hs1 hs2 Ul Un Vs hA AK hok wZ hnm λa ns md r Dh s' k5 T5 C5 da QX QY WM dflt all same g5 o5=>ae ?_
 ·obtain⟨c',e1,e2,e3⟩:=hits x hx cv hc;exact⟨c',e1,jR e2 kp,e3⟩
 ·cases e:h3.get? b with
  |none=>rfl
  |some o=>rw[kp _ _ e]at hb;cases hb
 have uq:∀b,(h3.push fo).get? b=none->h₀.get? b=none:=λb hb=>Hw b (by
  cases e:h3.get? b with
  |none=>rfl
  |some o=>rw[kp _ _ e]at hb;cases hb)
 have Qx:c≠N:=by
  rintro rfl;obtain⟨o,vs,_,_,_,_,_,_,_,e1,_⟩:=T.hd;rw[zN]at e1;cases e1
 have MZ:c≠P':=by
  rintro rfl;obtain⟨o,vs,_,_,_,_,_,_,_,e1,e2,_⟩:=T3.hd;rw[T'.tab]at e1;cases e1;cases e2
 refine hq a ns md _ r s' (λb o hb e=> ?_) ⟨Pk,⟨?_,k5 _ _ Vq.symm M3.symm (kp _ _ T3.tab),T3.tri⟩,λcv hc=> ?_⟩ C5 (uq _ da) (uq _ QX) (uq _ QY) (uq _ WM) (uq _ dflt) g5 o5
 ·by_cases z:b=P'
  ·subst z;have e2:o=tabObj gX:=by
    have:=Kl _ _ hb e;rw[T'.tab]at this;exact(bV this).symm
   have e3:Dh=gX:=same (Qn.elim id λz=>by rw[e]at z;cases z);rw[e2,<-e3];exact T5.tab
  ·by_cases z2:b=N
   ·rw[z2,zN]at e;cases e
   ·exact k5 _ _ z z2 (kp _ _ (Kl _ _ hb e))
 ·obtain⟨o,vs,file,tf,flags,tg,uU,text,tt,e,r⟩:=T3.hd;exact⟨o,vs,file,tf,flags,tg,uU,text,tt,k5 _ _ MZ Qx (kp _ _ e),r⟩
 ·rw[Vd]at hc;cases hc;exact⟨kc,P',Dh,rfl,gkc,YC,T5,Jm,all⟩
end
end
end Mine
namespace Mine
inductive AV where
 |none
 |bool (b:Bool)
 |int (i:Int)
 |ref (n:Nat)
 |base (a:Addr)
 |ty (name:String)
 |bi (id:String)
 deriving DecidableEq,Repr,Inhabited
inductive bP where
 |list (xs:List AV)
 |tuple (xs:List AV)
 |dict (es:List (Int×AV)) (ep:Nat)
 |set (xs:List Int)
 |ns (m:List (Str×AV))
 |inst (cls:Addr) (d:Nat)
 |slots (cls:AV) (vs:List (Option AV))
 |jb (cell:Nat)
 |lam (params:Arguments) (body:PySem.Expr) (scope:Scope) (cells:List (Str×Nat))
 |cell (v:Option AV)
 |eZ (l:Nat) (i:Nat)
 |lN
 |nextOf (it:Nat)
 |mH (a b:Int)
 |gy (d:Nat)
 |slice (l u s:AV)
 deriving Inhabited
inductive Exc where
 |index|stop|late
 deriving DecidableEq,Repr
inductive Res (α:Type)where
 |ok (a:α)
 |exc (k:Exc)
abbrev Loc:=List (Str×AV)
abbrev Hp:=List bP
structure AS where
 loc:Loc
 hp:Hp
def PM (α:Type):=AS->Option (Res α×AS)
namespace PM
def pure {α:Type} (a:α):PM α:=λs=>some (.ok a,s)
def bind {α β:Type} (m:PM α) (f:α->PM β):PM β:=λs=>
 match m s with
 |some (.ok a,s')=>f a s'
 |some (.exc k,s')=>some (.exc k,s')
 | .none=> .none
instance:Monad PM where
 pure:=PM.pure
 bind:=PM.bind
def stuck {α:Type}:PM α:=λ_=> .none
def raise {α:Type} (k:Exc):PM α:=λs=>some (.exc k,s)
def get:PM AS:=λs=>some (.ok s,s)
def hp:PM Hp:=λs=>some (.ok s.hp,s)
def b8 {α:Type}:Option α->PM α
 |some a=>PM.pure a
 | .none=>stuck
def obj (n:Nat):PM bP:=λs=>match s.hp[n]? with
 |some o=>some (.ok o,s)
 | .none=> .none
def cm (n:Nat) (o:bP):PM Unit:=λs=>if n<s.hp.length then some (.ok (),⟨s.loc,s.hp.set n o⟩)else .none
def alloc (o:bP):PM Nat:=λs=>some (.ok s.hp.length,⟨s.loc,s.hp++[o]⟩)
def ey (x:Str):PM AV:=λs=>match s.loc.lookup x with
 |some v=>some (.ok v,s)
 | .none=> .none
def hV (x:Str) (v:AV):Loc->Loc
 |[]=>[(x,v)]
 | (y,w)::r=>if y=x then(x,v)::r else(y,w)::hV x v r
def gd (x:Str) (v:AV):PM Unit:=λs=>some (.ok (),⟨hV x v s.loc,s.hp⟩)
def within {α:Type} (l:Loc) (m:PM α):PM α:=λs=>
 match m ⟨l,s.hp⟩with
 |some (.ok a,s')=>some (.ok a,⟨s.loc,s'.hp⟩)
 |some (.exc _,_)=> .none
 | .none=> .none
def attempt {α:Type} (m:PM α):PM (Res α):=λs=>
 match m s with
 |some (r,s')=>some (.ok r,s')
 | .none=> .none
def sure {α:Type} (m:PM α):PM α:=λs=>
 match m s with
 |some (.ok a,s')=>some (.ok a,s')
 |_=> .none
end PM
open PM
inductive dk where
 |next|brk|cont
 |ret (v:AV)
 deriving DecidableEq,Repr
structure fN where
 params:Arguments
 body:List PySem.Stmt
 scope:Scope
 rJ:List AV
 code:Option Addr
structure k7 where
 slotNames:List Str
 attrs:List Str
 hasDict:Bool
 init:Addr
 meths:List (Str×Addr)
structure Prog where
 fns:Addr->Option fN
 clss:Addr->Option k7
 glob:Str->Option AV
 pV:fN
 klt:fN
 dN:Addr
 missing:Addr
 script:Option (Addr×List Int)
abbrev ux:=AV->List AV->PM AV
structure ER where
 call:ux
 lt:AV->AV->PM Bool
structure cn where
 scope:Scope
 cells:List (Str×Nat)
 code:Option Addr
structure Cx where
 P:Prog
 lv:ER
 fuel:Nat
 hd:Nat
def intsOf:List AV->Option (List Int)
 |[]=>some []
 | .int i::r=>(intsOf r).map (i:: ·)
 |_::_=> .none
def listAt (n:Nat):PM (List AV):=do match<-obj n with| .list xs=>PM.pure xs|_=>stuck
def rR {α β:Type} (f:α->Option β):List α->Option (List β)
 |[]=>some []
 |x::xs=>match f x,rR f xs with
  |some y,some ys=>some (y::ys)
  |_,_=> .none
def toD (h:Hp):Nat->AV->Option PyData
 |_,.none=>some .none
 |_,.bool b=>some (.bool b)
 |_,.int i=>some (.int i)
 |d+1,.ref n=>match h[n]? with
  |some (.list xs)=>(rR (toD h d) xs).map .list
  |some (.tuple xs)=>(rR (toD h d) xs).map .tuple
  |_=> .none
 |_,_=> .none
def yZ (h:Hp) (a b:AV):Option Bool:=match toD h 8 a,toD h 8 b with
 |some x,some y=>some (PyData.eqv x y)
 |_,_=> .none
def TU (h:Hp):AV->Option (List Int)
 | .ref n=>match h[n]? with
  |some (.list xs)=>intsOf xs
  |_=> .none
 |_=> .none
def pairAt (h:Hp):AV->Option (Int×Int)
 | .ref n=>match h[n]? with
  |some (.list [.int x,.int y])=>some (x,y)
  |_=> .none
 |_=> .none
def eQ (p q:Int×Int):Bool:=if p.1=q.1 then decide (p.2<q.2)else decide (p.1<q.1)
def vH (h:Hp) (a b:AV):Option Bool:=match a,b with
 | .int x,.int y=>some (decide (x<y))
 | .ref m,.ref n=>match pairAt h (.ref m),pairAt h (.ref n)with
  |some p,some q=>some (eQ p q)
  |_,_=> .none
 |_,_=> .none
def isA (P:Prog) (h:Hp):AV->AV->Option Bool
 | .none,.none=>some true
 | .none,.bool _| .none,.int _| .none,.ref _| .none,.base _=>some false
 | .bool a,.bool b=>some (a==b)
 | .bool _,.none| .int _,.none| .ref _,.none| .base _,.none=>some false
 | .base a,.base b=>if a=b then some true else .none
 | .ref n,.base b=>if b=P.missing then(match h[n]? with
  |some (.list _)=>some false
  |_=> .none)else .none
 |_,_=> .none
def Gv (h:Hp) (a b:AV):Option Bool:=match a,b with
 | .int x,.ref n=>match h[n]? with
  |some (.list xs)=>(intsOf xs).map (·.any (· ==x))
  |some (.dict es _)=>some (es.lookup x).isSome
  |some (.set xs)=>some (xs.contains x)
  |_=> .none
 |_,_=> .none
def lS (P:Prog) (op:CmpOp) (a b:AV):PM Bool:=do
 let h<-hp
 match op with
 | .Eq=>b8 (yZ h a b)
 | .NotEq=>b8 ((yZ h a b).map (!·))
 | .Lt=>b8 (vH h a b)
 | .Gt=>b8 (vH h b a)
 | .LtE=>(match a,b with| .int x,.int y=>PM.pure (decide (x<=y))|_,_=>stuck)
 | .GtE=>(match a,b with| .int x,.int y=>PM.pure (decide (y<=x))|_,_=>stuck)
 | .Is=>b8 (isA P h a b)
 | .IsNot=>b8 ((isA P h a b).map (!·))
 | .In=>b8 (Gv h a b)
 | .NotIn=>b8 ((Gv h a b).map (!·))
def ig (v:AV):PM Bool:=do
 match v with
 | .none=>PM.pure false
 | .bool b=>PM.pure b
 | .int i=>PM.pure (i !=0)
 | .ref n=>match<-obj n with
  | .list xs=>PM.pure (!xs.isEmpty)
  |_=>stuck
 |_=>stuck
def IJ (xs:List AV) (k:Int):List AV:=(List.replicate k.toNat xs).flatten
def JR (op:Operator) (a b:AV):PM AV:=do
 match op,a,b with
 | .Add,.int x,.int y=>PM.pure (.int (x+y))
 | .Sub,.int x,.int y=>PM.pure (.int (x-y))
 | .Sub,.bool x,.bool y=>PM.pure (.int ((if x then 1 else 0)-(if y then 1 else 0)))
 | .Mult,.int x,.int y=>if x.natAbs<1000/\y.natAbs<1000 then PM.pure (.int (x*y))else stuck
 | .FloorDiv,.int x,.int y=>if y=10/\x.natAbs<1000 then PM.pure (.int (Int.fdiv x y))else stuck
 | .Mod,.int x,.int y=>if y=10/\x.natAbs<1000 then PM.pure (.int (Int.fmod x y))else stuck
 | .Add,.ref m,.ref n=>do
  let xs<-listAt m
  let ys<-listAt n
  if xs.length+ys.length<10000 then do
   let r<-alloc (.list (xs++ys))
   PM.pure (.ref r)
  else stuck
 | .Mult,.ref m,.int k=>do
  let xs<-listAt m
  if 0<=k/\k<10/\xs.length<1000 then do
   let r<-alloc (.list (IJ xs k))
   PM.pure (.ref r)
  else stuck
 |_,_,_=>stuck
def Ac {α:Type} (hd:Nat) (k:Exc):PM α:=if hd=0 then raise k else if hd=1 then(match k with| .index=>raise .late|_=>stuck)else stuck
def jZ (hd:Nat) (xs:List AV) (i:Int):PM AV:=
 if 0<=i then(match xs[i.toNat]? with
  |some v=>PM.pure v
  | .none=>if i<1000000 then Ac hd .index else stuck)
 else if i= -1 then(match xs.getLast? with
  |some v=>PM.pure v
  | .none=>stuck)
 else stuck
def wG:AV->Option (Option Int)
 | .none=>some .none
 | .int i=>some (some i)
 |_=> .none
def jY {α:Type} (xs:List α) (lo hi st:Option Int):List α:=
 (sliceRange (sliceBounds lo hi st xs.length).1 (sliceBounds lo hi st xs.length).2.1 (sliceBounds lo hi st xs.length).2.2).filterMap (xs[·]?)
def ll (xs:List AV) (lo hi step:AV):Option (List AV):=match wG lo,wG hi,wG step with
 |some l,some u,some s=>if s=some 0 then .none else some (jY xs l u s)
 |_,_,_=> .none
def yj (P:Prog) (v:AV):PM (List AV):=match v with
 | .ref n=>listAt n
 | .base a=>match P.script with
  |some (b,ns)=>if a=b then PM.pure (ns.map .int)else stuck
  | .none=>stuck
 |_=>stuck
def p6 (P:Prog) (hd:Nat) (o i:AV):PM AV:=do
 match o,i with
 | .ref n,.int k=>match<-obj n with
  | .list xs=>jZ hd xs k
  | .tuple xs=>if 0<=k/\k.toNat<xs.length then jZ hd xs k else stuck
  | .dict es _=>b8 (es.lookup k)
  |_=>stuck
 |o,.ref k=>match<-obj k with
  | .slice l u s=>do
   let xs<-yj P o
   let ys<-b8 (ll xs l u s)
   let r<-alloc (.list ys)
   PM.pure (.ref r)
  |_=>stuck
 |_,_=>stuck
def dictPut (k:Int) (v:AV):List (Int×AV)->List (Int×AV)
 |[]=>[(k,v)]
 | (j,w)::r=>if j=k then(j,v)::r else(j,w)::dictPut k v r
def pH (o i v:AV):PM Unit:=do
 match o,i with
 | .ref n,.int k=>match<-obj n with
  | .list xs=>if 0<=k/\k.toNat<xs.length then cm n (.list (xs.set k.toNat v))else stuck
  | .dict es ep=>if es.length<1000 then
    cm n (.dict (dictPut k v es) (if(es.lookup k).isSome then ep else ep+1))else stuck
  |_=>stuck
 |_,_=>stuck
def lR (o i:AV):PM Unit:=do
 match o,i with
 | .ref n,.int k=>match<-obj n with
  | .dict es ep=>if(es.lookup k).isSome then cm n (.dict (es.filter (·.1 !=k)) (ep+1))else stuck
  |_=>stuck
 |_,_=>stuck
def idxOf (x:Str):List Str->Option Nat
 |[]=> .none
 |y::r=>if y=x then some 0 else(idxOf x r).map (· +1)
def slotNamesOf (P:Prog) (c:AV):PM (List Str):=match c with
 | .base a=>b8 ((P.clss a).map (·.slotNames))
 | .ref k=>do match<-obj k with
  | .jb _=>PM.pure ["obj"]
  |_=>stuck
 |_=>stuck
def mm (v:AV):PM AV:=match v with
 | .bi _=>stuck
 |v=>PM.pure v
def jj (P:Prog) (o:AV) (x:Str):PM AV:=do
 match o with
 | .ref n=>match<-obj n with
  | .inst c d=>
   if(P.clss c).any (·.attrs.contains x)then(do
    match<-obj d with
    | .ns m=>b8 (m.lookup x)>>=mm
    |_=>stuck)else stuck
  | .slots c vs=>do
   let names<-slotNamesOf P c
   if names.length=vs.length then match idxOf x names with
    |some i=>match vs[i]? with
     |some (some v)=>mm v
     |_=>stuck
    | .none=>stuck
   else stuck
  | .eZ _ _=>if x="__next__" then alloc (.nextOf n)>>=λr=>PM.pure (.ref r)else stuck
  |_=>stuck
 |_=>stuck
def gf (P:Prog) (o:AV) (x:Str) (v:AV):PM Unit:=do
 match o with
 | .ref n=>match<-obj n with
  | .inst c d=>
   if(P.clss c).any (·.attrs.contains x)then(do
    match<-obj d with
    | .ns m=>if m.length<100 then cm d (.ns (hV x v m))else stuck
    |_=>stuck)else stuck
  | .slots c vs=>do
   let names<-slotNamesOf P c
   if names.length=vs.length then match idxOf x names with
    |some i=>cm n (.slots c (vs.set i (some v)))
    | .none=>stuck
   else stuck
  |_=>stuck
 |_=>stuck
inductive pk where
 |list (n:Nat) (i:Nat)
 |tup (n:Nat) (i:Nat)
 |mH (cur stop:Int)
 |jz (n:Nat) (i:Nat) (len:Nat) (ep:Nat)
 |gy (n:Nat) (i:Nat) (len:Nat) (ep:Nat)
 |obj (n:Nat)
 deriving DecidableEq,Repr
def rE (v:AV):PM pk:=do
 match v with
 | .ref n=>match<-obj n with
  | .list _=>PM.pure (.list n 0)
  | .tuple _=>PM.pure (.tup n 0)
  | .mH a b=>if a.natAbs<1000/\b.natAbs<1000 then PM.pure (.mH a b)else stuck
  | .dict es ep=>PM.pure (.jz n 0 es.length ep)
  | .gy d=>match<-obj d with
   | .dict es ep=>PM.pure (.gy d 0 es.length ep)
   |_=>stuck
  | .eZ _ _=>PM.pure (.obj n)
  |_=>stuck
 |_=>stuck
def rD (v:AV):PM pk:=do
 let it<-rE v
 match it with
 | .obj _=>stuck
 |it=>PM.pure it
def fu (it:pk):PM (Option (AV×pk)):=do
 match it with
 | .list n i=>match<-obj n with
  | .list xs=>match xs[i]? with
   |some v=>PM.pure (some (v,.list n (i+1)))
   | .none=>PM.pure .none
  |_=>stuck
 | .tup n i=>match<-obj n with
  | .tuple xs=>match xs[i]? with
   |some v=>PM.pure (some (v,.tup n (i+1)))
   | .none=>PM.pure .none
  |_=>stuck
 | .mH a b=>if a<b then PM.pure (some (.int a,.mH (a+1) b))else PM.pure .none
 | .jz n i len ep=>match<-obj n with
  | .dict es e=>if e=ep/\es.length=len then(match es[i]? with
    |some (k,_)=>PM.pure (some (.int k,.jz n (i+1) len ep))
    | .none=>PM.pure .none)else stuck
  |_=>stuck
 | .gy n i len ep=>match<-obj n with
  | .dict es e=>if e=ep/\es.length=len then(match es[i]? with
    |some (_,v)=>PM.pure (some (v,.gy n (i+1) len ep))
    | .none=>PM.pure .none)else stuck
  |_=>stuck
 | .obj n=>match<-obj n with
  | .eZ l i=>match<-obj l with
   | .list xs=>match xs[i]? with
    |some v=>do
     cm n (.eZ l (i+1))
     PM.pure (some (v,.obj n))
    | .none=>do
     cm n .lN
     PM.pure .none
   |_=>stuck
  |_=>stuck
def intsFrom (a:Int):Nat->List AV
 |0=>[]
 |n+1=> .int a::intsFrom (a+1) n
def eA (v:AV):PM (List AV):=match v with
 | .ref n=>do
  match<-obj n with
  | .list xs=>PM.pure xs
  | .tuple xs=>PM.pure xs
  | .mH a b=>if a.natAbs<1000/\b.natAbs<1000 then PM.pure (intsFrom a (b-a).toNat)else stuck
  |_=>stuck
 |_=>stuck
def dj (lt:Nat->Nat->PM Bool) {α:Type}:KasT α->PM α
 | .ret a=>PM.pure a
 | .ask i j k=>do
  let b<-lt i j
  dj lt (k b)
def m4 (h:Hp):AV->Option (Int×Int)
 | .ref n=>match h[n]? with
  |some (.tuple [.int a,.int b])=>some (a,b)
  |_=> .none
 |_=> .none
def qL:AV->Bool
 | .int _=>true
 |_=>false
def AD:AV->AV->Option Bool
 | .int x,.int y=>some (decide (x<y))
 |_,_=> .none
def pK (h:Hp) (a b:AV):Option Bool:=match pairAt h a,pairAt h b with
 |some p,some q=>some (eQ p q)
 |_,_=> .none
def zQ (h:Hp) (a b:AV):Option Bool:=match m4 h a,m4 h b with
 |some p,some q=>some (eQ p q)
 |_,_=> .none
def sortBy (f:Nat->Nat->PM Bool) (xs:List AV):PM (List AV):=
 if xs.length<2 then PM.pure xs
 else do
  let p<-dj f (kas_sort xs.length)
  PM.pure (p.toList.map λi=>xs.getD i .none)
def dn (xs:List AV):PM (List AV):=if 64<=xs.length then stuck else do
 let h<-hp
 if xs.all qL then sortBy (λi j=>b8 (AD (xs.getD i .none) (xs.getD j .none))) xs
 else if xs.all λx=>(pairAt h x).isSome then sortBy (λi j=>do
  let h<-hp
  b8 (pK h (xs.getD i .none) (xs.getD j .none))) xs
 else if xs.all λx=>(m4 h x).isSome then sortBy (λi j=>do
  let h<-hp
  b8 (zQ h (xs.getD i .none) (xs.getD j .none))) xs
 else stuck
def dC (call:ux) (f:AV):List AV->PM (List AV)
 |[]=>PM.pure []
 |x::r=>do
  let y<-call f [x]
  let ys<-dC call f r
  PM.pure (y::ys)
def qM (h:Hp):AV->AV->Bool
 | .ref n,.ref m=>match h[m]? with
  |some (.slots (.ref c) [some _])=>c==n
  |_=>false
 |_,_=>false
def Mx:AV->Bool
 | .ref _=>true
 |_=>false
def fC (lv:ER) (key:AV) (xs:List AV):PM (List AV):=if 64<=xs.length\/Mx key=false then stuck else do
 let ks<-dC lv.call key xs
 let h<-hp
 if ks.all (qM h key)then sortBy (λi j=>lv.lt (ks.getD i .none) (ks.getD j .none)) xs else stuck
def CW:List AV->Int->Option Int
 |[],a=>some a
 | .int i::r,a=>CW r (a+i)
 |_::_,_=> .none
def cg (id:String) (args:List AV):PM AV:=do
 match id,args with
 |"len",[.ref n]=>match<-obj n with
  | .list xs=>PM.pure (.int xs.length)
  | .tuple xs=>PM.pure (.int xs.length)
  |_=>stuck
 |"sum",[.ref n]=>do
  let xs<-listAt n
  let i<-b8 (CW xs 0)
  PM.pure (.int i)
 |"isinstance",[.ref n,.ty "tuple"]=>match<-obj n with
  | .tuple _=>PM.pure (.bool true)
  | .list _=>PM.pure (.bool false)
  |_=>stuck
 |"iter",[.ref n]=>match<-obj n with
  | .list _=>do
   let r<-alloc (.eZ n 0)
   PM.pure (.ref r)
  |_=>stuck
 |"next",[.ref n]=>match<-obj n with
  | .eZ _ _=>do
   match<-fu (.obj n)with
   |some (v,_)=>PM.pure v
   | .none=>stuck
  |_=>stuck
 |"sorted",[v]=>do
  let xs<-eA v
  let ys<-sure (dn xs)
  let r<-alloc (.list ys)
  PM.pure (.ref r)
 |_,_=>stuck
def bM (name:String) (args:List AV):PM AV:=do
 match name,args with
 |"tuple",[.ref n]=>do
  let xs<-listAt n
  let r<-alloc (.tuple xs)
  PM.pure (.ref r)
 |"list",[.ref n]=>do
  let xs<-(do match<-obj n with
   | .list xs=>PM.pure xs
   | .tuple xs=>PM.pure xs
   |_=>stuck:PM (List AV))
  let r<-alloc (.list xs)
  PM.pure (.ref r)
 |"set",[]=>do
  let r<-alloc (.set [])
  PM.pure (.ref r)
 |"bool",[v]=>do
  let b<-ig v
  PM.pure (.bool b)
 |"range",[.int b]=>do
  let r<-alloc (.mH 0 b)
  PM.pure (.ref r)
 |"range",[.int a,.int b]=>do
  let r<-alloc (.mH a b)
  PM.pure (.ref r)
 |_,_=>stuck
inductive Meth where
 |own (f:Addr)
 |lst (id:String)
 |dct (id:String)
 |st (id:String)
 deriving DecidableEq,Repr
def ly (P:Prog) (o:AV) (x:Str):PM Meth:=do
 match o with
 | .ref n=>match<-obj n with
  | .list _=>(if x="append" then PM.pure (.lst "append")else if x="pop" then PM.pure (.lst "pop")else if x="clear" then PM.pure (.lst "clear")else if x="extend" then PM.pure (.lst "extend")else if x="index" then PM.pure (.lst "index")else stuck)
  | .dict _ _=>(if x="get" then PM.pure (.dct "get")else if x="values" then PM.pure (.dct "values")else stuck)
  | .set _=>(if x="add" then PM.pure (.st "add")else stuck)
  | .inst c d=>match<-obj d with
   | .ns m=>(if(m.lookup x).isSome then stuck else(match P.clss c with
    |some ci=>(match ci.meths.lookup x with
     |some f=>PM.pure (.own f)
     | .none=>stuck)
    | .none=>stuck))
   |_=>stuck
  |_=>stuck
 |_=>stuck
def Ct (x:Int) (xs:List AV):Option Nat:=match intsOf xs with
 |some ns=>if ns.length<100/\ns.all (λi=>i.natAbs<1000)/\x∈ns then some (ns.idxOf x)else .none
 | .none=> .none
def gh (call:ux) (m:Meth) (o:AV) (args:List AV):PM AV:=do
 match m,o,args with
 | .own f,o,args=>call (.base f) (o::args)
 | .lst "append",.ref n,[v]=>do
  let xs<-listAt n
  if xs.length<10000 then do cm n (.list (xs++[v]));PM.pure .none else stuck
 | .lst "pop",.ref n,[]=>do
  let xs<-listAt n
  match xs.getLast? with
  |some v=>do cm n (.list xs.dropLast);PM.pure v
  | .none=>stuck
 | .lst "clear",.ref n,[]=>do
  let _<-listAt n
  cm n (.list [])
  PM.pure .none
 | .lst "extend",.ref n,[.ref k]=>do
  let xs<-listAt n
  let ys<-listAt k
  if n=k then stuck else if xs.length+ys.length<10000 then do cm n (.list (xs++ys));PM.pure .none else stuck
 | .lst "index",.ref n,[.int x]=>do
  let xs<-listAt n
  let i<-b8 (Ct x xs)
  PM.pure (.int i)
 | .dct "get",.ref n,[.int k]=>do
  match<-obj n with
  | .dict es _=>PM.pure ((es.lookup k).getD .none)
  |_=>stuck
 | .dct "values",.ref n,[]=>do
  match<-obj n with
  | .dict _ _=>do
   let r<-alloc (.gy n)
   PM.pure (.ref r)
  |_=>stuck
 | .st "add",.ref n,[.int k]=>do
  match<-obj n with
  | .set xs=>if xs.length<500 then do cm n (.set (if xs.contains k then xs else xs++[k]));PM.pure .none else stuck
  |_=>stuck
 |_,_,_=>stuck
def kF (C:Cx) (e:cn) (x:Str):PM AV:=match e.scope.names.lookup x with
 |some .local=>ey x
 |some .cell|some .free=>if x="__classdict__" then stuck else do
  let i<-b8 (e.cells.lookup x)
  match<-obj i with
  | .cell (some v)=>PM.pure v
  |_=>stuck
 |some .globalImplicit=>b8 (C.P.glob x)
 |_=>stuck
def gO (e:cn) (x:Str) (v:AV):PM Unit:=match e.scope.names.lookup x with
 |some .local=>gd x v
 |some .cell|some .free=>do
  let i<-b8 (e.cells.lookup x)
  match<-obj i with
  | .cell _=>cm i (.cell (some v))
  |_=>stuck
 |_=>stuck
def ue (e:cn):List (Str×NameKind)->List (Str×Nat)->Option (List (Str×Nat))
 |[],cs=>some cs
 | (n,k)::r,cs=>if k= .free then(match e.cells.lookup n with
   |some i=>ue e r ((n,i)::cs)
   | .none=> .none)else ue e r cs
def qh (names:List (Str×NameKind)) (e:cn):Option (List (Str×Nat)):=ue e names []
def dJ:List (Str×NameKind)->List (Str×Nat)->PM (List (Str×Nat))
 |[],cs=>PM.pure cs
 | (n,k)::r,cs=>if k= .cell then do
   let i<-alloc (.cell .none)
   dJ r ((n,i)::cs)
  else dJ r cs
def storeAll (e:cn):List (Str×AV)->PM Unit
 |[]=>PM.pure ()
 | (x,v)::r=>do gO e x v;storeAll e r
def iT (scope:Scope):Bool:=scope.names.all λx=>x.2 != .local||scope.names.lookup x.1==some .local
def cC:PySem.Expr->Bool
 | .Starred .. =>true
 |_=>false
def j6:PySem.Expr->Bool
 | .Call (.Name _ _) [] [] _=>true
 |_=>false
def Meth.own?:Meth->Bool
 | .own _=>true
 |_=>false
def qz (P:Prog) (x:Str):Meth->Bool
 | .own f=>(x=="add"||x=="done")&&(P.fns f).isSome&&f !=P.dN
 |_=>false
def tM:PySem.Expr->Bool
 | .ListComp .. | .SetComp .. | .DictComp .. =>true
 |_=>false
def cM:PySem.Expr->Bool
 | .Set .. =>true
 |_=>false
def cK (e:cn):List PySem.Expr->List AV->PM Unit
 |[],[]=>PM.pure ()
 | .Name x _::r,v::vs=>do gO e x v;cK e r vs
 |_,_=>stuck
def r7 (v:AV) (n:Nat):PM (List AV):=do
 match v with
 | .ref k=>match<-obj k with
  | .list xs=>if xs.length=n then PM.pure xs else stuck
  | .tuple xs=>if xs.length=n then PM.pure xs else stuck
  |_=>stuck
 |_=>stuck
def sP (acc:Nat) (v:AV):PM Unit:=do
 let _<-gh (λ_ _=>stuck) (.lst "append") (.ref acc) [v]
 PM.pure ()
def rK (op:PySem.BoolOp):List (PM AV)->PM AV
 |[]=>stuck
 |[x]=>x
 |x::r=>do
  let v<-x
  let b<-ig v
  match op,b with
  | .And,false=>PM.pure v
  | .Or,true=>PM.pure v
  |_,_=>rK op r
def compLoop (f:Nat) (assign:AV->PM Unit) (ifs:PM Bool) (body:PM Unit) (it:pk):PM Unit:=match f with
 |0=>stuck
 |f+1=>do
  match<-fu it with
  | .none=>PM.pure ()
  |some (v,tK)=>do
   assign v
   let b<-ifs
   if b then body else PM.pure ()
   compLoop f assign ifs body tK
mutual
def ev (C:Cx):PySem.Expr->cn->PM AV
 | .Constant c _ _,_=>match c with
  | .none=>PM.pure .none
  | .bool b=>PM.pure (.bool b)
  | .int i=>PM.pure (.int i)
  |_=>stuck
 | .Name x _,e=>if x="__debug__" then stuck else kF C e x
 | .NamedExpr (.Name x _) value _,e=>do
  let v<-ev C value e
  gO e x v
  PM.pure v
 | .BinOp l op r _,e=>do
  let a<-ev C l e
  let b<-ev C r e
  JR op a b
 | .UnaryOp .USub x _,e=>do
  match<-ev C x e with
  | .int i=>PM.pure (.int (-i))
  |_=>stuck
 | .UnaryOp .Not x _,e=>do
  let v<-ev C x e
  let b<-ig v
  PM.pure (.bool !b)
 | .BoolOp op vs _,e=>rK op (jQ C vs e)
 | .Compare l [op] [r] _,e=>if cM r then stuck else do
  let a<-ev C l e
  let b<-ev C r e
  let c<-lS C.P op a b
  PM.pure (.bool c)
 | .IfExp t b o _,e=>do
  let c<-cV C t e (ev C t e)
  if c then ev C b e else ev C o e
 | .List es _,e=>do
  let vs<-qu C es e
  if vs.length<10000 then do
   let r<-alloc (.list vs)
   PM.pure (.ref r)
  else stuck
 | .Tuple es _ _,e=>do
  let vs<-qu C es e
  if vs.length<10000 then do
   let r<-alloc (.tuple vs)
   PM.pure (.ref r)
  else stuck
 | .Dict [] [] _,_=>do
  let r<-alloc (.dict [] 0)
  PM.pure (.ref r)
 | .Lambda args body scope _,e=>do
  match args with
  |⟨[],_,.none,[],[],.none,[]⟩=>if e.code.isNone then stuck else do
   let cs<-b8 (qh scope.names e)
   let r<-alloc (.lam args body scope cs)
   PM.pure (.ref r)
  |_=>stuck
 | .Attribute o x _,e=>if j6 o then stuck else do
  let ov<-ev C o e
  jj C.P ov x
 | .Slice lo hi st _,e=>do
  let l<-lQ C lo e
  let u<-lQ C hi e
  let s<-lQ C st e
  let r<-alloc (.slice l u s)
  PM.pure (.ref r)
 | .Subscript o i _,e=>do
  let ov<-ev C o e
  let iv<-ev C i e
  p6 C.P C.hd ov iv
 | .Call (.Attribute o x apos) args [] pos,e=>if apos.endLine≠pos.line\/29<=args.length\/j6 o=true then stuck else do
  let ov<-ev C o e
  let m<-ly C.P ov x
  if args.any cC&&(C.hd !=0|| !qz C.P x m)then stuck else do
  let vs<-qu C args e
  if C.hd=0 then sure (gh C.lv.call m ov vs)else sure (gh (λ_ _=>stuck) m ov vs)
 | .Call f args [] _,e=>do
  if C.hd=0 then do
   let fv<-ev C f e
   let vs<-qu C args e
   C.lv.call fv vs
  else stuck
 | .Call (.Name f _) [a] [⟨some k,v,_⟩] _,e=>do
  let fv<-(if f="__debug__" then stuck else kF C e f)
  if fv= .bi "sorted"/\k="key"/\C.hd=0 then do
   let x<-ev C a e
   let key<-ev C v e
   let xs<-eA x
   let ys<-sure (fC C.lv key xs)
   let r<-alloc (.list ys)
   PM.pure (.ref r)
  else stuck
 | .ListComp elt (⟨t,iter,ifs,as⟩::gs) scope _,e=>if cM iter||as !=0||C.hd !=0||scope.kind != .function|| !iT scope then stuck else do
  let x<-ev C iter e
  let it<-rD x
  let acc<-alloc (.list [])
  let cl<-b8 (qh scope.names e)
  let cells<-dJ scope.names cl
  within [] (compLoop C.fuel (λv=>cq C t ⟨scope,cells,.none⟩ v) (jK C ifs ⟨scope,cells,.none⟩)
    (mw C gs ⟨scope,cells,.none⟩ (do
     let v<-ev C elt ⟨scope,cells,.none⟩
     sP acc v)) it)
  PM.pure (.ref acc)
 |_,_=>stuck
def mw (C:Cx):List Comprehension->cn->PM Unit->PM Unit
 |[],_,emit=>emit
 |⟨t,iter,ifs,as⟩::gs,e,emit=>if cM iter||as !=0||C.hd !=0 then stuck else do
  let x<-ev C iter e
  let it<-rD x
  sure (compLoop C.fuel (λv=>cq C t e v) (jK C ifs e) (mw C gs e emit) it)
def jK (C:Cx):List PySem.Expr->cn->PM Bool
 |[],_=>PM.pure true
 |c::r,e=>do
  let b<-cV C c e (ev C c e)
  if b then jK C r e else PM.pure false
def lQ (C:Cx):Option PySem.Expr->cn->PM AV
 |some x,e=>ev C x e
 | .none,_=>PM.pure .none
def qu (C:Cx):List PySem.Expr->cn->PM (List AV)
 |[],_=>PM.pure []
 | .Starred x _::r,e=>if C.hd !=0 then stuck else do
  let v<-ev C x e
  let here<-eA v
  let rest<-qu C r e
  PM.pure (here++rest)
 |x::r,e=>do
  let v<-ev C x e
  let rest<-qu C r e
  PM.pure (v::rest)
def jQ (C:Cx):List PySem.Expr->cn->List (PM AV)
 |[],_=>[]
 |x::r,e=>ev C x e::jQ C r e
def cV (C:Cx):PySem.Expr->cn->PM AV->PM Bool
 | .UnaryOp .Not x _,e,_=>do
  let b<-cV C x e (ev C x e)
  PM.pure (!b)
 | .BoolOp op vs _,e,_=>vU C op vs e
 | .IfExp t b o _,e,_=>do
  let c<-cV C t e (ev C t e)
  if c then cV C b e (ev C b e)else cV C o e (ev C o e)
 | .Compare l [op] [r] _,e,_=>if cM r then stuck else do
  let a<-ev C l e
  let b<-ev C r e
  lS C.P op a b
 | .Compare ..,_,_=>stuck
 |_,_,whole=>do
  let v<-whole
  ig v
def vU (C:Cx):PySem.BoolOp->List PySem.Expr->cn->PM Bool
 |op,[],_=>PM.pure (op== .And)
 |op,x::r,e=>do
  let b<-cV C x e (ev C x e)
  match op,b with
  | .And,false=>PM.pure false
  | .Or,true=>PM.pure true
  |_,_=>vU C op r e
def cq (C:Cx):PySem.Expr->cn->AV->PM Unit
 | .Name x _,e,v=>gO e x v
 | .Attribute o x _,e,v=>do
  let ov<-ev C o e
  gf C.P ov x v
 | .Subscript o i _,e,v=>do
  let ov<-ev C o e
  let iv<-ev C i e
  pH ov iv v
 | .Tuple es _ _,e,v=>if C.hd !=0 then stuck else do
  let vs<-r7 v es.length
  cK e es vs
 |_,_,_=>stuck
end
def forLoop (f:Nat) (assign:AV->PM Unit) (body orelse:PM dk) (it:pk):PM dk:=match f with
 |0=>stuck
 |f+1=>do
  match<-fu it with
  | .none=>orelse
  |some (v,tK)=>do
   assign v
   match<-body with
   | .next| .cont=>forLoop f assign body orelse tK
   | .brk=>PM.pure .next
   | .ret v=>PM.pure (.ret v)
def whileLoop (f:Nat) (test:PM Bool) (body orelse:PM dk):PM dk:=match f with
 |0=>stuck
 |f+1=>do
  let b<-test
  if b then do
   match<-body with
   | .next| .cont=>whileLoop f test body orelse
   | .brk=>PM.pure .next
   | .ret v=>PM.pure (.ret v)
  else orelse
def iW (v:AV):List (AV->PM Unit)->PM Unit
 |[]=>PM.pure ()
 |t::r=>do t v;iW v r
def i8 (C:Cx) (ts:List PySem.Expr) (e:cn):List (AV->PM Unit):=ts.map λt v=>cq C t e v
def jk:Exc->String
 | .index=>"IndexError"
 | .late=>"IndexError"
 | .stop=>"StopIteration"
def j5:List PySem.Expr->Bool
 |[.Tuple ..]=>false
 |[.List ..]=>false
 |_=>true
mutual
def mX (C:Cx):PySem.Stmt->cn->PM dk
 | .Expr x _,e=>if tM x then stuck else do
  let _<-ev C x e
  PM.pure .next
 | .Pass _,_=>PM.pure .next
 | .Break _,_=>PM.pure .brk
 | .Continue _,_=>PM.pure .cont
 | .Return x _,e=>do
  let v<-lQ C x e
  PM.pure (.ret v)
 | .Assign ts x _,e=>if j5 ts then do
  let v<-ev C x e
  iW v (i8 C ts e)
  PM.pure .next
  else stuck
 | .AugAssign (.Name x _) op val _,e=>do
  let old<-kF C e x
  let v<-ev C val e
  match op,old,v with
  | .Add,.int a,.int b=>do gO e x (.int (a+b));PM.pure .next
  |_,_,_=>stuck
 | .AugAssign (.Attribute o x _) op val _,e=>do
  let ov<-ev C o e
  let old<-jj C.P ov x
  let v<-ev C val e
  match op,old,v with
  | .Add,.int a,.int b=>do gf C.P ov x (.int (a+b));PM.pure .next
  | .Sub,.int a,.int b=>do gf C.P ov x (.int (a-b));PM.pure .next
  |_,_,_=>stuck
 | .Delete [.Subscript o i _] _,e=>do
  let ov<-ev C o e
  let iv<-ev C i e
  lR ov iv
  PM.pure .next
 | .If t b o _,e=>do
  let c<-cV C t e (ev C t e)
  if c then gp C b e else gp C o e
 | .While t b o _,e=>whileLoop C.fuel (cV C t e (ev C t e)) (gp C b e) (gp C o e)
 | .For t i b o _,e=>if cM i||C.hd !=0 then stuck else do
  let x<-ev C i e
  let it<-rE x
  sure (forLoop C.fuel (λv=>cq C t e v) (gp C b e) (gp C o e) it)
 | .Try b [.ExceptHandler (some (.Name T _)) .none (h::hs) _] [] [] _,e=>if C.hd !=0||T=="__debug__" then stuck else do
  match<-attempt (gp C b e)with
  | .ok f=>PM.pure f
  | .exc k=>do
   let tv<-kF {C with hd:=2} e T
   if tv= .ty (jk k)/\T≠"__debug__" then sure (gp {C with hd:=2} (h::hs) e)else stuck
 | .Try b [] [] (h::hs) _,e=>if C.hd !=0 then stuck else do
  match<-attempt (gp C b e)with
  | .ok f=>do
   match<-gp C (h::hs) e with
   | .next=>PM.pure f
   |_=>stuck
  | .exc k=>if k= .late then stuck else do
   match<-attempt (gp {C with hd:=1} (h::hs) e)with
   | .ok .next=>raise k
   | .exc .late=>raise .late
   |_=>stuck
 |_,_=>stuck
def gp (C:Cx):List PySem.Stmt->cn->PM dk
 |[],_=>PM.pure .next
 |s::r,e=>do
  match<-mX C s e with
  | .next=>gp C r e
  |f=>PM.pure f
end
def yX:List (Str×AV)->List (Str×AV)->List (Str×AV)
 |[],slots=>slots
 | (n,d)::r,slots=>if(slots.lookup n).isNone then yX r (slots++[(n,d)])else yX r slots
def mK (p:Arguments) (ds:List AV) (args:List AV):PM (List (Str×AV)):=match p with
 |⟨[],ps,va,[],_,.none,_⟩=>
  let names:=ps.map (·.arg)
  let slots:=names.zip args
  if args.length>names.length/\va.isNone then stuck else
  let YY:=ds.drop (ds.length-names.length)
  let first:=names.length-YY.length
  if !((names.take first).filter λn=>(slots.lookup n).isNone).isEmpty then stuck else
  let LX:=yX ((names.drop first).zip YY) slots
  let binds:=names.filterMap λn=>(LX.lookup n).map (n, ·)
  match va with
  | .none=>PM.pure binds
  |some r=>do
   if args.length<1000 then do
    let t<-alloc (.tuple (args.drop names.length))
    PM.pure (binds++[(r.arg,.ref t)])
   else stuck
 |_=>stuck
def cX (C:Cx) (fi:fN) (clos:List (Str×Nat)) (args:List AV):PM AV:=do
 let binds<-mK fi.params fi.rJ args
 let cells<-dJ fi.scope.names clos
 within [] (do
  storeAll ⟨fi.scope,cells,fi.code⟩ binds
  match<-gp C fi.body ⟨fi.scope,cells,fi.code⟩with
  | .ret v=>PM.pure v
  |_=>PM.pure .none)
def eY (C:Cx) (params:Arguments) (body:PySem.Expr) (scope:Scope) (clos:List (Str×Nat)) (args:List AV):PM AV:=if scope.kind != .function||scope.isGenerator||scope.isCoroutine then stuck else do
 let binds<-mK params [] args
 let cells<-dJ scope.names clos
 within [] (do
  storeAll ⟨scope,cells,.none⟩ binds
  ev C body ⟨scope,cells,.none⟩)
def fj (P:Prog) (fuel:Nat) (lv:ER):ux:=λf args=>
 match f with
 | .base a=>if a=P.dN then(match args with
   |[g]=>do
    let c<-alloc (.cell (some g))
    let r<-alloc (.jb c)
    PM.pure (.ref r)
   |_=>stuck)
  else match P.fns a with
  |some fi=>cX ⟨P,lv,fuel,0⟩ fi [] args
  | .none=>match P.clss a with
   |some ci=>do
    let self<-(if ci.hasDict then do
      let d<-alloc (.ns [])
      alloc (.inst a d)
     else alloc (.slots (.base a) (ci.slotNames.map λ_=> .none)))
    match P.fns ci.init with
    |some fi=>do
     match<-cX ⟨P,lv,fuel,0⟩ fi [] (.ref self::args)with
     | .none=>PM.pure (.ref self)
     |_=>stuck
    | .none=>stuck
   | .none=>stuck
 | .ref n=>do
  match<-obj n with
  | .lam ps body sc cs=>eY ⟨P,lv,fuel,0⟩ ps body sc cs args
  | .jb _=>do
   let self<-alloc (.slots (.ref n) [.none])
   match<-cX ⟨P,lv,fuel,0⟩ P.pV [] (.ref self::args)with
   | .none=>PM.pure (.ref self)
   |_=>stuck
  | .nextOf it=>(match args with
   |[]=>do
    match<-fu (.obj it)with
    |some (v,_)=>PM.pure v
    | .none=>raise .stop
   |_=>stuck)
  |_=>stuck
 | .bi id=>cg id args
 | .ty n=>bM n args
 |_=>stuck
def Al (P:Prog) (fuel:Nat) (lv:ER) (x y:AV):PM Bool:=match x with
 | .ref n=>do
  match<-obj n with
  | .slots (.ref k) _=>do
   match<-obj k with
   | .jb c=>do
    match<-cX ⟨P,lv,fuel,0⟩ P.klt [("mycmp",c)] [.ref n,y]with
    | .bool b=>PM.pure b
    |_=>stuck
   |_=>stuck
  |_=>stuck
 |_=>stuck
def gj (P:Prog) (fuel:Nat):Nat->ER
 |0=>⟨λ_ _=>stuck,λ_ _=>stuck⟩
 |k+1=>⟨fj P fuel (gj P fuel k),Al P fuel (gj P fuel k)⟩
end Mine
namespace Mine
open PM (hV)
variable {ρ bX κ κ' Fs:List Addr} {a c L it I:Addr} {xs:List AV} {vs:List Value} {x:AV} {v f:Value} {X:Bx} {h h':Heap} {i n k fuel:Nat} {clos:List (Str×Addr)} {σ:Hp} {s s':Shared} {o:Obj} {α β:Type} {l:Loc} {A A':Around} {m mb:Str->Option Value} {st st':AS} {g:Array GenState} {prog:Program} {w:World} {os:OsState} {E Q:Value->Shared->Prop} {items:Array Value} {ws:Array (Option Value)} {scope:Scope} {cl:List (Str×Nat)} {fi:fN} {bF:PM dk} {fd:FuncData} {C:Cx} {body orelse hs:List PySem.Stmt} {kw:List (Str×Value)} {pos:Pos} {iter elt:PySem.Expr} {gens gs:List Comprehension} {Pre:List Addr->Prop} {args:List PySem.Expr} {nm:Str}
variable {r:Res β} {R:List Addr->α->β->Prop} {R':List Addr->β->δ->Prop} {t:Sem α}
section
open PySem.W.X
structure Bx where
 prog:PySem.Program
 w:World
 h₀:Heap
 os:OsState
 P:Prog
 tabs:List (Addr×Addr×Str)
 kC:Addr
 kP:Addr
 kpos:Pos
 kd:Nat->FD
 mg:Str->Option Value
 K:Frag
def Bx.eX (X:Bx):List Addr:=X.kP::X.tabs.map (·.2.1)
def bC (ρ:List Addr):AV->Value->Prop
 | .none,v=>v= .none
 | .bool b,v=>v= .bool b
 | .int i,v=>∃t,v= .int i t
 | .ref n,v=>∃a,ρ[n]? =some a/\v= .ref a
 | .base a,v=>v= .ref a
 | .ty n,v=>v= .type n
 | .bi id,v=>v= .builtin id
def bp (ρ:List Addr):List AV->List Value->Prop
 |[],[]=>True
 |x::xs,v::vs=>bC ρ x v/\bp ρ xs vs
 |_,_=>False
def Sub (ρ bX:List Addr):Prop:=∀(n:Nat) (a:Addr),ρ[n]? =some a->bX[n]? =some a
theorem Sub.refl (ρ:List Addr):Sub ρ ρ:=λ_ _ e=>e
theorem Sub.trans {n7:List Addr} (x:Sub ρ bX) (y:Sub bX n7):Sub ρ n7:=λn a e=>y n a (x n a e)
theorem Sub.append (ρ σ:List Addr):Sub ρ (ρ++σ):=λn a e=>by
 rw[cF (bx.mp e).1];exact e
theorem Sub.mem (x:Sub ρ bX) (h:a∈ρ):a∈bX:=by
 obtain⟨n,e⟩:=k9.mp h;exact k9.mpr ⟨n,x n a e⟩
theorem bC.mono (s:Sub ρ bX):∀{x:AV} {v:Value},bC ρ x v->bC bX x v
 | .none,_,h=>h
 | .bool _,_,h=>h
 | .int _,_,h=>h
 | .ref n,_,⟨a,e,h⟩=>⟨a,s n a e,h⟩
 | .base _,_,h=>h
 | .ty _,_,h=>h
 | .bi _,_,h=>h
theorem bp.mono {ρ bX:List Addr} (s:Sub ρ bX):∀{xs:List AV} {vs:List Value},bp ρ xs vs->bp bX xs vs
 |[],[],_=>trivial
 |_::_,_::_,⟨a,b⟩=>⟨a.mono s,b.mono s⟩
theorem bp.length {ρ:List Addr}:∀{xs:List AV} {vs:List Value},bp ρ xs vs->xs.length=vs.length
 |[],[],_=>rfl
 |_::_,_::_,⟨_,b⟩=>by rw[aq,aq,bp.length b]
theorem bp.append {ρ:List Addr}:∀{xs ys:List AV} {vs ws:List Value},bp ρ xs vs->bp ρ ys ws->bp ρ (xs++ys) (vs++ws)
 |[],_,[],_,_,h=>h
 |_::_,_,_::_,_,⟨a,b⟩,h=>⟨a,b.append h⟩
theorem bp.get {ρ:List Addr}:∀{xs:List AV} {vs:List Value} {i:Nat} {x:AV},bp ρ xs vs->xs[i]? =some x->∃v,vs[i]? =some v/\bC ρ x v
 |_::_,_::_,0,_,⟨a,_⟩,e=>by cases e;exact⟨_,rfl,a⟩
 |_::_,_::_,i+1,_,⟨_,b⟩,e=>by
  rw[d8]at e ⊢;exact bp.get b e
theorem bp.none {ρ:List Addr} {xs:List AV} {vs:List Value} {i:Nat} (h:bp ρ xs vs) (e:xs[i]? = .none):vs[i]? = .none:=by
 rw[cE]at e ⊢;rw[<-h.length];exact e
theorem bp.set {ρ:List Addr}:∀{xs:List AV} {vs:List Value} (i:Nat) {x:AV} {v:Value},bp ρ xs vs->bC ρ x v->bp ρ (xs.set i x) (vs.set i v)
 |[],[],_,_,_,_,_=>trivial
 |_::_,_::_,0,_,_,⟨_,b⟩,h=>⟨h,b⟩
 |_::_,_::_,i+1,_,_,⟨a,b⟩,h=>⟨a,b.set i h⟩
theorem bp.drop {ρ:List Addr}:∀{xs:List AV} {vs:List Value} (i:Nat),bp ρ xs vs->bp ρ (xs.drop i) (vs.drop i)
 |_,_,0,h=>h
 |[],[],_+1,_=>trivial
 |_::_,_::_,i+1,⟨_,b⟩=>b.drop i
theorem bp.take {ρ:List Addr}:∀{xs:List AV} {vs:List Value} (i:Nat),bp ρ xs vs->bp ρ (xs.take i) (vs.take i)
 |[],[],i,_=>by simp [bp]
 |_::_,_::_,0,_=>trivial
 |_::_,_::_,i+1,⟨a,b⟩=>⟨a,b.take i⟩
theorem bp.snoc (h:bp ρ xs vs) (hx:bC ρ x v):bp ρ (xs++[x]) (vs++[v]):=h.append ⟨hx,trivial⟩
theorem bp.reverse {ρ:List Addr}:∀{xs:List AV} {vs:List Value},bp ρ xs vs->bp ρ xs.reverse vs.reverse
 |[],[],_=>trivial
 |_::_,_::_,⟨a,b⟩=>by
  rw[kM,kM];exact b.reverse.snoc a
theorem bp.dropLast {ρ:List Addr}:∀{xs:List AV} {vs:List Value},bp ρ xs vs->bp ρ xs.dropLast vs.dropLast
 |[],[],_=>trivial
 |[_],[_],_=>trivial
 |_::_::_,_::_::_,⟨a,b⟩=>⟨a,bp.dropLast b⟩
 |[_],_::_::_,h=>h.2.elim
 |_::_::_,[_],h=>h.2.elim
theorem bp.last (h:bp ρ xs vs) (e:xs.getLast? =some x):∃v,vs.getLast? =some v/\bC ρ x v:=by
 rw[oa]at e ⊢;rw[<-h.length];exact h.get e
theorem bp.ints {ρ:List Addr}:∀{xs:List AV} {vs:List Value} {ns:List Int},bp ρ xs vs->intsOf xs=some ns->IntsAre vs ns
 |[],[],_,_,e=>by cases e;exact .nil
 | .int i::xs,v::vs,ns,⟨a,b⟩,e=>by
  obtain⟨t,rfl⟩:=a;unfold intsOf at e;cases h:intsOf xs with
  |none=>rw[h]at e;cases e
  |some ms=>
   rw[h]at e;cases e;exact .cons i t (bp.ints b h)
 | .none::_,_::_,_,_,e=>by cases e
 | .bool _::_,_::_,_,_,e=>by cases e
 | .ref _::_,_::_,_,_,e=>by cases e
 | .base _::_,_::_,_,_,e=>by cases e
 | .ty _::_,_::_,_,_,e=>by cases e
 | .bi _::_,_::_,_,_,e=>by cases e
def jo (ρ:List Addr):Option AV->Option Value->Prop
 | .none,w=>w= .none
 |some x,w=>∃v,w=some v/\bC ρ x v
theorem jo.mono {ρ bX:List Addr} (s:Sub ρ bX):∀{x:Option AV} {v:Option Value},jo ρ x v->jo bX x v
 | .none,_,h=>h
 |some _,_,⟨v,e,h⟩=>⟨v,e,h.mono s⟩
def sr (ρ:List Addr):List (Option AV)->List (Option Value)->Prop
 |[],[]=>True
 |x::xs,v::vs=>jo ρ x v/\sr ρ xs vs
 |_,_=>False
theorem sr.mono {ρ bX:List Addr} (s:Sub ρ bX):∀{xs:List (Option AV)} {vs:List (Option Value)},sr ρ xs vs->sr bX xs vs
 |[],[],_=>trivial
 |_::_,_::_,⟨a,b⟩=>⟨a.mono s,b.mono s⟩
def fQ (ρ:List Addr):List (Int×AV)->List (Int×Value)->Prop
 |[],[]=>True
 |x::xs,v::vs=>(x.1=v.1/\bC ρ x.2 v.2)/\fQ ρ xs vs
 |_,_=>False
theorem fQ.mono {ρ bX:List Addr} (s:Sub ρ bX):∀{xs:List (Int×AV)} {vs:List (Int×Value)},fQ ρ xs vs->fQ bX xs vs
 |[],[],_=>trivial
 |_::_,_::_,⟨a,b⟩=>⟨⟨a.1,a.2.mono s⟩,b.mono s⟩
def Er (ρ:List Addr) (l:Loc) (m:Str->Option Value):Prop:=∀x v,l.lookup x=some v->∃rv,m x=some rv/\bC ρ v rv
theorem Er.mono {ρ bX:List Addr} (s:Sub ρ bX) {l:Loc} {m:Str->Option Value} (h:Er ρ l m):Er bX l m:=λx v e=>
 let ⟨rv,a,b⟩:=h x v e;⟨rv,a,b.mono s⟩
def dA (ρ:List Addr):List (Str×Nat)->List (Str×Addr)->Prop
 |[],[]=>True
 |x::xs,v::vs=>(x.1=v.1/\ρ[x.2]? =some v.2)/\dA ρ xs vs
 |_,_=>False
theorem dA.mono {ρ bX:List Addr} (s:Sub ρ bX):∀{xs:List (Str×Nat)} {vs:List (Str×Addr)},dA ρ xs vs->dA bX xs vs
 |[],[],_=>trivial
 |_::_,_::_,⟨a,b⟩=>⟨⟨a.1,s _ _ a.2⟩,b.mono s⟩
theorem dA.lookup {ρ:List Addr} {x:Str} {i:Nat}:∀{cs:List (Str×Nat)} {rs:List (Str×Addr)},dA ρ cs rs->cs.lookup x=some i->∃a,rs.lookup x=some a/\ρ[i]? =some a
 |[],[],_,e=>by cases e
 | (y,j)::cs,(z,b)::rs,⟨⟨h1,h2⟩,r⟩,e=>by
  simp only at h1 h2
  subst h1;rw[az]at e ⊢;cases hx:x==y with
  |true=>rw[hx]at e;cases e;exact⟨b,rfl,h2⟩
  |false=>rw[hx]at e;exact dA.lookup r e
abbrev gk (vs:List Value) (n:Nat):Obj:={cls:= .type "list",dict:=none,data:= .seq vs.toArray n,slots:= #[]}
abbrev zP (vs:List Value) (n:Nat):Obj:={cls:= .type "tuple",dict:=none,data:= .seq vs.toArray n,slots:= #[]}
def WN:AV->List Addr->Value->Prop
 | .base a,_,v=>v= .ref a
 | .ref n,ρ,v=>∃a,ρ[n]? =some a/\v= .ref a
 |_,_,_=>False
def iO (ρ:List Addr):List (Str×AV)->List DictEntry->Prop
 |[],[]=>True
 |x::m,e::es=>((∃t,e.key= .str x.1 t)/\bC ρ x.2 e.val)/\iO ρ m es
 |_,_=>False
theorem iO.mono {ρ bX:List Addr} (s:Sub ρ bX):∀{m:List (Str×AV)} {es:List DictEntry},iO ρ m es->iO bX m es
 |[],[],_=>trivial
 |_::_,_::_,⟨⟨a,b⟩,r⟩=>⟨⟨a,b.mono s⟩,r.mono s⟩
def Ri (X:Bx) (κ:List Addr) (h:Heap) (f:Addr) (name qual:Str) (i:Nat) (clos:List (Str×Addr)):Prop:=
 ∃doc c' lW,h.get? f=some (fnMade name qual (X.kd i).args (X.kd i).body (X.kd i).scope clos doc ((X.mg "__name__").getD .none) c' lW)/\f∈κ/\h.CodeRec (.ref c') qual/\c'∈κ
def S0 (X:Bx) (κ:List Addr) (h:Heap) (a cell:Addr):Prop:=
 ∃ns md B r tk h1 t1 h2 t2 tm,h.get? a=some (kObj a ns B tk r.tq)/\h.get? ns=some (eh (kO r h1 t1 md h2 t2) 3)/\ns∈κ/\h.get? md=some (I9 tm a)/\md∈κ/\
  Ri X κ h r.fi "__init__" "cmp_to_key.<locals>.K.__init__" 0 []/\Ri X κ h r.t6 "__lt__" "cmp_to_key.<locals>.K.__lt__" 1 [(("mycmp":Str),cell)]
theorem Ri.keep {f:Addr} {name qual:Str} (x:Ri X κ h f name qual i clos) (zy:∀b∈κ,b∈κ') (hk:∀b∈κ,∀o,h.get? b=some o->h'.get? b=some o):
  Ri X κ' h' f name qual i clos:=by
 obtain⟨doc,c',lW,e,m,⟨c₂,o,vs,t,e1,e2,e3⟩,mc⟩:=x;cases e1;exact⟨doc,c',lW,hk _ m _ e,zy _ m,⟨c',o,vs,t,rfl,hk _ mc _ e2,e3⟩,zy _ mc⟩
theorem S0.keep {X:Bx} {κ κ':List Addr} {h h':Heap} {a cell:Addr} (x:S0 X κ h a cell) (zy:∀b∈κ,b∈κ') (ha:∀o,h.get? a=some o->h'.get? a=some o) (hk:∀b∈κ,∀o,h.get? b=some o->h'.get? b=some o):S0 X κ' h' a cell:=by
 obtain⟨ns,md,B,r,tk,h1,t1,h2,t2,tm,e1,e2,m2,e3,m3,f1,f2⟩:=x;exact⟨ns,md,B,r,tk,h1,t1,h2,t2,tm,ha _ e1,hk _ m2 _ e2,zy _ m2,hk _ m3 _ e3,zy _ m3,f1.keep zy hk,f2.keep zy hk⟩
def qU (X:Bx) (ρ κ:List Addr) (h:Heap) (a:Addr):bP->Prop
 | .list xs=>∃vs n,h.get? a=some (gk vs n)/\bp ρ xs vs/\xs.length<=20000
 | .tuple xs=>∃vs n,h.get? a=some (zP vs n)/\bp ρ xs vs/\xs.length<=20000
 | .dict es ep=>∃gZ,h.DictAt (intKind X.prog X.w) a gZ ep/\fQ ρ es gZ/\es.length<=20000
 | .set xs=>h.SetOf (intKind X.prog X.w) a (λk=>xs.contains k) xs.length/\xs.length<=1000
 | .ns m=>∃es n,h.get? a=some (dictOf es n)/\iO ρ m es
 | .inst c d=>∃ad,ρ[d]? =some ad/\h.get? a=some {cls:= .ref c,dict:=some ad,data:= .plain,slots:= #[]}
 | .slots c vs=>∃cv,∃ws:Array (Option Value),WN c ρ cv/\(∃dx,h.get? a=some {cls:=cv,dict:=some dx,data:= .plain,slots:=ws}/\dx∈κ/\h.get? dx=some emptyDict)/\(∀i:Nat,jo ρ (vs[i]?.join) (ws[i]?.join))/\ws.size<=vs.length
 | .jb c=>∃ac,ρ[c]? =some ac/\S0 X κ h a ac
 | .lam ps body sc cells=>∃qual pm c ct cls rs,h.get? a=some {cls:=cls,data:= .func (kla_fn "<lambda>" qual ps body sc rs pm (.ref c) ct)}/\c∈κ/\h.CodeRec (.ref c) qual/\dA ρ cells rs/\cls= .type "function"
 | .cell v=>∃w,h.IsCell a w/\jo ρ v w
 | .eZ l i=>∃al,ρ[l]? =some al/\h.get? a=some {cls:= .type "list_iterator",data:= .fields #[.ref al,.int i 0]}
 | .slice x y z=>∃vx vy vz,h.get? a=some {cls:= .type "slice",data:= .fields #[vx,vy,vz]}/\bC ρ x vx/\bC ρ y vy/\bC ρ z vz
 | .lN=>∃t:Value,h.get? a=some {cls:= .type "list_iterator",data:= .fields #[.none,t]}
 | .nextOf it=>∃ai,ρ[it]? =some ai/\h.get? a=some {cls:= .type "method-wrapper",data:= .fields #[.builtin "list_iterator.__next__",.ref ai]}
 | .mH i j=>∃t u v,IsRange h a i j 1 t u v
 | .gy d=>∃ad,ρ[d]? =some ad/\h.get? a=some {cls:= .type "dict_values",data:= .fields #[.ref ad]}
theorem qU.keep {X:Bx} {ρ bX κ κ':List Addr} {h h':Heap} {a:Addr} (s:Sub ρ bX) (zy:∀b∈κ,b∈κ') (ha:∀o,h.get? a=some o->h'.get? a=some o)
  (hk:∀b∈κ,∀o,h.get? b=some o->h'.get? b=some o):∀{o:bP},qU X ρ κ h a o->qU X bX κ' h' a o
 | .list _,⟨vs,n,e,r,b⟩=>⟨vs,n,ha _ e,r.mono s,b⟩
 | .tuple _,⟨vs,n,e,r,b⟩=>⟨vs,n,ha _ e,r.mono s,b⟩
 | .dict _ _,⟨gZ,⟨o,es,e,d⟩,r,b⟩=>⟨gZ,⟨o,es,ha _ e,d⟩,r.mono s,b⟩
 | .set _,⟨⟨o,es,ep,t,e,d⟩,b⟩=>⟨⟨o,es,ep,t,ha _ e,d⟩,b⟩
 | .ns _,⟨es,n,e,r⟩=>⟨es,n,ha _ e,r.mono s⟩
 | .inst _ _,⟨ad,e,g⟩=>⟨ad,s _ _ e,ha _ g⟩
 | .slots c _,⟨cv,ws,e,⟨dx,g,g1,g2⟩,r⟩=>⟨cv,ws,(by cases c<;>first|exact e|exact e.elim|exact⟨e.choose,s _ _ e.choose_spec.1,e.choose_spec.2⟩),⟨dx,ha _ g,zy _ g1,hk _ g1 _ g2⟩,λi=>(r.1 i).mono s,r.2⟩
 | .jb _,⟨ac,e,g⟩=>⟨ac,s _ _ e,g.keep zy ha hk⟩
 | .lam _ _ _ _,⟨qual,pm,c,ct,cls,rs,e,hc,⟨c',oc,vs,t,e',g,d⟩,r,z⟩=>⟨qual,pm,c,ct,cls,rs,ha _ e,zy _ hc,⟨c',oc,vs,t,e',(by cases e';exact hk _ hc _ g),d⟩,r.mono s,z⟩
 | .cell _,⟨w,⟨o,e,d⟩,r⟩=>⟨w,⟨o,ha _ e,d⟩,r.mono s⟩
 | .eZ _ _,⟨al,e,g⟩=>⟨al,s _ _ e,ha _ g⟩
 | .slice _ _ _,⟨vx,vy,vz,g,r1,r2,r3⟩=>⟨vx,vy,vz,ha _ g,r1.mono s,r2.mono s,r3.mono s⟩
 | .lN,⟨t,g⟩=>⟨t,ha _ g⟩
 | .nextOf _,⟨al,e,g⟩=>⟨al,s _ _ e,ha _ g⟩
 | .mH _ _,⟨t,u,v,g⟩=>⟨t,u,v,ha _ g⟩
 | .gy _,⟨al,e,g⟩=>⟨al,s _ _ e,ha _ g⟩
end
structure TabsOk (X:Bx) (κ:List Addr) (h:Heap):Prop where
 lam:∀c P q,(c,P,q)∈X.tabs->∃ps,h.get? P=some (tabObj ps)/\TriplesOk ps.toList/\∀pos cv,codeAmong pos ps.toList=some cv->∃c',cv= .ref c'/\c'∈κ/\h.CodeRec cv (q++"<lambda>")
 kc:∃ps,h.get? X.kP=some (tabObj ps)/\TriplesOk ps.toList/\∀cv,codeAmong X.kpos ps.toList=some cv->∃kc P' gX,cv= .ref kc/\kc∈κ/\P'∈κ/\jn h kc P' gX/\kc≠P'/\
  (∀x∈kPairs X.kd,∃c',codeAmong x.1 gX.toList=some (.ref c')/\h.CodeRec (.ref c') x.2/\c'∈κ)
theorem eu{q:Str} (x:h.CodeRec (.ref c) q) (hk:∀o,h.get? c=some o->h'.get? c=some o):h'.CodeRec (.ref c) q:=by
 obtain⟨c',o,vs,t,e,g,d,r⟩:=x;cases e;exact⟨c,o,vs,t,rfl,hk _ g,d,r⟩
theorem TabsOk.keep (T:TabsOk X κ h) (zy:∀b∈κ,b∈κ') (ht:∀P∈X.eX,∀o,h.get? P=some o->h'.get? P=some o)
  (hk:∀b∈κ,∀o,h.get? b=some o->h'.get? b=some o):TabsOk X κ' h':=by
 refine⟨λc P q m=> ?_, ?_⟩
 ·obtain⟨ps,e,t,r⟩:=T.lam c P q m;refine⟨ps,ht P (ah _ (aR.mpr ⟨_,m,rfl⟩)) _ e,t,λpos cv hc=> ?_⟩;obtain⟨c',rfl,hm,hr⟩:=r pos cv hc;exact⟨c',rfl,zy _ hm,eu hr (hk _ hm)⟩
 ·obtain⟨ps,e,t,r⟩:=T.kc;refine⟨ps,ht _ (aj ..) _ e,t,λcv hc=> ?_⟩;obtain⟨kc,P',gX,rfl,h1,h2,h3,h4,h5⟩:=r cv hc;refine⟨kc,P',gX,rfl,zy _ h1,zy _ h2,⟨?_,hk _ h2 _ h3.tab,h3.tri⟩,h4,λx hx=> ?_⟩
  ·obtain⟨o,vs,file,tf,flags,tg,uU,text,tt,e,r⟩:=h3.hd;exact⟨o,vs,file,tf,flags,tg,uU,text,tt,hk _ h1 _ e,r⟩
  ·obtain⟨c',e1,e2,e3⟩:=h5 x hx;exact⟨c',e1,eu e2 (hk _ e3),zy _ e3⟩
structure Rel (X:Bx) (ρ κ:List Addr) (σ:Hp) (s:Shared):Prop where
 len:ρ.length=σ.length
 nodup:ρ.Nodup
 dis:∀a∈ρ,a∉κ
 own:∀a∈ρ,X.h₀.get? a=none
 sS:∀a∈κ,X.h₀.get? a=none
 al:∀a∈ρ,∃o,s.heap.get? a=Option.some o
 JU:∀a∈κ,∃o,s.heap.get? a=Option.some o
 objs:∀(i:Nat) (o:bP) (a:Addr),σ[i]? =some o->ρ[i]? =some a->qU X ρ κ s.heap a o
 keep:∀b o,X.h₀.get? b=some o->b∉X.eX->s.heap.get? b=some o
 iz:∀P∈X.eX,∃o,X.h₀.get? P=Option.some o
 tabs:TabsOk X κ s.heap
 gens:s.gens= #[]
 os:s.os=X.os
structure Ext (X:Bx) (Fs:List Addr) (L:Addr) (ρ κ:List Addr) (s:Shared) (bX κ':List Addr) (s':Shared):Prop where
 sub:Sub ρ bX
 uL:∀a∈κ,a∈κ'
 pO:∀a∈bX,a∈ρ\/s.heap.get? a=none
 qI:∀a∈κ',a∈κ\/s.heap.get? a=none
 alive:∀b o,s.heap.get? b=some o->∃o',s'.heap.get? b=some o'
 fr:∀b o,s.heap.get? b=some o->b∉ρ->b≠L->b∉X.eX->(∃sl,s'.heap.get? b=some {o with slots:=sl})/\(b∉Fs->s'.heap.get? b=some o)
theorem Ext.refl {X:Bx} {Fs:List Addr} {L:Addr} {ρ κ:List Addr} {s:Shared}:Ext X Fs L ρ κ s ρ κ s:=
 ⟨Sub.refl _,λ_ h=>h,λ_ h=> .inl h,λ_ h=> .inl h,λ_ o e=>⟨o,e⟩,λ_ o e _ _ _=>⟨⟨o.slots,e⟩,λ_=>e⟩⟩
theorem Ext.trans {X:Bx} {Fs:List Addr} {L:Addr} {ρ κ mE mY jW jX:List Addr} {s s₁ s₂:Shared} (x:Ext X Fs L ρ κ s mE mY s₁) (y:Ext X Fs L mE mY s₁ jW jX s₂):
  Ext X Fs L ρ κ s jW jX s₂:=by
 have back:∀a,s₁.heap.get? a=none->s.heap.get? a=none:=λa q=>by
  cases e:s.heap.get? a with
  |none=>rfl
  |some o=>obtain⟨o',e'⟩:=x.alive a o e;rw[q]at e';cases e'
 refine⟨x.sub.trans y.sub,λa h=>y.uL a (x.uL a h),λa h=> ?_,λa h=> ?_,λb o e=>let ⟨o',e'⟩:=x.alive b o e;y.alive b o' e',λb o e h1 h2 h3=> ?_⟩
 ·rcases y.pO a h with q|q
  ·exact x.pO a q
  ·exact .inr (back a q)
 ·rcases y.qI a h with q|q
  ·exact x.qI a q
  ·exact .inr (back a q)
 ·have hb:b∉mE:=λq=>(x.pO b q).elim h1 λz=>by rw[e]at z;cases z
  obtain⟨⟨sl,e1⟩,k1⟩:=x.fr b o e h1 h2 h3;refine⟨?_,λhf=> ?_⟩
  ·obtain⟨⟨zX,e2⟩,_⟩:=y.fr b _ e1 hb h2 h3;exact⟨zX,e2⟩
  ·exact(y.fr b o (k1 hf) hb h2 h3).2 hf
def b7 (A:Around):List Addr:=(A.frames.getD []).filterMap (·.frame)
structure CE (k:Option NameKind) (k':Option NameKind):Prop where
 h:k=k'\/((k=some .free\/k=some .cell)/\(k'=some .free\/k'=some .cell))
structure vZ (X:Bx) (fe:cn) (env:Env) (ρ:List Addr):Prop where
 kind:env.scope.kind= .function
 names:∀x,CE (fe.scope.names.lookup x) (env.kindOf x)
 cells:∀x i,fe.cells.lookup x=some i->∃a,ρ[i]? =some a/\env.cells.lookup x=some a
 glob:env.globals=mainGlobals
 bu:env.builtins=builtinsNs
 frame:∃f,env.frame=some f
 code:∀c,fe.code=some c->env.code= .ref c/\∃P,(c,P,env.qual)∈X.tabs
theorem vZ.mono {fe:cn} {env:Env} (s:Sub ρ bX) (h:vZ X fe env ρ):vZ X fe env bX:=
 ⟨h.kind,h.names,λx i e=>let ⟨a,p,q⟩:=h.cells x i e;⟨a,s _ _ p,q⟩,h.glob,h.bu,h.frame,h.code⟩
structure zj (X:Bx) (A:Around) (ρ κ:List Addr) (s:Shared):Prop where
 fs:∃l,A.frames=Option.some l/\∀e∈l,e.scope.kind≠ .module/\∃f,e.frame=Option.some f
 ok:∀f∈b7 A,(∃o,s.heap.get? f=some o)/\f∉ρ/\f∉κ/\X.h₀.get? f=none
def Top (A:Around) (env:Env):Prop:=∃outer,A.frames=some (env::outer)
structure Cfg (X:Bx) (A:Around) (fe:cn) (env:Env) (ρ κ:List Addr) (l:Loc) (σ:Hp) (s:Shared):Prop where
 rel:Rel X ρ κ σ s
 ns:∃m,s.heap.Ns env.locals m/\Er ρ l m
 lr:env.locals∉ρ
 lk:env.locals∉κ
 l0:X.h₀.get? env.locals=none
 env:vZ X fe env ρ
 oq:zj X A ρ κ s
theorem Rel.Cz (R:Rel X ρ κ σ s) {b:Addr} (ha:a∈ρ) (hb:X.h₀.get? b=some o):b≠a:=λq=>by
 subst q;rw[R.own _ ha]at hb;cases hb
theorem Rel.move (R:Rel X ρ κ σ s)
  (hk:∀b o,s.heap.get? b=some o->(b∈ρ\/b∈κ\/b∈X.eX\/(∃o',X.h₀.get? b=some o'))->s'.heap.get? b=some o) (hg:s'.gens=s.gens) (ho:s'.os=s.os):Rel X ρ κ σ s':=by
 refine⟨R.len,R.nodup,R.dis,R.own,R.sS,λa h=>let ⟨o,e⟩:=R.al a h;⟨o,hk a o e (.inl h)⟩,λa h=>let ⟨o,e⟩:=R.JU a h;⟨o,hk a o e (.inr (.inl h))⟩,λi o a e1 e2=> ?_,λb o e h=> ?_,R.iz, ?_,hg.trans R.gens,ho.trans R.os⟩
 ·exact(R.objs i o a e1 e2).keep (Sub.refl _) (λ_ h=>h) (λo e=>hk a o e (.inl (bB e2))) λb hb o e=>hk b o e (.inr (.inl hb))
 ·exact hk b o (R.keep b o e h) (.inr (.inr (.inr ⟨o,e⟩)))
 ·exact R.tabs.keep (λ_ h=>h) (λP hP o e=>hk P o e (.inr (.inr (.inl hP)))) λb hb o e=>hk b o e (.inr (.inl hb))
theorem getElem?_snoc_cases {l:List α} {x:α} {o:α} (e:(l++[x])[i]? =some o):(i<l.length/\l[i]? =some o)\/(i=l.length/\o=x):=by
 by_cases h:i<l.length
 ·rw[cF h]at e;exact .inl ⟨h,e⟩
 ·rw[aY (Nat.le_of_not_lt h)]at e;have:i-l.length=0:=by
   cases q:i-l.length with
   |zero=>rfl
   |succ n=>rw[q]at e;simp at e
  rw[this]at e;exact .inr ⟨by omega,by simpa using e.symm⟩
theorem Rel.join (R:Rel X ρ κ σ s) {o:bP} (h1:a∉ρ) (h2:a∉κ) (h3:X.h₀.get? a=none) (h4:∃o,s.heap.get? a=some o)
  (h:qU X (ρ++[a]) κ s.heap a o):Rel X (ρ++[a]) κ (σ++[o]) s:=by
 refine⟨by rw[af,af,R.len];rfl, ?_, ?_, ?_,R.sS, ?_,R.JU, ?_,R.keep,R.iz,R.tabs,R.gens,R.os⟩
 ·rw[bT];refine⟨R.nodup,by simp,λx hx y hy=> ?_⟩;rw[aA]at hy;subst hy;exact λq=>h1 (q▸hx)
 ·intro x hx;rcases au.mp hx with q|q
  ·exact R.dis x q
  ·rw[aA]at q;subst q;exact h2
 ·intro x hx;rcases au.mp hx with q|q
  ·exact R.own x q
  ·rw[aA]at q;subst q;exact h3
 ·intro x hx;rcases au.mp hx with q|q
  ·exact R.al x q
  ·rw[aA]at q;subst q;exact h4
 ·intro i o' a' e1 e2;rcases getElem?_snoc_cases e1 with⟨q,e1⟩|⟨q,rfl⟩
  ·have KP:ρ[i]? =some a':=by rw[cF (by rw[R.len];exact q)]at e2;exact e2
   exact(R.objs i o' a' e1 KP).keep (Sub.append _ _) (λ_ h=>h) (λ_ e=>e) λ_ _ _ e=>e
  ·have:a'=a:=by
    rw[q,<-R.len,aY (aJ _)]at e2;simpa using e2.symm
   subst this;exact h
theorem Rel.aux (R:Rel X ρ κ σ s) (h1:∀a∈κ',a∉ρ) (h2:∀a∈κ',X.h₀.get? a=none) (h3:∀a∈κ',∃o,s.heap.get? a=some o):Rel X ρ (κ++κ') σ s:=by
 refine⟨R.len,R.nodup,λa ha hm=> ?_,R.own,λa ha=> ?_,R.al,λa ha=> ?_,λi o a e1 e2=>(R.objs i o a e1 e2).keep (Sub.refl _) (λ_ h=>aI _ h) (λ_ e=>e) λ_ _ _ e=>e,R.keep,R.iz,
  R.tabs.keep (λ_ h=>aI _ h) (λ_ _ _ e=>e) λ_ _ _ e=>e,R.gens,R.os⟩
 ·rcases au.mp hm with q|q
  ·exact R.dis a ha q
  ·exact h1 a q ha
 ·rcases au.mp ha with q|q
  ·exact R.sS a q
  ·exact h2 a q
 ·rcases au.mp ha with q|q
  ·exact R.JU a q
  ·exact h3 a q
theorem sW:∀{l:List Addr} (_:l.Nodup) {i j:Nat} {a:Addr} (_:l[i]? =some a) (_:l[j]? =some a),i=j
 |_::_,_,0,0,_,_,_=>rfl
 |x::l,h,0,j+1,a,e1,e2=>by
  cases e1;rw[d8]at e2;exact absurd (bB e2) (bA.mp h).1
 |x::l,h,i+1,0,a,e1,e2=>by
  cases e2;rw[d8]at e1;exact absurd (bB e1) (bA.mp h).1
 |x::l,h,i+1,j+1,a,e1,e2=>by
  rw[d8]at e1 e2;rw[sW (bA.mp h).2 e1 e2]
theorem Rel.put (R:Rel X ρ κ σ s) {o:bP} (ha:ρ[n]? =some a) (hs:∃o,s'.heap.get? a=some o)
  (hk:∀b ob,b≠a->s.heap.get? b=some ob->s'.heap.get? b=some ob) (hg:s'.gens=s.gens) (ho:s'.os=s.os)
  (h:qU X ρ κ s'.heap a o):Rel X ρ κ (σ.set n o) s':=by
 have hm:=bB ha;have Uc:a∉X.eX:=λq=>let ⟨o,e⟩:=R.iz a q;by rw[R.own a hm]at e;cases e
 refine⟨by rw[aV];exact R.len,R.nodup,R.dis,R.own,R.sS,λb h=> ?_,λb h=>let ⟨o,e⟩:=R.JU b h;⟨o,hk b o (λz=>R.dis a hm (z▸h)) e⟩,λi o' b e1 e2=> ?_,λb ob e h=> ?_,R.iz, ?_,hg.trans R.gens,ho.trans R.os⟩
 ·by_cases z:b=a
  ·rw[z];exact hs
  ·obtain⟨o,e⟩:=R.al b h;exact⟨o,hk b o z e⟩
 ·rw[zq]at e1;by_cases q:n=i
  ·subst q;have:b=a:=by rw[ha]at e2;exact(bV e2).symm
   subst this;split at e1
   ·split at e1
    ·cases e1;exact h
    ·cases e1
   ·rename_i f;exact absurd rfl f
  ·rw[aC q]at e1;have nb:b≠a:=λz=>q (sW R.nodup ha (z▸e2));exact(R.objs i o' b e1 e2).keep (Sub.refl _) (λ_ h=>h) (λob e=>hk b ob nb e) λc hc ob e=>hk c ob (λz=>R.dis a hm (z▸hc)) e
 ·exact hk b ob (R.Cz hm e) (R.keep b ob e h)
 ·exact R.tabs.keep (λ_ h=>h) (λP hP ob e=>hk P ob (λz=>Uc (z▸hP)) e) λc hc ob e=>hk c ob (λz=>R.dis a hm (z▸hc)) e
structure u4 (X:Bx) (A:Around) (env:Env) (bD:Shared) (ρ κ:List Addr) (k:Exc) (v:Value) (s:Shared):Prop where
 h:∃e ob t ctx cause sup mem tb,v= .ref e/\bD.heap.get? e=none/\s.heap.get? e=some ob/\ob.cls= .type (jk k)/\ob.data= .fields #[t,tb,ctx,cause,sup,mem]/\
  e∉ρ/\e∉κ/\X.h₀.get? e=none/\e∉b7 A/\e≠env.locals/\
  (A.handled=none->k≠ .late->ctx= .none)/\
  (tb= .none\/∃a f wi tc,tb= .ref a/\env.frame=some f/\s.heap.get? a=some {cls:=tc,data:= .fields wi}/\wi[3]? =some (rawInt f)/\a∉ρ/\a∉κ/\X.h₀.get? a=none/\a∉b7 A/\a≠env.locals/\a≠e/\bD.heap.get? a=none)
theorem u4.back {env:Env} {bD s₁:Shared} {k:Exc} (h:u4 X A env s₁ ρ κ k v s) (Su:∀b o,bD.heap.get? b=some o->∃o',s₁.heap.get? b=some o'):u4 X A env bD ρ κ k v s:=by
 have bk:∀a,s₁.heap.get? a=none->bD.heap.get? a=none:=λa q=>by
  cases e:bD.heap.get? a with
  |none=>rfl
  |some o=>obtain⟨o',e'⟩:=Su a o e;rw[q]at e';cases e'
 obtain⟨e,ob,t,ctx,cause,sup,mem,tb,h1,h2,h3,h4,h5,h6,h7,h8,h9,Ia,VA,h12⟩:=h.h;refine⟨e,ob,t,ctx,cause,sup,mem,tb,h1,bk _ h2,h3,h4,h5,h6,h7,h8,h9,Ia,VA,h12.imp id ?_⟩;rintro⟨a,f,wi,tc,q1,q2,q3,q4,q5,q6,q7,q8,q9,ZT,ZS⟩;exact⟨a,f,wi,tc,q1,q2,q3,q4,q5,q6,q7,q8,q9,ZT,bk _ ZS⟩
structure jq (X:Bx) (A:Around) (env:Env) (hd:Nat) (ρ κ:List Addr) (s:Shared):Prop where
 none_:hd=0->A.handled=none
 one:hd=1->∃e o vs,A.handled=some (.ref e)/\s.heap.get? e=some o/\o.data= .fields vs/\vs[2]? =some .none/\e∉ρ/\e∉κ/\X.h₀.get? e=none/\e∉b7 A/\e≠env.locals
abbrev M (X:Bx):Model:=model X.prog X.w
structure bJ (X:Bx) (A:Around) (fe:cn) (env:Env) (hd:Nat) (ρ κ:List Addr) (s:Shared) (st:AS) (bX κ':List Addr) (s':Shared):Prop where
 ext:Ext X (b7 A) env.locals ρ κ s bX κ' s'
 cfg:Cfg X A fe env bX κ' st.loc st.hp s'
 hok:jq X A env hd bX κ' s'
def mM (X:Bx) (A:Around) (fe:cn) (env:Env) (hd:Nat) {α β:Type} (R:List Addr->α->β->Prop) (ρ κ:List Addr) (s:Shared) (r:Res β) (st:AS):α->Shared->Prop:=
 λv s'=>∃b bX κ',r= .ok b/\R bX v b/\bJ X A fe env hd ρ κ s st bX κ' s'
def o6 (X:Bx) (A:Around) (fe:cn) (env:Env) (hd:Nat) {β:Type} (ρ κ:List Addr) (s:Shared) (r:Res β) (st:AS):Value->Shared->Prop:=
 λe s'=>∃k bX κ',r= .exc k/\u4 X A env s bX κ' k e s'/\bJ X A fe env hd ρ κ s st bX κ' s'
def aU (X:Bx) (A:Around) (fe:cn) (env:Env) (hd:Nat) {α β:Type} (Pre:List Addr->Prop) (t:Sem α) (c:PM β) (R:List Addr->α->β->Prop):Prop:=
 ∀ρ κ l σ s,Cfg X A fe env ρ κ l σ s->jq X A env hd ρ κ s->Pre ρ->∀r st,c ⟨l,σ⟩=some (r,st)->
  wpAny (M X) A t (mM X A fe env hd R ρ κ s r st) (o6 X A fe env hd ρ κ s r st) s
section
variable {X:Bx} {A:Around} {fe:cn} {env:Env} {hd:Nat} {α β γ δ:Type} {Pre:List Addr->Prop}
theorem bJ.refl {ρ κ:List Addr} {l:Loc} {σ:Hp} {s:Shared} (C:Cfg X A fe env ρ κ l σ s) (H:jq X A env hd ρ κ s):bJ X A fe env hd ρ κ s ⟨l,σ⟩ ρ κ s:=⟨Ext.refl,C,H⟩
theorem bJ.trans {ρ κ mE mY jW jX:List Addr} {s s₁ s₂:Shared} {ku m5:AS} (x:bJ X A fe env hd ρ κ s ku mE mY s₁) (y:bJ X A fe env hd mE mY s₁ m5 jW jX s₂):
  bJ X A fe env hd ρ κ s m5 jW jX s₂:=⟨x.ext.trans y.ext,y.cfg,y.hok⟩
theorem aU.pure {R:List Addr->α->β->Prop} {a:α} {b:β} (h:∀ρ,Pre ρ->R ρ a b):aU X A fe env hd Pre (Pure.pure a) (PM.pure b) R:=by
 intro ρ κ l σ s C H P r st e;cases e;exact ae ⟨b,ρ,κ,rfl,h ρ P,bJ.refl C H⟩
theorem aU.stuck {R:List Addr->α->β->Prop} {t:Sem α}:aU X A fe env hd Pre t PM.stuck R:=λ_ _ _ _ _ _ _ _ _ _ e=>nomatch e
theorem aH{m:PM γ} {f:γ->PM δ} {s:AS} {r:Res δ} (e:(m>>=f) s=some (r,st)):
  (∃a s',m s=some (.ok a,s')/\f a s'=some (r,st))\/(∃k,m s=some (.exc k,st)/\r= .exc k):=by
 change (match m s with|some (.ok a,s')=>f a s'|some (.exc k,s')=>some (.exc k,s')| .none=> .none)=_ at e
 cases h:m s with
 |none=>rw[h]at e;cases e
 |some p=>
  obtain⟨p,s'⟩:=p;rw[h]at e;cases p with
  |ok a=>exact .inl ⟨a,s',rfl,e⟩
  |exc k=>cases e;exact .inr ⟨k,rfl,rfl⟩
theorem aU.bind {R:List Addr->α->γ->Prop} {R':List Addr->β->δ->Prop} {t:Sem α} {f:α->Sem β} {c:PM γ} {g:γ->PM δ} (hm:∀ρ bX,Sub ρ bX->Pre ρ->Pre bX)
  (h1:aU X A fe env hd Pre t c R) (h2:∀a b,aU X A fe env hd (λρ=>Pre ρ/\R ρ a b) (f a) (g b) R'):aU X A fe env hd Pre (t>>=f) (c>>=g) R':=by
 intro ρ κ l σ s C H P r st e;refine aa ?_;rcases aH e with⟨b,s',e1,e2⟩|⟨k,e1,rfl⟩
 ·refine ao (h1 ρ κ l σ s C H P _ _ e1) ?_ ?_
  ·rintro a s₁ ⟨b',mE,mY,hb,hR,N⟩;cases hb;refine ao (h2 a b mE mY s'.loc s'.hp s₁ N.cfg N.hok ⟨hm _ _ N.ext.sub P,hR⟩ r st e2) ?_ ?_
   ·rintro v s₂ ⟨d,jW,jX,hd,Vm,N'⟩;exact⟨d,jW,jX,hd,Vm,N.trans N'⟩
   ·rintro v s₂ ⟨d,jW,jX,hd,Vm,N'⟩;exact⟨d,jW,jX,hd,Vm.back N.ext.alive,N.trans N'⟩
  ·rintro v s₁ ⟨k,mE,mY,hb,_⟩;cases hb
 ·refine ao (h1 ρ κ l σ s C H P _ _ e1) ?_ ?_
  ·rintro a s₁ ⟨b',mE,mY,hb,hR,N⟩;cases hb
  ·rintro v s₁ ⟨k',mE,mY,hb,hR,N⟩;cases hb;exact⟨k,mE,mY,rfl,hR,N⟩
theorem aU.mono {HC:List Addr->Prop} {R R':List Addr->α->β->Prop} {t:Sem α} {c:PM β} (h:aU X A fe env hd HC t c R) (hp:∀ρ,Pre ρ->HC ρ) (hr:∀ρ a b,R ρ a b->R' ρ a b):aU X A fe env hd Pre t c R':=by
 intro ρ κ l σ s C H P r st e;refine ao (h ρ κ l σ s C H (hp ρ P) r st e) ?_ λ_ _ x=>x;rintro v s' ⟨b,bX,κ',h1,h2,h3⟩;exact⟨b,bX,κ',h1,hr _ _ _ h2,h3⟩
theorem aU.pre {HC:List Addr->Prop} {R:List Addr->α->β->Prop} {t:Sem α} {c:PM β} (h:aU X A fe env hd HC t c R) (hp:∀ρ,Pre ρ->HC ρ):aU X A fe env hd Pre t c R:=h.mono hp λ_ _ _ x=>x
theorem aU.holding {R:List Addr->α->β->Prop} {vs:List Value} {t:Sem α} {c:PM β} (h:aU X A fe env hd Pre t c R):aU X A fe env hd Pre (holding vs t) c R:=
 λρ κ l σ s C H P r st e=>aQ (h ρ κ l σ s C H P r st e)
theorem aU.d5 {R:List Addr->α->β->Prop} {p:Pos} {f:Unit->Sem α} {c:PM β} (h:aU X A fe env hd Pre (f ()) c R):aU X A fe env hd Pre (standAt p>>=f) c R:=
 λρ κ l σ s C H P r st e=>aa (c7 (h ρ κ l σ s C H P r st e))
theorem aU.point {R:List Addr->α->β->Prop} {f:Unit->Sem α} {c:PM β} (h:aU X A fe env hd Pre (f ()) c R):aU X A fe env hd Pre (point>>=f) c R:=
 λρ κ l σ s C H P r st e=>aa (CG (h ρ κ l σ s C H P r st e))
theorem aU.rule {R:List Addr->α->β->Prop} {p:String} {f:Unit->Sem α} {c:PM β} (h:aU X A fe env hd Pre (f ()) c R):aU X A fe env hd Pre (rule p>>=f) c R:=
 λρ κ l σ s C H P r st e=>aa (jV (h ρ κ l σ s C H P r st e))
theorem aU.release {R:List Addr->α->β->Prop} {vs keep:List Value} {f:Unit->Sem α} {c:PM β} (h:aU X A fe env hd Pre (f ()) c R):aU X A fe env hd Pre (release vs keep>>=f) c R:=
 λρ κ l σ s C H P r st e=>aa (wa (h ρ κ l σ s C H P r st e))
theorem aU.operate {R:List Addr->Value->β->Prop} {vs:List Value} {t:Sem Value} {c:PM β} (h:aU X A fe env hd Pre t c R):aU X A fe env hd Pre (operate vs t) c R:=by
 intro ρ κ l σ s C H P r st e;unfold PySem.operate;refine aa (aQ (ao (h ρ κ l σ s C H P r st e) (λv s' q=> ?_) λ_ _ x=>x));exact aa (wa (ae q))
theorem aU.of_eq {R:List Addr->α->β->Prop} {t t':Sem α} {c:PM β} (e:t=t') (h:aU X A fe env hd Pre t' c R):aU X A fe env hd Pre t c R:=by rw[e];exact h
theorem aU.intro {R:List Addr->α->β->Prop} {t:Sem α} {c:PM β}
  (h:∀ρ κ l σ s,Cfg X A fe env ρ κ l σ s->jq X A env hd ρ κ s->Pre ρ->∀r st,c ⟨l,σ⟩=some (r,st)->wpAny (M X) A t (mM X A fe env hd R ρ κ s r st) (o6 X A fe env hd ρ κ s r st) s):aU X A fe env hd Pre t c R:=h
structure Kp (env:Env) (s s':Shared):Prop where
 k:∀b o,b≠env.locals->s.heap.get? b=some o->s'.heap.get? b=some o
 n:∀m,s.heap.Ns env.locals m->s'.heap.Ns env.locals m
 g:s'.gens=s.gens
 o:s'.os=s.os
theorem Kp.of (k:∀b o,s.heap.get? b=some o->s'.heap.get? b=some o) (g:s'.gens=s.gens) (o:s'.os=s.os):Kp env s s':=⟨λb o _ e=>k b o e,λ_ n=>n.keeps k,g,o⟩
theorem Kp.alive (K:Kp env s s') (hn:s.heap.Ns env.locals m) (b:Addr) (o:Obj) (e:s.heap.get? b=some o):∃o',s'.heap.get? b=some o':=by
 by_cases z:b=env.locals
 ·obtain⟨o',_,_,e',_⟩:=K.n m hn;exact⟨o',z▸e'⟩
 ·exact⟨o,K.k b o z e⟩
theorem Cfg.keep (C:Cfg X A fe env ρ κ l σ s) (K:Kp env s s'):Cfg X A fe env ρ κ l σ s':=by
 refine⟨C.rel.move (λb o e q=>K.k b o ?_ e) K.g K.o, ?_,C.lr,C.lk,C.l0,C.env,C.oq.fs,λf hf=> ?_⟩
 ·rintro rfl;rcases q with q|q|q|⟨o',q⟩
  ·exact C.lr q
  ·exact C.lk q
  ·obtain⟨o',e'⟩:=C.rel.iz _ q;rw[C.l0]at e';cases e'
  ·rw[C.l0]at q;cases q
 ·obtain⟨m,hn,hl⟩:=C.ns;exact⟨m,K.n m hn,hl⟩
 ·obtain⟨⟨o,e⟩,r⟩:=C.oq.ok f hf;obtain⟨m,hn,hl⟩:=C.ns;exact⟨K.alive hn f o e,r⟩
theorem jq.keep (H:jq X A env hd ρ κ s) (K:Kp env s s'):jq X A env hd ρ κ s':=
 ⟨H.none_,λq=>let ⟨e,o,vs,h1,h2,h3,h4,h5,h6,h7,h8,h9⟩:=H.one q;⟨e,o,vs,h1,K.k _ _ h9 h2,h3,h4,h5,h6,h7,h8,h9⟩⟩
theorem Ext.keep (hn:s.heap.Ns env.locals m) (K:Kp env s s'):Ext X Fs env.locals ρ κ s ρ κ s':=
 ⟨Sub.refl _,λ_ h=>h,λ_ h=> .inl h,λ_ h=> .inl h,λb o e=>K.alive hn b o e,λb o e _ h _=>⟨⟨o.slots,K.k _ _ h e⟩,λ_=>K.k _ _ h e⟩⟩
theorem bJ.keep {ρ κ:List Addr} {l:Loc} {σ:Hp} {s s':Shared} (C:Cfg X A fe env ρ κ l σ s) (H:jq X A env hd ρ κ s) (K:Kp env s s'):bJ X A fe env hd ρ κ s ⟨l,σ⟩ ρ κ s':=
 let ⟨_,hn,_⟩:=C.ns;⟨Ext.keep hn K,C.keep K,H.keep K⟩
theorem bJ.toks {ρ κ:List Addr} {l:Loc} {σ:Hp} {s:Shared} {t:Nat} (C:Cfg X A fe env ρ κ l σ s) (H:jq X A env hd ρ κ s):bJ X A fe env hd ρ κ s ⟨l,σ⟩ ρ κ {s with toks:=t}:=
 bJ.keep C H (Kp.of (λ_ _ e=>e) rfl rfl)
end
abbrev VR:List Addr->Value->AV->Prop:=λρ v x=>bC ρ x v
abbrev Ov:List Addr->List Value->List AV->Prop:=λρ v x=>bp ρ x v
abbrev UR:List Addr->Unit->Unit->Prop:=λ_ _ _=>True
abbrev BR:List Addr->Bool->Bool->Prop:=λ_ a b=>a=b
abbrev bg:List Addr->Prop:=λ_=>True
section
open PySem.W.X
section
variable {X:Bx} {A:Around} {fe:cn} {env:Env} {hd:Nat} {ρ κ:List Addr} {l:Loc} {σ:Hp} {s s':Shared}
theorem Rel.tX (R:Rel X ρ κ σ s) (e:X.h₀.get? a=some o):∃o',s.heap.get? a=some o':=by
 by_cases h:a∈X.eX
 ·rcases aK.mp h with rfl|h
  ·obtain⟨ps,e,_⟩:=R.tabs.kc;exact⟨_,e⟩
  ·obtain⟨⟨c,P,q⟩,hm,rfl⟩:=aR.mp h;obtain⟨ps,e,_⟩:=R.tabs.lam c P q hm;exact⟨_,e⟩
 ·exact⟨_,R.keep a o e h⟩
theorem et(q:h.objs.size<=a):h.get? a=none:=by
 cases e:h.get? a with
 |none=>rfl
 |some o=>exact absurd (dY e) (Xd.mpr q)
theorem Cfg.fresh (C:Cfg X A fe env ρ κ l σ s) (h:s.heap.get? a=none):a∉ρ/\a∉κ/\X.h₀.get? a=none/\a∉b7 A/\a≠env.locals:=by
 refine⟨λq=> ?_,λq=> ?_, ?_,λq=> ?_,λq=> ?_⟩
 ·obtain⟨o,e⟩:=C.rel.al a q;rw[h]at e;cases e
 ·obtain⟨o,e⟩:=C.rel.JU a q;rw[h]at e;cases e
 ·cases e:X.h₀.get? a with
  |none=>rfl
  |some o=>obtain⟨o',e'⟩:=C.rel.tX e;rw[h]at e';cases e'
 ·obtain⟨⟨o,e⟩,_⟩:=C.oq.ok a q;rw[h]at e;cases e
 ·obtain⟨m,⟨o,es,ep,e,_⟩,_⟩:=C.ns;rw[<-q,h]at e;cases e
theorem Cfg.zT (C:Cfg X A fe env ρ κ l σ s) (h:X.h₀.get? a=none):a∉X.eX:=λq=>by
 obtain⟨o,e⟩:=C.rel.iz a q;rw[h]at e;cases e
theorem bJ.join {κ':List Addr} {a:Addr} {o:bP} (C:Cfg X A fe env ρ κ l σ s) (H:jq X A env hd ρ κ s) (ha:s.heap.get? a=none) (tW:∃o,s'.heap.get? a=some o)
  (K:Kp env s s') (hn:∀b∈κ',s.heap.get? b=none/\(∃o,s'.heap.get? b=some o)/\b≠a)
  (h:qU X (ρ++[a]) (κ++κ') s'.heap a o):bJ X A fe env hd ρ κ s ⟨l,σ++[o]⟩ (ρ++[a]) (κ++κ') s':=by
 have f:=C.fresh ha;have C':=C.keep K;obtain⟨m,hns,hl⟩:=C.ns;have R':=C'.rel.aux (κ':=κ') (λb hb=>(C.fresh (hn b hb).1).1) (λb hb=>(C.fresh (hn b hb).1).2.2.1) (λb hb=>(hn b hb).2.1);have ak:a∉κ++κ':=λq=>(au.mp q).elim f.2.1 λz=>(hn a z).2.2 rfl;refine⟨⟨Sub.append _ _,λb hb=>aI _ hb,λb hb=> ?_,λb hb=> ?_,λb o e=>K.alive hns b o e,λb o e _ h _=>⟨⟨o.slots,K.k _ _ h e⟩,λ_=>K.k _ _ h e⟩⟩,⟨R'.join f.1 ak f.2.2.1 tW h, ?_, ?_, ?_,C.l0,C.env.mono (Sub.append _ _),C.oq.fs,λg hg=> ?_⟩,⟨H.none_,λq=> ?_⟩⟩
 ·rcases au.mp hb with q|q
  ·exact .inl q
  ·rw[aA]at q;subst q;exact .inr ha
 ·rcases au.mp hb with q|q
  ·exact .inl q
  ·exact .inr (hn b q).1
 ·exact⟨m,K.n m hns,hl.mono (Sub.append _ _)⟩
 ·intro q;rcases au.mp q with q|q
  ·exact C.lr q
  ·rw[aA]at q;exact f.2.2.2.2 q.symm
 ·intro q;rcases au.mp q with q|q
  ·exact C.lk q
  ·exact(C.fresh (hn _ q).1).2.2.2.2 rfl
 ·obtain⟨⟨o,e⟩,h1,h2,h3⟩:=C.oq.ok g hg;refine⟨K.alive hns g o e,λq=> ?_,λq=> ?_,h3⟩
  ·rcases au.mp q with q|q
   ·exact h1 q
   ·rw[aA]at q;subst q;exact f.2.2.2.1 hg
  ·rcases au.mp q with q|q
   ·exact h2 q
   ·exact(C.fresh (hn g q).1).2.2.2.1 hg
 ·obtain⟨e,ob,vs,h1,h2,h3,h4,h5,h6,h7,h8,h9⟩:=H.one q;refine⟨e,ob,vs,h1,K.k _ _ h9 h2,h3,h4,λq=> ?_,λq=> ?_,h7,h8,h9⟩
  ·rcases au.mp q with q|q
   ·exact h5 q
   ·rw[aA]at q;subst q;rw[ha]at h2;cases h2
  ·rcases au.mp q with q|q
   ·exact h6 q
   ·rw[(hn _ q).1]at h2;cases h2
theorem bJ.vM {o:bP} (C:Cfg X A fe env ρ κ l σ s) (H:jq X A env hd ρ κ s) (ha:s.heap.get? a=none) (tW:∃o,s'.heap.get? a=some o) (K:Kp env s s')
  (h:qU X (ρ++[a]) κ s'.heap a o):bJ X A fe env hd ρ κ s ⟨l,σ++[o]⟩ (ρ++[a]) κ s':=by
 have:=bJ.join (κ':=[]) C H ha tW K (λ_ h=>nomatch h) (by rw[aX];exact h)
 rwa [aX]at this
theorem Cfg.newest (C:Cfg X A fe env ρ κ l σ s):(ρ++[a])[σ.length]? =some a:=by
 rw[<-C.rel.len,aY (aJ _)];simp
theorem bJ.push {ob:Obj} {o:bP} {t:Nat} (C:Cfg X A fe env ρ κ l σ s) (H:jq X A env hd ρ κ s) (hf:ob.isFreed=false)
  (h:(s.heap.push ob).get? s.heap.objs.size=some ob->qU X (ρ++[s.heap.objs.size]) κ (s.heap.push ob) s.heap.objs.size o):
  bJ X A fe env hd ρ κ s ⟨l,σ++[o]⟩ (ρ++[s.heap.objs.size]) κ {s with heap:=s.heap.push ob,toks:=t}:=
 bJ.vM C H (et (aJ _)) ⟨_,aZ _ hf⟩ (Kp.of (λ_ _ e=>aB _ e) rfl rfl) (h (aZ _ hf))
theorem bJ.put {n:Nat} {a:Addr} {o:bP} (C:Cfg X A fe env ρ κ l σ s) (H:jq X A env hd ρ κ s) (ha:ρ[n]? =some a) (hs:∃o,s'.heap.get? a=some o)
  (hk:∀b ob,b≠a->s.heap.get? b=some ob->s'.heap.get? b=some ob) (hg:s'.gens=s.gens) (ho:s'.os=s.os)
  (h:qU X ρ κ s'.heap a o):bJ X A fe env hd ρ κ s ⟨l,σ.set n o⟩ ρ κ s':=by
 have hm:=bB ha;refine⟨⟨Sub.refl _,λ_ h=>h,λ_ h=> .inl h,λ_ h=> .inl h,λb o e=>(if z:b=a then z▸hs else⟨o,hk b o z e⟩),λb ob e h1 _ _=> ?_⟩,⟨C.rel.put ha hs hk hg ho h, ?_,C.lr,C.lk,C.l0,C.env,C.oq.fs,λf hf=> ?_⟩,⟨H.none_,λq=> ?_⟩⟩
 ·have z:=hk b ob (λq=>h1 (q▸hm)) e;exact⟨⟨ob.slots,z⟩,λ_=>z⟩
 ·obtain⟨m,⟨o',es,ep,e,r⟩,hl⟩:=C.ns;exact⟨m,⟨o',es,ep,hk _ _ (λq=>C.lr (q▸hm)) e,r⟩,hl⟩
 ·obtain⟨⟨o',e⟩,h1,h2⟩:=C.oq.ok f hf;exact⟨⟨o',hk _ _ (λq=>h1 (q▸hm)) e⟩,h1,h2⟩
 ·obtain⟨e,ob,vs,h1,h2,h3,h4,h5,r⟩:=H.one q;exact⟨e,ob,vs,h1,hk _ _ (λz=>h5 (z▸hm)) h2,h3,h4,h5,r⟩
theorem oh(x y:Str) (v:AV):∀l:Loc,(hV x v l).lookup y=if y=x then some v else l.lookup y
 |[]=>by
  show List.lookup y [(x,v)]=_;rw[az];by_cases h:y=x
  ·subst h;simp
  ·rw[aP.mpr h,aC h]
 | (z,w)::r=>by
  unfold hV;by_cases hz:z=x
  ·rw[aD hz];subst hz;rw[az,az];by_cases h:y=z
   ·subst h;simp
   ·rw[aP.mpr h,aC h]
  ·rw[aC hz,az,az,oh x y v r];by_cases h:y=z
   ·subst h;simp [hz]
   ·rw[aP.mpr h]
theorem bJ.Mq {m':Str->Option Value} {t:Nat} {x:Str} {v:AV} {rv:Value} (C:Cfg X A fe env ρ κ l σ s) (H:jq X A env hd ρ κ s) (hm:Er ρ l m) (hn:h'.Ns env.locals m')
  (Oh:m'=λy=>if y=x then some rv else m y) (hs:Heap.SameBut env.locals s.heap h') (hv:bC ρ v rv):bJ X A fe env hd ρ κ s ⟨hV x v l,σ⟩ ρ κ {s with heap:=h',toks:=t}:=by
 have keep:∀b o,b≠env.locals->s.heap.get? b=some o->h'.get? b=some o:=λb o q e=>(hs.2 b q).trans e;have l0:env.locals∉X.eX:=C.zT C.l0;refine⟨⟨Sub.refl _,λ_ h=>h,λ_ h=> .inl h,λ_ h=> .inl h,λb o e=>(if z:b=env.locals then(let ⟨o',_,_,e',_⟩:=hn;⟨o',z▸e'⟩)else⟨o,keep b o z e⟩),λb ob e _ h2 _=>⟨⟨ob.slots,keep _ _ h2 e⟩,λ_=>keep _ _ h2 e⟩⟩,⟨C.rel.move (λb o e q=>keep b o ?_ e) rfl rfl,⟨m',hn, ?_⟩,C.lr,C.lk,C.l0,C.env,C.oq.fs,λf hf=> ?_⟩,⟨H.none_,λq=> ?_⟩⟩
 ·rintro rfl;rcases q with q|q|q|⟨o',q⟩
  ·exact C.lr q
  ·exact C.lk q
  ·exact l0 q
  ·rw[C.l0]at q;cases q
 ·intro y w e;rw[oh]at e;rw[Oh];show ∃zu,(if y=x then some rv else m y)=some zu/\_;by_cases q:y=x
  ·rw[aD q]at e ⊢;cases e;exact⟨rv,rfl,hv⟩
  ·rw[aC q]at e ⊢;exact hm y w e
 ·obtain⟨⟨o',e⟩,h1⟩:=C.oq.ok f hf;refine⟨?_,h1⟩;by_cases q:f=env.locals
  ·obtain⟨o,es,ep,e,_⟩:=hn;exact⟨o,q▸e⟩
  ·exact⟨o',keep _ _ q e⟩
 ·obtain⟨e,ob,vs,h1,h2,h3,h4,h5,h6,h7,h8,h9⟩:=H.one q;exact⟨e,ob,vs,h1,keep _ _ h9 h2,h3,h4,h5,h6,h7,h8,h9⟩
end
structure Nu (K:Frag) (c:Addr) (i:Nat) (x:Str) (p:Addr):Prop where
 find:findIn K (.ref c) x=some (some (.ref p))
 at_:slotIn K p c=some i
 get:specialIn K (.ref p) "__get__"=some (some (.builtin "member_descriptor.__get__"))
 takes:takesIn K (.ref p)=some true
 ty:typeIn K (.ref p)=some (.type "member_descriptor")
structure Lc (K:Frag) (c:Addr) (ci:k7):Prop where
 ga:findIn K (.ref c) "__getattribute__"=some (some (.builtin "object.__getattribute__"))
 QK:findIn K (.ref c) "__getattr__"=some none
 sa:findIn K (.ref c) "__setattr__"=some (some (.builtin "object.__setattr__"))
 plain:plainOver K c=true
 cd:(clsIn K c).any (·.hasDict)=ci.hasDict
 BD:(clsIn K c).isSome=true
 attrs:∀x∈ci.attrs,findIn K (.ref c) x=some none
 slots:∀i x,ci.slotNames[i]? =some x->∃p,Nu K c i x p
 meths:∀x f,ci.meths.lookup x=some f->findIn K (.ref c) x=some (some (.ref f))/\typeIn K (.ref f)=some (.type "function")
 few:ci.slotNames.length<=100
 n0:ci.attrs≠[]->ci.hasDict=true
structure bZ (X:Bx):Prop where
 glob:∃mb,X.h₀.Ns mainGlobals X.mg/\X.h₀.Ns builtinsNs mb/\mainGlobals∉X.eX/\builtinsNs∉X.eX/\
  ∀x v,X.P.glob x=some v->∃rv,(∀ρ,bC ρ v rv)/\(X.mg x=some rv\/(X.mg x=none/\mb x=some rv))
 st:∃ms,X.h₀.Ns cStatics ms/\ms "thirdparty.any"=none/\ms "sys.recursionlimit"=none/\cStatics∉X.eX
 kC:CodeHd X.h₀ X.kC X.kP/\X.kC∉X.eX
 lam:∀c P q,(c,P,q)∈X.tabs->CodeHd X.h₀ c P/\c∉X.eX
 nm:∃v,X.mg "__name__"=some v
 bu:∀P∈X.eX,X.h₀.BuiltinsAt X.mg P
 Y1:∀bm,X.mg "__builtins__"=some (.ref bm)->bm∉X.eX
 miss:X.P.missing∉X.eX/\∃o,X.h₀.get? X.P.missing=some o/\o.cls≠ .type "tuple"
 script:∀b ns,X.P.script=some (b,ns)->b∉X.eX/\∃vs,X.h₀.IsList b vs.toArray/\IntsAre vs ns/\ns.length<=1000
 OW:∀c P q c' P' q',(c,P,q)∈X.tabs->(c',P',q')∈X.tabs->P=P'->q=q'
 LK:∀c P q,(c,P,q)∈X.tabs->P≠X.kP
 zv:X.K.In X.h₀
 Pu:∀P∈X.eX,X.K.lookup P=none
 cls:∀c ci,X.P.clss c=some ci->Lc X.K c ci
 LQ:∃o,X.h₀.get? sysModules=some o
 lA:lA X.kd
section
variable {X:Bx} {A:Around} {fe:cn} {env:Env} {hd:Nat}
theorem Rel.ns (R:Rel X ρ κ σ s) (h:X.h₀.Ns a m) (ha:a∉X.eX):s.heap.Ns a m:=
 let ⟨o,es,ep,e,r⟩:=h;⟨o,es,ep,R.keep a o e ha,r⟩
theorem obj_some{r:Res bP} (e:PM.obj n st=some (r,st')):∃o,st.hp[n]? =some o/\r= .ok o/\st'=st:=by
 unfold PM.obj at e;split at e
 ·rename_i o h;cases e;exact⟨o,h,rfl,rfl⟩
 ·cases e
theorem cY{o:Option α} {r:Res α} (e:PM.b8 o st=some (r,st')):∃a,o=some a/\r= .ok a/\st'=st:=by
 cases o with
 |none=>cases e
 |some a=>cases e;exact⟨a,rfl,rfl,rfl⟩
theorem mj(G:bZ X) (C:Cx) (hP:C.P=X.P) (x:Str):aU X A fe env hd bg (loadName env x) (kF C fe x) VR:=by
 intro ρ κ l σ s Cf H _ r st e;unfold kF at e;have hk:=Cf.env.kind;have hnm:=(Cf.env.names x).h;cases hx:fe.scope.names.lookup x with
 |none=>rw[hx]at e;cases e
 |some k=>
  rw[hx]at e hnm;have nE:(k= .free\/k= .cell)->wpAny (M X) A (loadName env x) (mM X A fe env hd VR ρ κ s r st) (o6 X A fe env hd ρ κ s r st) s:=by
   intro MP;have e':(if x="__classdict__" then PM.stuck else do
     let i<-PM.b8 (fe.cells.lookup x)
     match<-PM.obj i with
     | .cell (some v)=>PM.pure v
     |_=>PM.stuck:PM AV) ⟨l,σ⟩=some (r,st):=by
    rcases MP with rfl|rfl<;>exact e
   by_cases zC:x="__classdict__"
   ·rw[aD zC]at e';cases e'
   rw[aC zC]at e';rcases aH e' with⟨i,s1,e1,e2⟩|⟨k',e1,_⟩
   ·obtain⟨i',hi,h1,rfl⟩:=cY e1;cases h1;rcases aH e2 with⟨o,s2,e3,e4⟩|⟨k',e3,_⟩
    ·obtain⟨o',ho,h1,rfl⟩:=obj_some e3;cases h1;obtain⟨a,ha,hl⟩:=Cf.env.cells x i hi;have O:=Cf.rel.objs i o a ho ha;cases o with
     |cell v=>
      cases v with
      |none=>cases e4
      |some v=>
       cases e4;obtain⟨w,hc,hw⟩:=O;obtain⟨rv,rfl,hv⟩:=hw;have fin:mM X A fe env hd VR ρ κ s (.ok v) ⟨l,σ⟩ rv s:=⟨v,ρ,κ,rfl,hv,bJ.refl Cf H⟩;have UO:env.kindOf x=some .free\/env.kindOf x=some .cell:=by
        rcases hnm with h|⟨_,h⟩
        ·rw[<-h];rcases MP with rfl|rfl
         ·exact .inl rfl
         ·exact .inr rfl
        ·exact h
       rcases UO with h|h
       ·exact wpAny_loadName_free hk h hl hc fin (aP.mpr zC)
       ·exact wpAny_loadName_cell hk h hl hc fin
     |_=>cases e4
    ·obtain⟨o',_,h1,_⟩:=obj_some e3;cases h1
   ·obtain⟨i',_,h1,_⟩:=cY e1;cases h1
  cases k with
  |«local»=>
   have hl:env.kindOf x=some .local:=by
    rcases hnm with h|⟨h,_⟩
    ·exact h.symm
    ·rcases h with h|h<;>cases h
   change PM.ey x ⟨l,σ⟩=_ at e
   unfold PM.ey at e;split at e
   ·rename_i v hv;cases e;obtain⟨m,hn,hm⟩:=Cf.ns;obtain⟨rv,e1,e2⟩:=hm x v hv;exact wpAny_loadName_local hk hl hn e1 ⟨v,ρ,κ,rfl,e2,bJ.refl Cf H⟩
   ·cases e
  |cell=>exact nE (.inr rfl)
  |free=>exact nE (.inl rfl)
  |globalExplicit=>cases e
  |globalImplicit=>
   have hl:env.kindOf x=some .globalImplicit:=by
    rcases hnm with h|⟨h,_⟩
    ·exact h.symm
    ·rcases h with h|h<;>cases h
   obtain⟨v,hv,rfl,rfl⟩:=cY e;rw[hP]at hv;obtain⟨mb,h1,h2,h3,h4,h5⟩:=G.glob;obtain⟨rv,hr,Cg⟩:=h5 x v hv;refine W8 hk hl ?_;have fin:mM X A fe env hd VR ρ κ s (.ok v) ⟨l,σ⟩ rv s:=⟨v,ρ,κ,rfl,hr ρ,bJ.refl Cf H⟩;unfold loadGlobal;rw[Cf.env.glob,Cf.env.bu];refine aa (j0 (Cf.rel.ns h1 h3) ?_);rcases Cg with h|⟨h,h'⟩
   ·rw[h];exact ae fin
   ·rw[h];refine aa (j0 (Cf.rel.ns h2 h4) ?_);rw[h'];exact ae fin
end
end
section
variable {X:Bx} {A:Around} {fe:cn} {env:Env} {hd:Nat}
theorem nq{r:Res (List AV)} (e:listAt n st=some (r,st')):∃xs,st.hp[n]? =some (.list xs)/\r= .ok xs/\st'=st:=by
 unfold listAt at e;rcases aH e with⟨o,s1,e1,e2⟩|⟨k,e1,_⟩
 ·obtain⟨o',ho,h1,rfl⟩:=obj_some e1;cases h1;cases o with
  |list xs=>cases e2;exact⟨xs,ho,rfl,rfl⟩
  |_=>cases e2
 ·obtain⟨_,_,h1,_⟩:=obj_some e1;cases h1
theorem fD{o:bP} {r:Res Unit} (e:PM.cm n o st=some (r,st')):r= .ok ()/\st'=⟨st.loc,st.hp.set n o⟩:=by
 unfold PM.cm at e;split at e
 ·cases e;exact⟨rfl,rfl⟩
 ·cases e
theorem Nr{o:bP} {r:Res Nat} (e:PM.alloc o st=some (r,st')):r= .ok st.hp.length/\st'=⟨st.loc,st.hp++[o]⟩:=by
 cases e;exact⟨rfl,rfl⟩
theorem oe(x:Str) (av:AV) (v:Value):aU X A fe env hd (λρ=>bC ρ av v) (storeName env x v) (gO fe x av) UR:=by
 intro ρ κ l σ s Cf H hv r st e;unfold gO at e;have hk:=Cf.env.kind;have hnm:=(Cf.env.names x).h;have hp:(env.scope.kind== .class|| (env.scope.kind== .module&&env.locals !=env.globals))=false:=by rw[hk];rfl
 cases hx:fe.scope.names.lookup x with
 |none=>rw[hx]at e;cases e
 |some k=>
  rw[hx]at e hnm;have nE:(k= .free\/k= .cell)->wpAny (M X) A (storeName env x v) (mM X A fe env hd UR ρ κ s r st) (o6 X A fe env hd ρ κ s r st) s:=by
   intro MP;have e':(do
     let i<-PM.b8 (fe.cells.lookup x)
     match<-PM.obj i with
     | .cell _=>PM.cm i (.cell (some av))
     |_=>PM.stuck:PM Unit) ⟨l,σ⟩=some (r,st):=by
    rcases MP with rfl|rfl<;>exact e
   rcases aH e' with⟨i,s1,e1,e2⟩|⟨k',e1,_⟩
   ·obtain⟨i',hi,h1,rfl⟩:=cY e1;cases h1;rcases aH e2 with⟨o,s2,e3,e4⟩|⟨k',e3,_⟩
    ·obtain⟨o',ho,h1,rfl⟩:=obj_some e3;cases h1;obtain⟨a,ha,hl⟩:=Cf.env.cells x i hi;have O:=Cf.rel.objs i o a ho ha;cases o with
     |cell Zx=>
      obtain⟨rfl,rfl⟩:=fD e4;obtain⟨w,hc,hw⟩:=O;have fin:wpAny (M X) A (cellSet a (some v)) (mM X A fe env hd UR ρ κ s (.ok ()) ⟨l,σ.set i (.cell (some av))⟩) (o6 X A fe env hd ρ κ s (.ok ()) ⟨l,σ.set i (.cell (some av))⟩) s:=by
       refine wpAny_cellSet hc λh' Ju tR=> ?_;refine⟨(),ρ,κ,rfl,trivial,bJ.put (s':={s with heap:=h'}) Cf H ha (let ⟨o,e,_⟩:=Ju;⟨o,e⟩) (λb ob hb e=>(tR.2 b hb).trans e) rfl rfl ⟨some v,Ju,v,rfl,hv⟩⟩
      have UO:env.kindOf x=some .free\/env.kindOf x=some .cell:=by
       rcases hnm with h|⟨_,h⟩
       ·rw[<-h];rcases MP with rfl|rfl
        ·exact .inl rfl
        ·exact .inr rfl
       ·exact h
      unfold storeName;rcases UO with h|h
      ·simp only [h,hk];exact aa (wpAny_cellOf hl fin)
      ·simp only [h,hk];exact aa (wpAny_cellOf hl fin)
     |_=>cases e4
    ·obtain⟨o',_,h1,_⟩:=obj_some e3;cases h1
   ·obtain⟨i',_,h1,_⟩:=cY e1;cases h1
  cases k with
  |«local»=>
   have hl:env.kindOf x=some .local:=by
    rcases hnm with h|⟨h,_⟩
    ·exact h.symm
    ·rcases h with h|h<;>cases h
   cases e;obtain⟨m,hn,hm⟩:=Cf.ns;refine wpAny_storeName_local hl hn (λh' UE tR=> ?_) hp;exact⟨(),ρ,κ,rfl,trivial,bJ.Mq Cf H hm UE rfl tR hv⟩
  |cell=>exact nE (.inr rfl)
  |free=>exact nE (.inl rfl)
  |globalExplicit=>cases e
  |globalImplicit=>cases e
end
def kE:Heap:={objs:= #[]}
def mA (h:Heap) (L:Addr):List (Addr×Obj):=(List.range h.objs.size).filterMap λa=>if a=L then none else(h.get? a).map λo=>(a,o)
theorem i5(ha:a≠L) (e:h.get? a=some o):(a,o)∈mA h L:=
 d4.mpr ⟨a,dh.mpr (dY e),by rw[aC ha,e];rfl⟩
theorem sV{p:Addr×Obj} (m:p∈mA h L):h.get? p.1=some p.2/\p.1≠L:=by
 obtain⟨a,_,e⟩:=d4.mp m;by_cases z:a=L
 ·rw[aD z]at e;cases e
 ·rw[aC z]at e;cases q:h.get? a with
  |none=>rw[q]at e;cases e
  |some o=>rw[q]at e;cases e;exact⟨q,z⟩
theorem sX(a:Addr):kE.get? a=none:=et (bW _)
theorem ng(h:Heap) (L:Addr):News kE L h (mA h L):=λp m=>⟨(sV m).1,(sV m).2,sX _⟩
theorem tZ(n:h.Ns L m):Fr kE L h m:=⟨n,λb o e=>(by rw[sX]at e;cases e),bW _⟩
section
variable {X:Bx} {A:Around} {fe:cn} {env:Env} {hd:Nat}
theorem Kp.news {x:List (Addr×Obj)} (hn:s.heap.Ns env.locals m) (F:Fr kE env.locals s'.heap m) (N:News kE env.locals s'.heap (x++mA s.heap env.locals))
  (g:s'.gens=s.gens) (o:s'.os=s.os):Kp env s s':=by
 refine⟨λb o hb e=>(N (b,o) (aW _ (i5 hb e))).1,λm' Oh=> ?_,g,o⟩;have:m'=m:=by
  obtain⟨o1,es,ep,e1,d1,k1,f1⟩:=hn;obtain⟨o2,es',uW,e2,d2,k2,f2⟩:=Oh;rw[e1]at e2;cases e2;rw[d1]at d2;cases d2
  funext x
  rw[<-f1,<-f2]
 rw[this];exact F.ns
theorem bI{f:bP->PM β} (e:(PM.obj n>>=f) st=some (r,st')):∃o,st.hp[n]? =some o/\f o st=some (r,st'):=by
 rcases aH e with⟨o,s1,e1,e2⟩|⟨k,e1,_⟩
 ·obtain⟨o',ho,h1,rfl⟩:=obj_some e1;cases h1;exact⟨o,ho,e2⟩
 ·obtain⟨_,_,h1,_⟩:=obj_some e1;cases h1
theorem jF{o:Option α} {f:α->PM β} (e:(PM.b8 o>>=f) st=some (r,st')):∃a,o=some a/\f a st=some (r,st'):=by
 rcases aH e with⟨a,s1,e1,e2⟩|⟨k,e1,_⟩
 ·obtain⟨o',ho,h1,rfl⟩:=cY e1;cases h1;exact⟨a,ho,e2⟩
 ·obtain⟨_,_,h1,_⟩:=cY e1;cases h1
theorem hZ{f:List AV->PM β} (e:(listAt n>>=f) st=some (r,st')):∃xs,st.hp[n]? =some (.list xs)/\f xs st=some (r,st'):=by
 rcases aH e with⟨o,s1,e1,e2⟩|⟨k,e1,_⟩
 ·obtain⟨o',ho,h1,rfl⟩:=nq e1;cases h1;exact⟨o,ho,e2⟩
 ·obtain⟨_,_,h1,_⟩:=nq e1;cases h1
theorem kI{f:Hp->PM β} (e:(PM.hp>>=f) st=some (r,st')):f st.hp st=some (r,st'):=e
theorem Q3{a:α} {f:α->PM β} (e:((PM.pure a:PM α)>>=f) st=some (r,st')):f a st=some (r,st'):=e
theorem bY{o:bP} {f:Nat->PM β} (e:(PM.alloc o>>=f) st=some (r,st')):f st.hp.length ⟨st.loc,st.hp++[o]⟩=some (r,st'):=e
theorem gw{o:bP} {f:Unit->PM β} (e:(PM.cm n o>>=f) st=some (r,st')):f () ⟨st.loc,st.hp.set n o⟩=some (r,st'):=by
 rcases aH e with⟨a,s1,e1,e2⟩|⟨k,e1,_⟩
 ·obtain⟨_,rfl⟩:=fD e1;exact e2
 ·obtain⟨h,_⟩:=fD e1;cases h
theorem cW(e:h.get? a=some (gk vs n)):h.IsList a vs.toArray:=⟨_,e,rfl,n,rfl⟩
theorem Mv(e:h.get? a=some (zP vs n)):h.IsTuple a vs.toArray:=⟨_,e,rfl,n,rfl⟩
theorem b9:20000<=sizeLine:=by rw[iw];decide
theorem vf(R:Rel X ρ κ σ s):∀(d:Nat) {x:AV} {v:Value} {dx:PyData},toD σ d x=some dx->bC ρ x v->(∃as,Reads s.heap v dx as)/\dx.canLay0=true/\dx.depth<=d:=by
 intro d;induction d with
 |zero=>
  intro x v dx e hv;cases x with
  |none=>cases e;cases hv;exact⟨⟨_,.none⟩,rfl,aJ _⟩
  |bool b=>cases e;cases hv;exact⟨⟨_,.bool b⟩,rfl,aJ _⟩
  |int i=>cases e;obtain⟨t,rfl⟩:=hv;exact⟨⟨_,.int i t⟩,rfl,aJ _⟩
  |_=>cases e
 |succ d ih=>
  intro x v dx e hv;have all:∀(xs:List AV) (vs:List Value) (ds:List PyData),rR (toD σ d) xs=some ds->bp ρ xs vs->(∃as,ReadsAll s.heap vs ds as)/\PyData.canLayAll0 ds=true/\PyData.depthAll ds<=d:=by
   intro xs;induction xs with
   |nil=>
    intro vs ds e hv;cases vs with
    |nil=>cases e;exact⟨⟨_,.nil⟩,rfl,bW _⟩
    |cons _ _=>exact hv.elim
   |cons x xs Z9=>
    intro vs ds e hv;cases vs with
    |nil=>exact hv.elim
    |cons v vs=>
     unfold rR at e;split at e
     ·rename_i y ys e1 e2;cases e;obtain⟨⟨as,r⟩,c,dp⟩:=ih e1 hv.1;obtain⟨⟨bs,r'⟩,c',dp'⟩:=Z9 vs ys e2 hv.2;exact⟨⟨_,.cons r r'⟩,by simp [PyData.canLayAll0,c,c'],by simp only [PyData.depthAll];omega⟩
     ·cases e
  cases x with
  |none=>cases e;cases hv;exact⟨⟨_,.none⟩,rfl,bW _⟩
  |bool b=>cases e;cases hv;exact⟨⟨_,.bool b⟩,rfl,bW _⟩
  |int i=>cases e;obtain⟨t,rfl⟩:=hv;exact⟨⟨_,.int i t⟩,rfl,bW _⟩
  |ref n=>
   obtain⟨a,ha,rfl⟩:=hv;unfold toD at e;split at e
   ·rename_i xs ho;cases hm:rR (toD σ d) xs with
    |none=>rw[hm]at e;cases e
    |some ds=>
     rw[hm]at e;cases e;obtain⟨vs,k,eo,rv,_⟩:=R.objs n _ a ho ha;obtain⟨⟨as,r⟩,c,dp⟩:=all xs vs ds hm rv;exact⟨⟨_,reads_list_at eo rfl rfl (by rw[u9];exact r)⟩,by simp [PyData.canLay0,c],by simp only [PyData.depth];omega⟩
   ·rename_i xs ho;cases hm:rR (toD σ d) xs with
    |none=>rw[hm]at e;cases e
    |some ds=>
     rw[hm]at e;cases e;obtain⟨vs,k,eo,rv,_⟩:=R.objs n _ a ho ha;obtain⟨⟨as,r⟩,c,dp⟩:=all xs vs ds hm rv;exact⟨⟨_,reads_tuple_at eo rfl rfl (by rw[u9];exact r)⟩,by simp [PyData.canLay0,c],by simp only [PyData.depth];omega⟩
   ·cases e
  |_=>cases e
theorem l9{d:PyData} (c:d.canLay0=true) (h:d.depth<=8):SeqAt.shaped d=true:=by
 unfold SeqAt.shaped;rw[c,Bool.true_and,eC];omega
theorem oM(x:AV) (v:Value):aU X A fe env hd (λρ=>bC ρ x v) (truthy v) (ig x) BR:=by
 intro ρ κ l σ s C H hv r st e;unfold ig at e;cases x with
 |none=>cases e;cases hv;exact ae ⟨false,ρ,κ,rfl,rfl,bJ.refl C H⟩
 |bool b=>cases e;cases hv;exact kL ⟨b,ρ,κ,rfl,rfl,bJ.refl C H⟩
 |int i=>
  cases e;obtain⟨t,rfl⟩:=hv;exact truthy_int ⟨_,ρ,κ,rfl,rfl,bJ.refl C H⟩
 |ref n=>
  obtain⟨o,ho,e⟩:=bI e;obtain⟨a,ha,rfl⟩:=hv;cases o with
  |list xs=>
   cases e;obtain⟨vs,k,eo,rv,hb⟩:=C.rel.objs n _ a ho ha;refine Zc (cW eo) ?_ ⟨_,ρ,κ,rfl, ?_,bJ.toks C H⟩
   ·rw[aO,<-rv.length];omega
   ·cases xs with
    |nil=>cases vs with
     |nil=>rfl
     |cons _ _=>exact rv.elim
    |cons _ _=>cases vs with
     |nil=>exact rv.elim
     |cons _ _=>rfl
  |_=>cases e
 |_=>cases e
abbrev Ib:List Addr->Value->Bool->Prop:=λ_ v b=>v= .bool b
theorem IB(x:AV) (v:Value):aU X A fe env hd (λρ=>bC ρ x v) (unaryOp .Not v) (do let b<-ig x;PM.pure (!b)) Ib:=by
 intro ρ κ l σ s C H hv r st e;refine not_of ?_;rcases aH e with⟨b,s',e1,e2⟩|⟨k,e1,rfl⟩
 ·refine ao (oM x v ρ κ l σ s C H hv _ _ e1) ?_ ?_
  ·rintro c s₁ ⟨b',bX,κ',h1,h2,h3⟩;cases h1;cases e2;exact⟨_,bX,κ',rfl,dg (λx=>Value.bool (!x)) h2,h3⟩
  ·rintro c s₁ ⟨k,_,_,h1,_⟩;cases h1
 ·refine ao (oM x v ρ κ l σ s C H hv _ _ e1) ?_ ?_
  ·rintro c s₁ ⟨b',bX,κ',h1,h2,h3⟩;cases h1
  ·rintro c s₁ h;exact h
theorem IC(x:AV) (v:Value):aU X A fe env hd (λρ=>bC ρ x v) (unaryOp .USub v) (match x with| .int i=>PM.pure (.int (-i))|_=>PM.stuck) VR:=by
 intro ρ κ l σ s C H hv r st e;cases x with
 |int i=>
  cases e;obtain⟨t,rfl⟩:=hv;exact neg_int ⟨_,ρ,κ,rfl,⟨_,rfl⟩,bJ.toks C H⟩
 |_=>cases e
end
section
open PySem.W.X
local macro_rules | `(tactic|x_close)=> `(tactic| (refine⟨by first|assumption|exact qo _, ?_,rfl,rfl⟩;simp_all [eQ]))
set_option maxHeartbeats 0 in
theorem yy{d:Drawn} {t:Nat} (l m:Addr) (a b c e:Int) (t1 t2 t3 t4:Tok) (n k:Nat)
 (hl:h.get? l=some ⟨.type "list",none,.seq #[.int a t1,.int b t2] n,#[]⟩) (hm:h.get? m=some ⟨.type "list",none,.seq #[.int c t3,.int e t4] k,#[]⟩):
  wpAny (model prog w) A (call (.builtin "list.__lt__") [.ref l,.ref m]) (λv s'=>Mem h s'.heap [] []/\v= .bool (eQ (a,b) (c,e))/\s'.gens=g/\s'.os=os) (λ_ _=>False) ⟨h,g,d,t,os⟩:=by
 x_run
local macro_rules | `(tactic|x_close)=> `(tactic| (refine⟨by first|assumption|exact qo _, ?_,rfl,rfl⟩;simp_all [eQ]<;>grind))
set_option maxHeartbeats 0 in
theorem F2{d:Drawn} {t:Nat} (l m:Addr) (a b c e:Int) (t1 t2 t3 t4:Tok) (n k:Nat)
 (hl:h.get? l=some ⟨.type "list",none,.seq #[.int a t1,.int b t2] n,#[]⟩) (hm:h.get? m=some ⟨.type "list",none,.seq #[.int c t3,.int e t4] k,#[]⟩):
  wpAny (model prog w) A (call (.builtin "list.__gt__") [.ref l,.ref m]) (λv s'=>Mem h s'.heap [] []/\v= .bool (eQ (c,e) (a,b))/\s'.gens=g/\s'.os=os) (λ_ _=>False) ⟨h,g,d,t,os⟩:=by
 x_run
theorem tB{news:List (Addr×Obj)} (D:Mem h h' [] news) (b:Addr) (o:Obj) (e:h.get? b=some o):h'.get? b=some o:=D.keep b o e (by show(hasCls o||true)=true;simp)
section
variable {X:Bx} {A:Around} {fe:cn} {env:Env} {hd:Nat}
theorem Cfg.s8 (G:bZ X) (C:Cfg X A fe env ρ κ l σ s) (h:ρ[n]? =some a):(a==sysModules)=false:=by
 rw[aP];rintro rfl;obtain⟨o,e⟩:=G.LQ;rw[C.rel.own _ (bB h)]at e;cases e
theorem lL(R:Rel X ρ κ σ s) {p:Int×Int} (ha:ρ[n]? =some a) (e:pairAt σ (.ref n)=some p):
  ∃t1 t2 k,s.heap.get? a=some ⟨.type "list",none,.seq #[.int p.1 t1,.int p.2 t2] k,#[]⟩:=by
 change (match σ[n]? with
  |some (.list [.int x,.int y])=>some (x,y)
  |_=>none)=some p at e
 split at e
 ·rename_i x y ho;cases e;obtain⟨vs,k,eo,rv,_⟩:=R.objs n _ a ho ha
  match vs,rv with
  |[v,w],⟨⟨t1,h1⟩,⟨t2,h2⟩,_⟩=>
   subst h1 h2;exact⟨t1,t2,k,eo⟩
 ·cases e
theorem fQ.lookup {ρ:List Addr} {k:Int}:∀{es:List (Int×AV)} {gZ:List (Int×Value)},fQ ρ es gZ->jo ρ (es.lookup k) (valueAt gZ k)
 |[],[],_=>rfl
 | (a,x)::es,(b,v)::gZ,⟨⟨h1,h2⟩,r⟩=>by
  simp only at h1 h2
  subst h1;rw[az];unfold valueAt;rw[Ew];by_cases z:k=a
  ·subst z;simp only [cj,Rt];exact⟨v,rfl,h2⟩
  ·rw[aP.mpr z];have:decide (a=k)=false:=mC λq=>z q.symm;simp only [this];exact fQ.lookup r
theorem jo.isSome {ρ:List Addr} {x:Option AV} {v:Option Value} (h:jo ρ x v):v.isSome=x.isSome:=by
 cases x with
 |none=>cases h;rfl
 |some x=>obtain⟨v,rfl,_⟩:=h;rfl
theorem int_is(prog:Program) (w:World) (k:Int) (t:Tok):(intKind prog w).is k (.int k t)=true:=by simp [intKind,Value.isInt]
theorem bool_beq(p q:Bool):(Value.bool p==Value.bool q)=(p==q):=by cases p<;>cases q<;>rfl
theorem FG(G:bZ X) (neg:Bool) (x y:AV) (v w:Value):aU X A fe env hd (λρ=>bC ρ x v/\bC ρ y w) (compareOp (if neg then .NotIn else .In) v w)
  (do let h<-PM.hp;PM.b8 (if neg then(Gv h x y).map (!·)else Gv h x y)) Ib:=by
 intro ρ κ l σ s C H ⟨hv,hw⟩ r st e
 replace e:=kI e
 obtain⟨b,hb,rfl,rfl⟩:=cY e;have sq:∃b',Gv σ x y=some b'/\b=if neg then !b' else b':=by
  cases neg with
  |true=>
   cases q:Gv σ x y with
   |none=>rw[aD rfl,q]at hb;cases hb
   |some b'=>rw[aD rfl,q]at hb;cases hb;exact⟨b',rfl,rfl⟩
  |false=>exact⟨b,hb,rfl⟩
 obtain⟨b',hi,rfl⟩:=sq;unfold Gv at hi;split at hi
 ·rename_i k n;obtain⟨t,rfl⟩:=hv;obtain⟨a,ha,rfl⟩:=hw;split at hi
  ·rename_i xs ho;cases hn:intsOf xs with
   |none=>rw[hn]at hi;cases hi
   |some ns=>
    rw[hn]at hi;cases hi;obtain⟨vs,k,eo,rv,_⟩:=C.rel.objs n _ a ho ha;cases neg with
    |true=>exact notin_list_ints (cW eo) (rv.ints hn) ⟨_,ρ,κ,rfl,rfl,bJ.refl C H⟩
    |false=>exact in_list_ints (cW eo) (rv.ints hn) ⟨_,ρ,κ,rfl,rfl,bJ.refl C H⟩
  ·rename_i es ep ho;cases hi;obtain⟨gZ,jc,rk,_⟩:=C.rel.objs n _ a ho ha;have q:=(fQ.lookup (k:=k) rk).isSome;cases neg with
   |true=>exact wpAny_notIn_of (int_is X.prog X.w k t) (C.s8 G ha) jc.dictOf.mapOf (by rw[q];exact⟨_,ρ,κ,rfl,rfl,bJ.toks C H⟩)
   |false=>exact wpAny_in_of (int_is X.prog X.w k t) (C.s8 G ha) jc.dictOf.mapOf (by rw[q];exact⟨_,ρ,κ,rfl,rfl,bJ.toks C H⟩)
  ·rename_i xs ho;cases hi;obtain⟨hs,_⟩:=C.rel.objs n _ a ho ha;cases neg with
   |true=>exact wpAny_notInSet_of (int_is X.prog X.w k t) rfl hs ⟨_,ρ,κ,rfl,rfl,bJ.toks C H⟩
   |false=>exact wpAny_inSet_of (int_is X.prog X.w k t) rfl hs ⟨_,ρ,κ,rfl,rfl,bJ.toks C H⟩
  ·cases hi
 ·cases hi
theorem FE(G:bZ X) (neg:Bool) (x y:AV) (v w:Value):aU X A fe env hd (λρ=>bC ρ x v/\bC ρ y w) (compareOp (if neg then .IsNot else .Is) v w)
  (do let h<-PM.hp;PM.b8 (if neg then(isA X.P h x y).map (!·)else isA X.P h x y)) Ib:=by
 intro ρ κ l σ s C H ⟨hv,hw⟩ r st e
 replace e:=kI e
 obtain⟨b,hb,rfl,rfl⟩:=cY e;have sq:∃b',isA X.P σ x y=some b'/\b=if neg then !b' else b':=by
  cases neg with
  |true=>
   cases q:isA X.P σ x y with
   |none=>rw[aD rfl,q]at hb;cases hb
   |some b'=>rw[aD rfl,q]at hb;cases hb;exact⟨b',rfl,rfl⟩
  |false=>exact⟨b,hb,rfl⟩
 obtain⟨b',hi,rfl⟩:=sq;have plain:plainIs v w=true->(v==w)=b'->wpAny (M X) A (compareOp (if neg then .IsNot else .Is) v w) (mM X A fe env hd Ib ρ κ s (.ok (if neg then !b' else b')) ⟨l,σ⟩) (o6 X A fe env hd ρ κ s (.ok (if neg then !b' else b')) ⟨l,σ⟩) s:=by
  intro p q;cases neg with
  |true=>exact wpAny_isNot_plain p (by rw[q];exact⟨_,ρ,κ,rfl,rfl,bJ.refl C H⟩)
  |false=>exact wpAny_is_plain p (by rw[q];exact⟨_,ρ,κ,rfl,rfl,bJ.refl C H⟩)
 unfold isA at hi;split at hi
 ·cases hi;cases hv;cases hw;exact plain rfl rfl
 ·cases hi;cases hv;cases hw;exact plain rfl rfl
 ·cases hi;cases hv;obtain⟨t,rfl⟩:=hw;exact plain rfl rfl
 ·cases hi;cases hv;obtain⟨a,_,rfl⟩:=hw;exact plain rfl rfl
 ·cases hi;cases hv;cases hw;exact plain rfl rfl
 ·rename_i p q;cases hi;cases hv;cases hw;exact plain rfl (bool_beq p q)
 ·cases hi;cases hv;cases hw;exact plain rfl rfl
 ·cases hi;cases hw;obtain⟨t,rfl⟩:=hv;exact plain rfl rfl
 ·cases hi;cases hw;obtain⟨a,_,rfl⟩:=hv;exact plain rfl rfl
 ·cases hi;cases hv;cases hw;exact plain rfl rfl
 ·rename_i p q;cases hv;cases hw
  split at hi
  ·rename_i pq;subst pq;cases hi;cases neg with
   |true=>exact wpAny_isNot_ref_self ⟨_,ρ,κ,rfl,rfl,bJ.refl C H⟩
   |false=>exact wpAny_is_ref_self ⟨_,ρ,κ,rfl,rfl,bJ.refl C H⟩
  ·cases hi
 ·rename_i n q;obtain⟨a,ha,rfl⟩:=hv;cases hw;split at hi
  ·rename_i pq;subst pq;split at hi
   ·rename_i xs ho;cases hi;obtain⟨vs,k,eo,rv,_⟩:=C.rel.objs n _ a ho ha;obtain⟨h1,o,h2,_⟩:=G.miss;have h3:=C.rel.keep _ o h2 h1;have ne:a≠X.P.missing:=λz=>by have q:=C.rel.own a (bB ha);rw[z,h2]at q;cases q
    have nt:(gk vs k).cls≠ .type "tuple":=λz=>absurd (c6 z) (by decide);cases neg with
    |true=>exact wpAny_isNot_ref_other ne eo h3 nt ⟨_,ρ,κ,rfl,rfl,bJ.refl C H⟩
    |false=>exact wpAny_is_ref_other ne eo h3 nt ⟨_,ρ,κ,rfl,rfl,bJ.refl C H⟩
   ·cases hi
  ·cases hi
 ·cases hi
theorem FH(hu:A.units+500<cLine) (neg:Bool) (x y:AV) (v w:Value):aU X A fe env hd (λρ=>bC ρ x v/\bC ρ y w) (compareOp (if neg then .NotEq else .Eq) v w)
  (do let h<-PM.hp;PM.b8 (if neg then(yZ h x y).map (!·)else yZ h x y)) Ib:=by
 intro ρ κ l σ s C H ⟨hv,hw⟩ r st e
 replace e:=kI e
 obtain⟨b,hb,rfl,rfl⟩:=cY e;have sq:∃b',yZ σ x y=some b'/\b=if neg then !b' else b':=by
  cases neg with
  |true=>
   cases q:yZ σ x y with
   |none=>rw[aD rfl,q]at hb;cases hb
   |some b'=>rw[aD rfl,q]at hb;cases hb;exact⟨b',rfl,rfl⟩
  |false=>exact⟨b,hb,rfl⟩
 obtain⟨b',hi,rfl⟩:=sq;unfold yZ at hi;split at hi
 ·rename_i dx dy e1 e2;cases hi;obtain⟨⟨as,r1⟩,c1,d1⟩:=vf C.rel 8 e1 hv;obtain⟨⟨bs,r2⟩,c2,d2⟩:=vf C.rel 8 e2 hw;have RV:A.units+64<cLine:=by omega
  cases neg with
  |true=>exact ne_dataH r1 r2 (l9 c1 d1) (l9 c2 d2) RV ⟨_,ρ,κ,rfl,rfl,bJ.refl C H⟩
  |false=>exact eq_dataH r1 r2 (l9 c1 d1) (l9 c2 d2) RV ⟨_,ρ,κ,rfl,rfl,bJ.refl C H⟩
 ·cases hi
theorem LY(hu:A.units+500<cLine) (x y:AV) (v w:Value):aU X A fe env hd (λρ=>bC ρ x v/\bC ρ y w) (compareOp .Lt v w) (do let h<-PM.hp;PM.b8 (vH h x y)) Ib:=by
 intro ρ κ l σ s C H ⟨hv,hw⟩ r st e
 replace e:=kI e
 obtain⟨b,hi,rfl,rfl⟩:=cY e;unfold vH at hi;split at hi
 ·cases hi;obtain⟨t,rfl⟩:=hv;obtain⟨u,rfl⟩:=hw;exact lt_int ⟨_,ρ,κ,rfl,rfl,bJ.refl C H⟩
 ·rename_i m n;obtain⟨a,ha,rfl⟩:=hv;obtain⟨a',tW,rfl⟩:=hw;split at hi
  ·rename_i p q e1 e2;cases hi;obtain⟨t1,t2,k,eo⟩:=lL C.rel ha e1;obtain⟨t3,t4,k',y0⟩:=lL C.rel tW e2;show wpAny _ _ (richCompare .Lt _ _) _ _ _;refine EV ⟨_,eo,rfl⟩ ⟨_,y0,rfl⟩ F.slot_list_lt ?_ (by omega);obtain⟨h,g,dr,t,os⟩:=s;refine ao (yy a a' _ _ _ _ t1 t2 t3 t4 k k' eo y0) ?_ λ_ _ z=>z.elim;rintro v s' ⟨D,rfl,hg,ho⟩;exact⟨(λz=>nomatch z),_,ρ,κ,rfl,rfl,bJ.keep C H (Kp.of (tB D) hg ho)⟩
  ·cases hi
 ·cases hi
theorem LZ(hu:A.units+500<cLine) (x y:AV) (v w:Value):aU X A fe env hd (λρ=>bC ρ x v/\bC ρ y w) (compareOp .Gt v w) (do let h<-PM.hp;PM.b8 (vH h y x)) Ib:=by
 intro ρ κ l σ s C H ⟨hv,hw⟩ r st e
 replace e:=kI e
 obtain⟨b,hi,rfl,rfl⟩:=cY e;unfold vH at hi;split at hi
 ·cases hi;obtain⟨t,rfl⟩:=hv;obtain⟨u,rfl⟩:=hw;exact gt_int ⟨_,ρ,κ,rfl,rfl,bJ.refl C H⟩
 ·rename_i m n;obtain⟨a,ha,rfl⟩:=hv;obtain⟨a',tW,rfl⟩:=hw;split at hi
  ·rename_i p q e1 e2;cases hi;obtain⟨t1,t2,k,eo⟩:=lL C.rel tW e1;obtain⟨t3,t4,k',y0⟩:=lL C.rel ha e2;show wpAny _ _ (richCompare .Gt _ _) _ _ _;refine EV ⟨_,y0,rfl⟩ ⟨_,eo,rfl⟩ F.slot_list_gt ?_ (by omega);obtain⟨h,g,dr,t,os⟩:=s;refine ao (F2 a a' _ _ _ _ t3 t4 t1 t2 k' k y0 eo) ?_ λ_ _ z=>z.elim;rintro v s' ⟨D,rfl,hg,ho⟩;exact⟨(λz=>nomatch z),_,ρ,κ,rfl,rfl,bJ.keep C H (Kp.of (tB D) hg ho)⟩
  ·cases hi
 ·cases hi
theorem x8(G:bZ X) (hu:A.units+500<cLine) (op:CmpOp) (x y:AV) (v w:Value):aU X A fe env hd (λρ=>bC ρ x v/\bC ρ y w) (compareOp op v w) (lS X.P op x y) Ib:=by
 cases op with
 |Eq=>exact FH hu false x y v w
 |NotEq=>exact FH hu true x y v w
 |Lt=>exact LY hu x y v w
 |Gt=>exact LZ hu x y v w
 |Is=>exact FE G false x y v w
 |IsNot=>exact FE G true x y v w
 |In=>exact FG G false x y v w
 |NotIn=>exact FG G true x y v w
 |LtE=>
  intro ρ κ l σ s C H ⟨hv,hw⟩ r st e
  replace e:=kI e
  cases x<;>cases y<;>first| (cases e;done)|skip
  cases e;obtain⟨t,rfl⟩:=hv;obtain⟨u,rfl⟩:=hw;exact le_int ⟨_,ρ,κ,rfl,rfl,bJ.refl C H⟩
 |GtE=>
  intro ρ κ l σ s C H ⟨hv,hw⟩ r st e
  replace e:=kI e
  cases x<;>cases y<;>first| (cases e;done)|skip
  cases e;obtain⟨t,rfl⟩:=hv;obtain⟨u,rfl⟩:=hw;exact ge_int ⟨_,ρ,κ,rfl,rfl,bJ.refl C H⟩
end
end
section
open PySem.W.X
theorem Pm{x y:Int} (hx:x.natAbs<1000) (hy:y.natAbs<1000):IntMulOk x y:=by
 refine IntMulOk.of_left ?_;unfold Builtin.Int.intBits;split
 ·omega
 ·rename_i h;have:x.natAbs.log2<10:=(Nat.log2_lt (by simpa using h)).mpr (by omega);omega
section
variable {X:Bx} {A:Around} {fe:cn} {env:Env} {hd:Nat}
theorem foldl_rep(vs:List Value):∀(k:Nat) (acc:Array Value),List.foldl (λx1 x2=>x1++x2) acc (List.replicate k vs.toArray)=acc++(List.replicate k vs).flatten.toArray
 |0,acc=>by simp
 |k+1,acc=>by
  rw[jB,iP,foldl_rep vs k,jB,bl];simp
theorem bp.rep {ρ:List Addr} {xs:List AV} {vs:List Value} (h:bp ρ xs vs):∀k:Nat,bp ρ (List.replicate k xs).flatten (List.replicate k vs).flatten
 |0=>trivial
 |k+1=>by
  rw[jB,jB,bl,bl];exact h.append (h.rep k)
theorem yW{α:Type} (xs:List α):∀k:Nat,(List.replicate k xs).flatten.length=k*xs.length
 |0=>by simp
 |k+1=>by rw[jB,bl,af,yW xs k,Nat.succ_mul];omega
theorem z7(op:Operator) (x y:AV) (v w:Value):aU X A fe env hd (λρ=>bC ρ x v/\bC ρ y w) (binaryOp op v w) (JR op x y) VR:=by
 intro ρ κ l σ s C H ⟨hv,hw⟩ r st e;unfold JR at e;obtain⟨m,hn,hm⟩:=id C.ns;split at e
 ·cases e;obtain⟨t,rfl⟩:=hv;obtain⟨u,rfl⟩:=hw;exact add_int ⟨_,ρ,κ,rfl,⟨_,rfl⟩,bJ.toks C H⟩
 ·cases e;obtain⟨t,rfl⟩:=hv;obtain⟨u,rfl⟩:=hw;exact sub_int ⟨_,ρ,κ,rfl,⟨_,rfl⟩,bJ.toks C H⟩
 ·cases e;cases hv;cases hw
  exact sub_bool ⟨_,ρ,κ,rfl,⟨_,rfl⟩,bJ.toks C H⟩
 ·split at e
  ·rename_i h;cases e;obtain⟨t,rfl⟩:=hv;obtain⟨u,rfl⟩:=hw;exact mul_int ⟨_,ρ,κ,rfl,⟨_,rfl⟩,bJ.toks C H⟩ (Pm h.1 h.2)
  ·cases e
 ·split at e
  ·rename_i h;cases e;obtain⟨t,rfl⟩:=hv;obtain⟨u,rfl⟩:=hw;obtain⟨rfl,hx⟩:=h;exact floordiv_int (by decide) ⟨_,ρ,κ,rfl,⟨_,rfl⟩,bJ.toks C H⟩ (.inl (by unfold Builtin.divisionGoesByPylong;rw[OD];exact .inl (by decide)))
  ·cases e
 ·split at e
  ·rename_i h;cases e;obtain⟨t,rfl⟩:=hv;obtain⟨u,rfl⟩:=hw;obtain⟨rfl,hx⟩:=h;exact mod_int' (by decide) ⟨_,ρ,κ,rfl,⟨_,rfl⟩,bJ.toks C H⟩
  ·cases e
 ·rename_i i j;obtain⟨xs,TV,e⟩:=hZ e;obtain⟨ys,tP,e⟩:=hZ e;obtain⟨a,ha,rfl⟩:=hv;obtain⟨b,hb,rfl⟩:=hw;split at e
  ·rename_i hl
   replace e:=bY e
   cases e;obtain⟨vs,k,eo,rv,_⟩:=C.rel.objs i _ a TV ha;obtain⟨ws,k',y0,zu,_⟩:=C.rel.objs j _ b tP hb;refine add_arrays (tZ hn) (ng _ _) (cW eo) (cW y0) (λh' F N=> ?_) (by rw[aO,aO,<-rv.length,<-zu.length];have:=b9;omega);have No:=(N _ (aj ..)).1;have K:Kp env s {s with heap:=h'}:=Kp.news (x:=[_]) hn F N rfl rfl;refine⟨_,ρ++[s.heap.objs.size],κ,rfl,⟨_,C.newest,rfl⟩,bJ.vM C H (et (aJ _)) ⟨_,No⟩ K ⟨vs++ws,0, ?_,(rv.append zu).mono (Sub.append _ _), ?_⟩⟩
   ·simpa using No
   ·rw[af];omega
  ·cases e
 ·rename_i i k;obtain⟨xs,TV,e⟩:=hZ e;obtain⟨a,ha,rfl⟩:=hv;obtain⟨u,rfl⟩:=hw;split at e
  ·rename_i hl
   replace e:=bY e
   cases e;obtain⟨vs,n,eo,rv,_⟩:=C.rel.objs i _ a TV ha;have hk:k.toNat<10:=by omega
   have hlen:xs.length*k.toNat<=1000*10:=nJ (by omega) (by omega);refine mul_list (tZ hn) (ng _ _) eo (by omega) (by omega) (by rw[aO,<-rv.length];omega) λh' F N=> ?_;have No:=(N _ (aj ..)).1;have K:Kp env s {s with heap:=h'}:=Kp.news (x:=[_]) hn F N rfl rfl;refine⟨_,ρ++[s.heap.objs.size],κ,rfl,⟨_,C.newest,rfl⟩,bJ.vM C H (et (aJ _)) ⟨_,No⟩ K ⟨(List.replicate k.toNat vs).flatten,0, ?_,(rv.rep _).mono (Sub.append _ _), ?_⟩⟩
   ·rw[No];have:(if(vs.toArray.isEmpty=true)then 0 else k.toNat)=k.toNat\/vs=[]:=by
     cases vs with
     |nil=>exact .inr rfl
     |cons _ _=>exact .inl rfl
    rcases this with q|q
    ·simp only [q,foldl_rep];simp
    ·subst q;simp
   ·unfold IJ;rw[yW,Nat.mul_comm];omega
  ·cases e
 ·cases e
end
end
section
open PySem.W.X
theorem uX:entryFor table "proto.unchain"=some Builtin.«proto.unchain»:=entryFor_of_fast (by kernel_rfl)
theorem ym{prog:Program} {w:World} {cls msg:String} {Q:α->Shared->Prop} {e0:Addr} {ob:Obj} {vs:Array Value} (hp:PlainExc cls)
  (hh:A.handled=some (.ref e0)) (ho:s.heap.get? e0=some ob) (hd:ob.data= .fields vs) (h2:vs[2]? =some .none)
  (h:∀h' tk e ob t,(∀b o,s.heap.get? b=some o->h'.get? b=some o)->s.heap.get? e=none->h'.get? e=some ob->ob.cls= .type cls->ob.data= .fields #[t,.none,.ref e0,.none,.bool false,.none]->E (.ref e) {s with heap:=h',toks:=tk}):
  wpAny (model prog w) A (raiseErrorWords cls msg:Sem α) Q E s:=by
 unfold raiseErrorWords;refine aa (iB (aa ?_));unfold newExc newTuple;refine aa (gB ?_);refine aa (m:=firstArgMember _ _) (bo (a:=Value.none) (by simp only [firstArgMember,hp.first];rfl) ?_)
 rw[hp.own];refine gB ?_;unfold raiseNew;refine aa (wpAny_handled ?_);rw[hh];dsimp only;have Z4:e0<s.heap.objs.size:=dY ho;generalize hX:(s.heap.push {cls:=Value.type "tuple",data:=Data.seq (List.toArray [Value.str (Str.ofString msg) s.toks])})=h1;have Ti:h1.objs.size=s.heap.objs.size+1:=by rw[<-hX];simp
 have k1:∀b o,s.heap.get? b=some o->h1.get? b=some o:=λb o e=>by rw[<-hX];exact aB _ e
 generalize hO:({cls:=Value.type cls,data:=Data.fields (#[Value.ref s.heap.objs.size,Value.none,Value.none,Value.none,Value.bool false,Value.none]++ #[])}:Obj)=o1;have k2:∀b o,h1.get? b=some o->(h1.push o1).get? b=some o:=λb o e=>aB _ e;have e1:(h1.push o1).get? h1.objs.size=some o1:=aZ _ (by rw[<-hO];rfl);have ne:e0≠h1.objs.size:=dW (by rw[Ti];exact Zi Z4);have apart_at:(Value.ref e0 !=Value.ref h1.objs.size)=true:=by
  rw[xv];exact λq=>ne (Value.ref.inj q)
 rw[aD apart_at];refine aa (aQ (wpAny_runValue (mD uX ?_)));show wpAny _ _ (do
  let context<-field (.ref e0) 2
  _) _ _ _
 refine aa (gF (k2 _ _ (k1 _ _ ho)) hd h2 ?_);refine ae ?_;have d1:o1.data= .fields #[Value.ref s.heap.objs.size,Value.none,Value.none,Value.none,Value.bool false,Value.none]:=by rw[<-hO];simp
 refine aa (nH e1 d1 (by show 2<6;decide) ?_);refine Rp ?_;have fr:o1.isFreed=false:=by rw[<-hO];rfl
 refine h _ _ _ _ (.ref s.heap.objs.size) (λb o e=> ?_) (et (by rw[Ti];exact j1 _)) (cz _ e1 ?_) ?_ ?_
 ·rw[S9 _ _ _ _ (dW (by rw[Ti];exact Zi (dY e)))];exact k2 _ _ (k1 _ _ e)
 ·exact k8 (iD d1 _)
 ·rw[<-hO];rfl
 ·rw[iD d1];rfl
theorem w5{prog:Program} {w:World} {l:Addr} {k:Int} {t:Tok} {Q:Value->Shared->Prop} {e0:Addr} {ob:Obj} {vs:Array Value}
  (hh:A.handled=some (.ref e0)) (uH:s.heap.get? e0=some ob) (jc:ob.data= .fields vs) (Vz:vs[2]? =some .none) (hl:s.heap.IsList l items)
  (h0:0<=k) (hhi:k<2 ^ 63) (Jj:(items.size:Int)<=k)
  (h:∀h' tk e ob t,(∀b o,s.heap.get? b=some o->h'.get? b=some o)->s.heap.get? e=none->h'.get? e=some ob->ob.cls= .type "IndexError"->ob.data= .fields #[t,.none,.ref e0,.none,.bool false,.none]->E (.ref e) {s with heap:=h',toks:=tk}):
  wpAny (model prog w) A (getItem (.ref l) (.int k t)) Q E s:=by
 obtain⟨o,ho,hc,ne,hd⟩:=id hl;unfold getItem
 try with_reducible refine aQ ?_
 first|refine aa (ae ?_)|skip
 refine aa (oE hl.typeIs (by decide) ?_);refine aa (d6 (name:=Str.ofString "__getitem__") hl.typeIs oG
  (fV oG hl.typeIs entry_list_getitem ?_ (args_list_getitem _ _)))
 show wpAny _ _ (Builtin.List.listSubscript? (.int k t)>>=_) _ _ s;refine aa (Le (fitsIndex_both (by omega) hhi) ?_);cases k with
 |ofNat j=>
  have hx:items[j]? =none:=NM (by have:(items.size:Int)<=(j:Int):=Jj;omega);show wpAny _ _ ((seqItemAt l j>>=λr=>pure (r.map (j, ·)))>>=_) _ _ s;refine aa (aa (wpAny_seqItemAt ho hd (ae ?_)));rw[hx];refine aa (jV (aa ?_));exact ym (A:=A.in1) plainExc_IndexError hh uH jc Vz h
 |negSucc j=>exact absurd h0 (by have:=Int.negSucc_lt_zero j;omega)
section
variable {X:Bx} {A:Around} {fe:cn} {env:Env} {hd:Nat}
theorem PM.wD {hd:Nat} {k:Exc} {r:Res α} (e:Ac hd k st=some (r,st')):st'=st/\((hd=0/\r= .exc k)\/(hd=1/\k= .index/\r= .exc .late)):=by
 unfold Ac at e;split at e
 ·cases e;rename_i h;exact⟨rfl,.inl ⟨h,rfl⟩⟩
 ·split at e
  ·rename_i h;cases k with
   |index=>cases e;exact⟨rfl,.inr ⟨h,rfl,rfl⟩⟩
   |_=>cases e
  ·cases e
theorem JM(C:Cfg X A fe env ρ κ l σ s) (H:jq X A env hd ρ κ s) {k:Exc} {tk:Nat} {e:Addr} (hn:Heap.NewExc s.heap h' e (jk k)):
  o6 X A fe env hd (β:=β) ρ κ s (.exc k) ⟨l,σ⟩ (.ref e) {s with heap:=h',toks:=tk}:=by
 obtain⟨kk,nw,ob,t,e1,e2,e3⟩:=hn;obtain⟨f1,f2,f3,f4,f5⟩:=C.fresh nw;exact⟨k,ρ,κ,rfl,⟨e,ob,t,.none,.none,.bool false,.none,.none,rfl,nw,e1,e2,e3,f1,f2,f3,f4,f5,λ_ _=>rfl,.inl rfl⟩,bJ.keep C H (Kp.of kk rfl rfl)⟩
theorem rO(slice:PySem.Expr) (v w:Value):∃ops,subscripted slice false v w=operate ops (getItem v w):=by
 unfold subscripted;split
 ·exact⟨_,rfl⟩
 ·rename_i h;cases h
 ·exact⟨_,rfl⟩
theorem bp.pick {ρ:List Addr} {xs:List AV} {vs:List Value} (h:bp ρ xs vs):∀js:List Nat,bp ρ (js.filterMap (xs[·]?)) (js.filterMap (vs[·]?))
 |[]=>trivial
 |j::js=>by
  rw[de,de];cases hx:xs[j]? with
  |none=>rw[h.none hx];exact h.pick js
  |some x=>
   obtain⟨v,hv,r⟩:=h.get hx;rw[hv];exact⟨r,h.pick js⟩
theorem wF{p:Option Int} (h:wG x=some p) (r:bC ρ x v):IsPart v p:=by
 cases x with
 |none=>cases h;cases r;exact .none
 |int i=>cases h;obtain⟨t,rfl⟩:=r;exact .int i t
 |_=>cases h
theorem bp.ofInts {ρ:List Addr}:∀{vs:List Value} {ns:List Int},IntsAre vs ns->bp ρ (ns.map .int) vs
 |_,_,.nil=>trivial
 |_,_,.cons i t h=>⟨⟨t,rfl⟩,bp.ofInts h⟩
theorem sJ{G:bZ X} (C:Cfg X A fe env ρ κ l σ s) {o:AV} {r:Res (List AV)} (hv:bC ρ o v) (e:yj X.P o ⟨l,σ⟩=some (r,st)):
  ∃xs a vs,r= .ok xs/\st=⟨l,σ⟩/\v= .ref a/\s.heap.IsList a vs.toArray/\bp ρ xs vs/\xs.length<=20000:=by
 unfold yj at e;cases o with
 |ref n=>
  obtain⟨xs,hx,rfl,rfl⟩:=nq e;obtain⟨a,ha,rfl⟩:=hv;obtain⟨vs,m,eo,rv,hl⟩:=C.rel.objs n _ a hx ha;exact⟨xs,a,vs,rfl,rfl,rfl,cW eo,rv,hl⟩
 |base a=>
  cases hs:X.P.script with
  |none=>simp only [hs]at e;cases e
  |some p=>
   obtain⟨b,ns⟩:=p;simp only [hs]at e;by_cases hb:a=b
   ·rw[aD hb]at e;cases e;subst hb;obtain⟨h1,vs,⟨oo,h2,Vz⟩,h3,h4⟩:=G.script a ns hs;cases hv;exact⟨_,a,vs,rfl,rfl,rfl,⟨oo,C.rel.keep _ _ h2 h1,Vz⟩,bp.ofInts h3,by rw[aG];omega⟩
   ·rw[aC hb]at e;cases e
 |_=>cases e
theorem FC(G:bZ X) (value slice:PySem.Expr) (x y:AV) (v w:Value):
  aU X A fe env hd (λρ=>bC ρ x v/\bC ρ y w) (subscriptTail value slice v w) (p6 X.P hd x y) VR:=by
 intro ρ κ l σ s C H ⟨hv,hw⟩ r st e;obtain⟨ops,hs⟩:=rO slice v w;unfold p6 at e;split at e
 ·rename_i n k;obtain⟨a,ha,rfl⟩:=hv;obtain⟨t,rfl⟩:=hw;have e2:=bI e;clear e;obtain⟨o,ho,e⟩:=e2;have O:=C.rel.objs n o a ho ha;split at e
  ·rename_i xs;obtain⟨vs,m,eo,rv,hlen⟩:=O;refine Rq ⟨_,eo,rfl⟩ oG.lookup ?_ hs;unfold jZ at e;split at e
   ·rename_i h0;cases hx:xs[k.toNat]? with
    |some x=>
     rw[hx]at e;cases e;obtain⟨v',nW,zu⟩:=rv.get hx;have f_tup:k.toNat<xs.length:=(bx.mp hx).1;exact wpAny_getItem_list (cW eo) h0 (by omega) (by simpa using nW) ⟨_,ρ,κ,rfl,zu,bJ.refl C H⟩
    |none=>
     rw[hx]at e;dsimp only at e;split at e
     case isFalse=>cases e
     rename_i Jv;obtain⟨rfl,hh⟩:=PM.wD e;have hle:xs.length<=k.toNat:=cE.mp hx;have Jj:((vs.toArray.size:Nat):Int)<=k:=by rw[aO,<-rv.length];omega
     rcases hh with⟨GQ,rfl⟩|⟨hd1,_,rfl⟩
     ·exact wpAny_getItem_list_out (H.none_ GQ) (cW eo) (.inr Jj) (by omega) (by omega) λh' tk e hn=>JM C H hn
     ·obtain⟨e0,ob,fs,h1,h2,h3,h4,h5,h6,h7,h8,h9⟩:=H.one hd1;refine w5 h1 h2 h3 h4 (cW eo) h0 (by omega) Jj λh' tk e EB t kk nw e1 e2 e3=> ?_;obtain⟨f1,f2,f3,f4,f5⟩:=C.fresh nw;exact⟨.late,ρ,κ,rfl,⟨e,EB,t,.ref e0,.none,.bool false,.none,.none,rfl,nw,e1,e2,e3,f1,f2,f3,f4,f5,λ_ q=>absurd rfl q,.inl rfl⟩,bJ.keep C H (Kp.of kk rfl rfl)⟩
   ·split at e
    ·rename_i h1;subst h1;cases hx:xs.getLast? with
     |some x=>
      rw[hx]at e;cases e;obtain⟨v',nW,zu⟩:=rv.last hx;have wW:0<vs.length:=by
       cases vs with
       |nil=>cases nW
       |cons _ _=>simp
      refine wpAny_getItem_list_neg (cW eo) (by decide) (by rw[aO];omega) (by decide) ?_ ⟨_,ρ,κ,rfl,zu,bJ.refl C H⟩;rw[oa]at nW;rw[aO,<-nW,ck];congr 1;omega
     |none=>rw[hx]at e;cases e
    ·cases e
  ·rename_i xs;obtain⟨vs,m,eo,rv,hlen⟩:=O;split at e
   ·rename_i hk;unfold jZ at e;rw[aD hk.1]at e;cases hx:xs[k.toNat]? with
    |some x=>
     rw[hx]at e;cases e;obtain⟨v',nW,zu⟩:=rv.get hx;refine Rq ⟨_,eo,rfl⟩ slot_tuple_getitem.lookup ?_ hs;refine getItem_tuple ⟨_,eo,rfl,m,rfl⟩ (by omega) (by omega) (j:=k.toNat) ?_ (by simpa using nW) ⟨_,ρ,κ,rfl,zu,bJ.refl C H⟩;unfold seqIndex?;rw[aO,<-rv.length];simp only [aC (show ¬k<0 by omega)];rw[aD (by simp only [cG,eC];omega)]
    |none=>
     rw[cE]at hx;omega
   ·cases e
  ·rename_i es ep;obtain⟨gZ,jc,rk,_⟩:=O;obtain⟨x,hx,rfl,rfl⟩:=cY e;have q:=fQ.lookup (k:=k) rk;rw[hx]at q;obtain⟨v',nW,zu⟩:=q;refine Rq jc.dictOf.typeIs slot_dict_getitem.lookup ?_ hs;exact wpAny_getItem_of (int_is X.prog X.w k t) jc.dictOf.mapOf nW ⟨_,ρ,κ,rfl,zu,bJ.toks C H⟩
  ·cases e
 ·rename_i k;obtain⟨b,hb,rfl⟩:=hw;have e2:=bI e;clear e;obtain⟨o,ho,e⟩:=e2;have O:=C.rel.objs k o b ho hb;split at e
  ·rename_i lo hi st';obtain⟨vl,vu,vs',es,r1,r2,r3⟩:=O;rcases aH e with⟨xs,s1,e1,e2⟩|⟨k',e1,_⟩
   ·obtain⟨EY,a,vs,h1,rfl,rfl,eo,rv,hl⟩:=sJ (G:=G) C hv e1;obtain⟨oo,eo1,eo2,_⟩:=id eo;cases h1;obtain⟨ys,hy,e3⟩:=jF e2
    replace e3:=bY e3
    cases e3;unfold ll at hy;split at hy
    ·rename_i pl pu ps h1 h2 h3;split at hy
     ·cases hy
     ·rename_i h0;cases hy;refine Rq ⟨_,eo1,eo2⟩ oG.lookup ?_ hs;refine wpAny_getItem_list_slice eo ⟨_,es,rfl,rfl⟩ (wF h1 r1) (wF h2 r2) (wF h3 r3) h0 ?_ (by rw[aO,<-rv.length];exact cy hl b9);have hp:slicePick vs.toArray pl pu ps=(jY vs pl pu ps).toArray:=by
       unfold slicePick jY;simp only [aO,ck]
      have hr:bp ρ (jY xs pl pu ps) (jY vs pl pu ps):=by
       unfold jY;rw[rv.length];exact rv.pick _
      have hle:(jY xs pl pu ps).length<=20000:=by
       have q:=slicePick_size_le vs.toArray pl pu ps;rw[hp,aO,aO,<-hr.length,<-rv.length]at q;omega
      rw[hp];exact⟨_,_,_,rfl,⟨_,C.newest,rfl⟩,bJ.push C H (t:=s.toks) rfl λy0=>⟨_,0,y0,hr.mono (Sub.append _ _),hle⟩⟩
    ·cases hy
   ·obtain⟨EY,a,vs,h1,_⟩:=sJ (G:=G) C hv e1;cases h1
  ·cases e
 ·cases e
theorem wy(x y z:AV) (vx vy vz:Value):aU X A fe env hd (λρ=>bC ρ x vx/\bC ρ y vy/\bC ρ z vz) (newFields "slice" [vx,vy,vz]) (do let r<-PM.alloc (.slice x y z);PM.pure (.ref r)) VR:=by
 intro ρ κ l σ s C H ⟨h1,h2,h3⟩ r st e
 replace e:=bY e
 cases e;unfold newFields;refine gB ?_;exact⟨_,_,_,rfl,⟨_,C.newest,rfl⟩,bJ.push C H (t:=s.toks) rfl λy0=>⟨_,_,_,y0,h1.mono (Sub.append _ _),h2.mono (Sub.append _ _),h3.mono (Sub.append _ _)⟩⟩
end
end
section
open PySem.W.X
theorem pC{dx:Addr} {od:Obj}:∀{l:List (Addr×Obj)} (_:(l.map (·.1)).Nodup) (_:(dx,od)∈l),∃pre post,l=pre++(dx,od)::post/\(∀p∈pre,p.1≠dx)/\∀p∈post,p.1≠dx
 |p::r,hn,hm=>by
  rw[aS,bA]at hn;rcases aK.mp hm with rfl|hm
  ·exact⟨[],r,rfl,(λ_ h=>nomatch h),λq hq e=>hn.1 (aR.mpr ⟨q,hq,e⟩)⟩
  ·obtain⟨pre,post,rfl,h1,h2⟩:=pC hn.2 hm;refine⟨p::pre,post,rfl,λq hq=> ?_,h2⟩;rcases aK.mp hq with rfl|hq
   ·exact λe=>hn.1 (aR.mpr ⟨(dx,od),by simp,e.symm⟩)
   ·exact h1 q hq
theorem mO(f:Nat->Option α) (g:α->Nat) (h:∀a x,f a=some x->g x=a):∀n,(((List.range n).filterMap f).map g).Nodup:=by
 intro n;induction n with
 |zero=>simp
 |succ n ih=>
  rw[List.range_succ,r4,bq,bT];refine⟨ih, ?_, ?_⟩
  ·cases e:f n with
   |none=>simp [de,e]
   |some x=>simp [de,e]
  ·intro a ha b hb q;subst q;obtain⟨x,hx,rfl⟩:=aR.mp ha;obtain⟨y,hy,e⟩:=aR.mp hb;obtain⟨i,hi,ei⟩:=d4.mp hx;obtain⟨j,hj,ej⟩:=d4.mp hy;have h1:=h _ _ ei;have h2:=h _ _ ej;rw[dh]at hi;rw[aA]at hj;omega
theorem lF(h:Heap) (L:Addr):((mA h L).map (·.1)).Nodup:=
 mO (λa=>if a=L then none else(h.get? a).map λo=>(a,o)) (λp=>p.1) (λa x e=>by
  by_cases z:a=L
  ·rw[aD z]at e;cases e
  ·rw[aC z]at e;cases q:h.get? a with
   |none=>rw[q]at e;cases e
   |some o=>rw[q]at e;cases e;rfl) _
section
variable {X:Bx} {A:Around} {fe:cn} {env:Env} {hd:Nat}
theorem Rel.zv (G:bZ X) {ρ κ:List Addr} {σ:Hp} {s:Shared} (R:Rel X ρ κ σ s):X.K.In s.heap:=λa o e=>R.keep a o (G.zv a o e) λq=>by rw[G.Pu a q]at e;cases e
theorem bJ.ledger {o:bP} {ob EB:Obj} {pre post:List (Addr×Obj)} (C:Cfg X A fe env ρ κ l σ s) (H:jq X A env hd ρ κ s) (ha:ρ[n]? =some a)
  (hn:s.heap.Ns env.locals m) (hs:mA s.heap env.locals=pre++(a,ob)::post) (F:Fr kE env.locals s'.heap m) (N:News kE env.locals s'.heap (pre++(a,EB)::post)) (hg:s'.gens=s.gens) (ho:s'.os=s.os)
  (h:qU X ρ κ s'.heap a o):bJ X A fe env hd ρ κ s ⟨l,σ.set n o⟩ ρ κ s':=by
 have hm:=bB ha;have hk:∀b x,b≠a->b≠env.locals->s.heap.get? b=some x->s'.heap.get? b=some x:=λb x h1 h2 e=>by
  have q:=i5 h2 e;rw[hs]at q;rcases au.mp q with q|q
  ·exact(N (b,x) (aI _ q)).1
  ·rcases aK.mp q with q|q
   ·exact absurd (dg Prod.fst q) h1
   ·exact(N (b,x) (aW _ (ah _ q))).1
 have tW:s'.heap.get? a=some EB:=(N (a,EB) (by simp)).1;have hL:a≠env.locals:=(N (a,EB) (by simp)).2.1;have hnl:∀m',s.heap.Ns env.locals m'->s'.heap.Ns env.locals m':=λm' Oh=>by
  have:m'=m:=by
   obtain⟨o1,es,ep,e1,d1,k1,f1⟩:=hn;obtain⟨o2,es',uW,e2,d2,k2,f2⟩:=Oh;rw[e1]at e2;cases e2;rw[d1]at d2;cases d2
   funext x
   rw[<-f1,<-f2]
  rw[this];exact F.ns
 have alive:∀b x,s.heap.get? b=some x->∃x',s'.heap.get? b=some x':=λb x e=>by
  by_cases z:b=a
  ·exact⟨_,z▸tW⟩
  ·by_cases z2:b=env.locals
   ·obtain⟨x',_,_,e',_⟩:=F.ns;exact⟨x',z2▸e'⟩
   ·exact⟨x,hk b x z z2 e⟩
 refine⟨⟨Sub.refl _,λ_ h=>h,λ_ h=> .inl h,λ_ h=> .inl h,alive,λb x e h1 h2 _=> ?_⟩,⟨?_, ?_,C.lr,C.lk,C.l0,C.env,C.oq.fs,λf hf=> ?_⟩,⟨H.none_,λq=> ?_⟩⟩
 ·have z:=hk b x (λq=>h1 (q▸hm)) h2 e;exact⟨⟨x.slots,z⟩,λ_=>z⟩
 ·
  have R:=C.rel;have Uc:a∉X.eX:=λq=>let ⟨o,e⟩:=R.iz a q;by rw[R.own a hm]at e;cases e
  have keep:∀b x,b≠a->s.heap.get? b=some x->(b∈ρ\/b∈κ\/b∈X.eX\/(∃o',X.h₀.get? b=some o'))->s'.heap.get? b=some x:=λb x h1 e q=>hk b x h1 (by
   rintro rfl;rcases q with q|q|q|⟨o',q⟩
   ·exact C.lr q
   ·exact C.lk q
   ·exact C.zT C.l0 q
   ·rw[C.l0]at q;cases q) e
  refine⟨by rw[aV];exact R.len,R.nodup,R.dis,R.own,R.sS,λb h=> ?_,λb h=>let ⟨o,e⟩:=R.JU b h;⟨o,keep b o (λz=>R.dis a hm (z▸h)) e (.inr (.inl h))⟩,λi o' b e1 e2=> ?_,λb ob e h=> ?_,R.iz, ?_,hg.trans R.gens,ho.trans R.os⟩
  ·obtain⟨o,e⟩:=R.al b h;exact alive b o e
  ·rw[zq]at e1;by_cases q:n=i
   ·subst q;have:b=a:=by rw[ha]at e2;exact(bV e2).symm
    subst this;split at e1
    ·split at e1
     ·cases e1;exact h
     ·cases e1
    ·rename_i f;exact absurd rfl f
   ·rw[aC q]at e1;have nb:b≠a:=λz=>q (sW R.nodup ha (z▸e2));exact(R.objs i o' b e1 e2).keep (Sub.refl _) (λ_ h=>h) (λob e=>keep b ob nb e (.inl (bB e2))) λc hc ob e=>keep c ob (λz=>R.dis a hm (z▸hc)) e (.inr (.inl hc))
  ·exact keep b ob (R.Cz hm e) (R.keep b ob e h) (.inr (.inr (.inr ⟨_,e⟩)))
  ·exact R.tabs.keep (λ_ h=>h) (λP hP ob e=>keep P ob (λz=>Uc (z▸hP)) e (.inr (.inr (.inl hP)))) λc hc ob e=>keep c ob (λz=>R.dis a hm (z▸hc)) e (.inr (.inl hc))
 ·obtain⟨m',UE,hl⟩:=C.ns;exact⟨m',hnl m' UE,hl⟩
 ·obtain⟨⟨o',e⟩,h1,h2⟩:=C.oq.ok f hf;exact⟨alive f o' e,h1,h2⟩
 ·obtain⟨e,ob,vs,h1,h2,h3,h4,h5,h6,h7,h8,h9⟩:=H.one q;exact⟨e,ob,vs,h1,hk _ _ (λz=>h5 (z▸hm)) h9 h2,h3,h4,h5,h6,h7,h8,h9⟩
theorem iO.get {ρ:List Addr} {x:Str} {v:AV}:∀{m:List (Str×AV)} {es:List DictEntry},iO ρ m es->m.lookup x=some v->∃w,getL x es=some (some w)/\bC ρ v w
 |[],[],_,e=>by cases e
 | (y,u)::m,en::es,⟨⟨⟨t,hk⟩,hv⟩,r⟩,e=>by
  simp only at hk hv
  rw[az]at e;unfold getL;rw[Ew,hk];by_cases z:x=y
  ·subst z;rw[cj]at e;cases e;have:(Value.str x t).isStr x=true:=by simp [Value.isStr]
   rw[this];exact⟨_,rfl,hv⟩
  ·rw[aP.mpr z]at e;have:(Value.str y t).isStr x=false:=by simp [Value.isStr];exact λq=>z q.symm
   rw[this];obtain⟨w,h1,h2⟩:=iO.get r e;refine⟨w, ?_,h2⟩;unfold getL at h1;simp only;split at h1
   ·rename_i en' he;exact h1
   ·split at h1<;>cases h1
theorem iO.noRef {ρ:List Addr}:∀{m:List (Str×AV)} {es:List DictEntry},iO ρ m es->es.any (·.refKey)=false
 |[],[],_=>rfl
 | (y,u)::m,en::es,⟨⟨⟨t,hk⟩,_⟩,r⟩=>by
  rw[wd,r.noRef,pf];simp only at hk
  unfold DictEntry.refKey;rw[hk]
theorem iO.JE {x:Str} {m:List (Str×AV)} {es:List DictEntry} (h:iO ρ m es):(getL x es).isSome=true:=by
 unfold getL;split
 ·rfl
 ·rw[h.noRef];rfl
theorem iO.put {ρ:List Addr} {x:Str} {v:AV} {w:Value} (PV:Int) (t:Tok) (hv:bC ρ v w):∀{m:List (Str×AV)} {es:List DictEntry},iO ρ m es->iO ρ (hV x v m) (putL x PV (.str x t) w es)
 |[],[],_=>⟨⟨⟨t,rfl⟩,hv⟩,trivial⟩
 | (y,u)::m,en::es,⟨⟨⟨t',hk⟩,hu⟩,r⟩=>by
  simp only at hk hu
  unfold hV putL;rw[hk];by_cases z:y=x
  ·subst z;have:(Value.str y t').isStr y=true:=by simp [Value.isStr]
   rw[aD rfl,this];exact⟨⟨⟨t',rfl⟩,hv⟩,r⟩
  ·have:(Value.str y t').isStr x=false:=by simp [Value.isStr];exact z
   rw[aC z,this];exact⟨⟨⟨t',hk⟩,hu⟩,r.put PV t hv⟩
theorem iO.length {ρ:List Addr}:∀{m:List (Str×AV)} {es:List DictEntry},iO ρ m es->m.length=es.length
 |[],[],_=>rfl
 |_::_,_::_,⟨_,r⟩=>by rw[aq,aq,r.length]
theorem rq(x:Str) (PV:Int) (k v:Value):∀es:List DictEntry,(putL x PV k v es).length<=es.length+1
 |[]=>aJ _
 |e::r=>by
  unfold putL;split
  ·simp
  ·have:=rq x PV k v r;simp only [aq];omega
theorem nX(h:bC ρ x v):(∀i,x≠ .bi i)->handedIn v=true:=by
 intro hb;cases x with
 |none=>cases h;rfl
 |bool b=>cases h;rfl
 |int i=>obtain⟨t,rfl⟩:=h;rfl
 |ref n=>obtain⟨a,_,rfl⟩:=h;rfl
 |base a=>cases h;rfl
 |ty n=>cases h;rfl
 |bi i=>exact absurd rfl (hb i)
theorem Hj{x:Str} {P:Prog} (h:((P.clss c).any λci=>ci.attrs.contains x)=true):∃ci,P.clss c=some ci/\x∈ci.attrs:=by
 cases e:P.clss c with
 |none=>rw[e]at h;cases h
 |some ci=>rw[e]at h;exact⟨ci,rfl,r5.mp h⟩
theorem sh(C:Cfg X A fe env ρ κ l σ s) {d:Nat} {m:List (Str×AV)} (ho:σ[n]? =some (.inst c d)) (ha:ρ[n]? =some a) (jc:σ[d]? =some (.ns m)):
  ∃ad es k,ρ[d]? =some ad/\s.heap.get? a=some (⟨.ref c,some ad,.plain,#[]⟩:Obj)/\s.heap.get? ad=some (dictOf es k)/\iO ρ m es/\InstAt s.heap a ⟨.ref c,some ad,.plain,#[]⟩ c (some (dictOf es k)):=by
 obtain⟨ad,e1,e2⟩:=C.rel.objs n _ a ho ha;obtain⟨es,k,e3,r⟩:=C.rel.objs d _ ad jc e1;exact⟨ad,es,k,e1,e2,e3,r,e2,rfl,rfl,e3⟩
theorem vD{v:AV} {r:Res AV} (e:mm v st=some (r,st')):r= .ok v/\st'=st/\∀i,v≠ .bi i:=by
 cases v<;>cases e<;>exact⟨rfl,rfl,λi q=>by cases q⟩
theorem qg(C:Cfg X A fe env ρ κ l σ s) {vs:List (Option AV)} (ho:σ[n]? =some (.slots (.base c) vs)) (ha:ρ[n]? =some a):
  ∃dx,∃ws:Array (Option Value),s.heap.get? a=some (⟨.ref c,some dx,.plain,ws⟩:Obj)/\(∀i:Nat,jo ρ (vs[i]?.join) (ws[i]?.join))/\ws.size<=vs.length/\InstAt s.heap a ⟨.ref c,some dx,.plain,ws⟩ c (some emptyDict)/\dx∈κ/\s.heap.get? dx=some emptyDict:=by
 obtain⟨cv,ws,rfl,⟨dx,e,e1,e2⟩,r,z⟩:=C.rel.objs n _ a ho ha;exact⟨dx,ws,e,r,z,⟨e,rfl,rfl,e2⟩,e1,e2⟩
local macro_rules | `(tactic|x_close)=> `(tactic| (exact⟨_,_,by assumption,rfl,rfl,rfl,rfl⟩))
set_option maxHeartbeats 0 in
theorem Dp{A:Around} {d:Drawn} {t:Nat} (x al:Addr) (i:Int) (t0:Tok)
 (hx:h.get? x=some ⟨.type "list_iterator",none,.fields #[.ref al,.int i 0],#[]⟩):
  wpAny (model prog w) A (call (.builtin "object.__getattribute__") [.ref x,.str "__next__" t0]) (λu s'=>∃q ob,Mem h s'.heap [] [(q,ob)]/\u= .ref q/\ob=⟨.type "method-wrapper",none,.fields #[.builtin "list_iterator.__next__",.ref x],#[]⟩/\s'.gens=g/\s'.os=os) (λ_ _=>False) ⟨h,g,d,t,os⟩:=by
 x_run
local macro_rules | `(tactic|x_close)=> `(tactic| (exact⟨by first|assumption|exact qo _,rfl,rfl,rfl⟩))
set_option maxHeartbeats 0 in
theorem I4{prog:Program} {w:World} {A:Around} {g:Array GenState} {d:Drawn} {t:Nat} {os:OsState} (x dx a ns md B:Addr) (tk t0:Tok) (r:KN) (h1 h2:Int) (t1 t2 tm:Tok) (v:Value) (hv:handedOut v=pure v)
 (hx:h.get? x=some ⟨.ref a,some dx,.plain,#[some v]⟩) (Yk:h.get? dx=some ⟨.type "dict",none,.dict #[] 0,#[]⟩)
 (ha:h.get? a=some ⟨.type "type",none,.cls {name:="K",bases:=[.type "object"],mro:=[.ref a,.type "object"],ns,qualname:=fg,hasDict:=false,slotNames:=["obj"],hasDel:=false},#[some (.ref B),none,some (.str "K" tk),some (.str fg r.tq),some (.builtin "object.__new__"),some (.bool false)]⟩)
 (hn:h.get? ns=some ⟨.type "dict",none,.dict #[⟨r.H 0,.str "__module__" (r.T 0),.str "cpy313.functools" r.tm⟩,⟨r.H 2,.str "__firstlineno__" (r.T 2),.int r.line r.tl⟩,
 ⟨r.H 3,.str "__slots__" (r.T 3),.ref r.sl⟩,⟨r.H 4,.str "__init__" (r.T 4),.ref r.fi⟩,⟨r.H 5,.str "__lt__" (r.T 5),.ref r.t6⟩,⟨r.H 6,.str "__gt__" (r.T 6),.ref r.EJ⟩,⟨r.H 7,.str "__eq__" (r.T 7),.ref r.Ec⟩,
 ⟨r.H 8,.str "__le__" (r.T 8),.ref r.EI⟩,⟨r.H 9,.str "__ge__" (r.T 9),.ref r.EK⟩,⟨r.H 10,.str "__hash__" (r.T 10),.none⟩,⟨r.H 11,.str "__static_attributes__" (r.T 11),.ref r.sa⟩,⟨h1,.str "obj" t1,.ref md⟩,⟨h2,.str "__doc__" t2,.none⟩] 3,#[]⟩)
 (hm:h.get? md=some ⟨.type "member_descriptor",none,.fields #[.str "obj" tm,.ref a,.builtin "proto.slot",.builtin "proto.slot#set",rawInt 0],#[]⟩):
  wpAny (model prog w) A (runValue (.builtin "proto.getattr_hooked" ⟨[.ref x,.str "obj" t0],[]⟩)) (λu s'=>Mem h s'.heap [] []/\u=v/\s'.gens=g/\s'.os=os) (λ_ _=>False) ⟨h,g,d,t,os⟩:=by
 x_run
theorem kl{x:Str}:∀{l:List Str} {i:Nat},idxOf x l=some i->l[i]? =some x
 |[],_,e=>by cases e
 |y::r,i,e=>by
  unfold idxOf at e;split at e
  ·rename_i h;cases e;rw[h];rfl
  ·cases q:idxOf x r with
   |none=>rw[q]at e;cases e
   |some j=>
    rw[q]at e;cases e;rw[d8];exact kl q
theorem TQ{M:Model} {ns md B:Addr} {tk:Tok} {r:KN} {h1 h2:Int} {t1 t2:Tok} (ha:h.get? a=some (kObj a ns B tk r.tq)) (hn:h.get? ns=some (eh (kO r h1 t1 md h2 t2) 3)):
  Looks M h (typeLookup (.ref a) "__getattribute__") (some (.builtin "object.__getattribute__")):=by
 intro A Q E s k q;exact vc (k _ _ ha) rfl rfl (k _ _ hn) (.inr ⟨by kernel_rfl,by kernel_rfl⟩) q
theorem JD{A:Around} {x T':Addr} {T:Value} (hT:T= .ref T') {name:Str} {expr:Bool} (L0:Looks (model prog w) s.heap (typeOf (.ref x)) T)
  (L1:Looks (model prog w) s.heap (typeLookup T "__getattribute__") (some (.builtin "object.__getattribute__")))
  (h:wpAny (model prog w) A (runValue (.builtin "proto.getattr_hooked" ⟨[.ref x,.str name s.toks],[]⟩)) (λv s'=>wpAny (model prog w) A (handedOut v) Q E s') (λ_ _=>False) {s with toks:=s.toks+1}):
  wpAny (model prog w) A (getAttr (.ref x) name expr) Q E s:=by
 subst hT;obtain⟨hh,g,d,t,os⟩:=s;unfold getAttr getAttrBy;refine aa (iB (aQ (aa (L0.at (aa (L1.at ?_))))));show wpAny _ _ (getAttrEveryday _ _ _) _ _ _;exact aa (JX (ao h (λ_ _ z=>z) λ_ _ z=>z.elim))
theorem yS{A:Around} {x:Addr} {T:String} {name:Str} {expr:Bool} (L0:Looks (model prog w) s.heap (typeOf (.ref x)) (.type T))
  (L1:typeLookup (.type T) "__getattribute__"=pure (some (.builtin "object.__getattribute__")))
  (h:wpAny (model prog w) A (call (.builtin "object.__getattribute__") [.ref x,.str name s.toks]) (λv s'=>wpAny (model prog w) A (handedOut v) Q E s') (λ_ _=>False) {s with toks:=s.toks+1}):
  wpAny (model prog w) A (getAttr (.ref x) name expr) Q E s:=by
 obtain⟨hh,g,d,t,os⟩:=s;unfold getAttr getAttrBy;refine aa (iB (aQ (aa (L0.at ?_))));rw[L1];refine aa (ae ?_);show wpAny _ _ (getAttrByItsOwn _ _ _ _ _ _) _ _ _;unfold getAttrByItsOwn;refine aa (ae ?_);refine aa (gR (aQ ?_));unfold callGetattribute;rw[aC (by cases expr<;>exact bL)]
 unfold boundAndCalled;refine aa (bo (a:=(Value.builtin "object.__getattribute__",[Value.ref x])) (by kernel_rfl) ?_);exact ao h (λ_ _ z=>z) λ_ _ z=>z.elim
theorem JT{w:Value} (h1:ws.size<=1) (h2:ws[0]?.join=some w):ws= #[some w]:=by
 match ws,h1,h2 with
 |⟨[]⟩,_,h2=>cases h2
 |⟨[a]⟩,_,h2=>
  have:a=some w:=h2;rw[this]
 |⟨_::_::_⟩,h1,_=>simp at h1
def HA (P:Prog) (σ:Hp) (names:List Str):AV->Prop
 | .base a=>∃ci,P.clss a=some ci/\names=ci.slotNames
 | .ref k=>∃c,σ[k]? =some (.jb c)/\names=[("obj":Str)]
 |_=>False
theorem vY{P:Prog} {c:AV} {f:List Str->PM β} (e:(slotNamesOf P c>>=f) st=some (r,st')):∃names,HA P st.hp names c/\f names st=some (r,st'):=by
 unfold slotNamesOf at e;cases c with
 |base a=>
  obtain⟨ns,h,e⟩:=jF e;cases hc:P.clss a with
  |none=>rw[hc]at h;cases h
  |some ci=>rw[hc]at h;cases h;exact⟨_,⟨ci,hc,rfl⟩,e⟩
 |ref k=>
  rcases aH e with⟨ns,s1,e1,e2⟩|⟨k',e1,_⟩
  ·obtain⟨o,ho,e3⟩:=bI e1;cases o with
   |jb c=>cases e3;exact⟨_,⟨c,ho,rfl⟩,e2⟩
   |_=>cases e3
  ·obtain⟨o,ho,e3⟩:=bI e1;cases o<;>cases e3
 |_=>cases e
theorem ro(G:bZ X) (x:AV) (v:Value) (nm:Str) (ex:Bool):aU X A fe env hd (λρ=>bC ρ x v) (getAttr v nm ex) (jj X.P x nm) VR:=by
 intro ρ κ l σ s C H hv r st e;unfold jj at e;cases x with
 |ref n=>
  obtain⟨a,ha,rfl⟩:=hv;have e2:=bI e;clear e;obtain⟨o,ho,e⟩:=e2;cases o with
  |inst c d=>
   dsimp only at e;split at e
   ·rename_i hc;obtain⟨ci,rT,hx⟩:=Hj (c:=c) hc;have e2:=bI e;clear e;obtain⟨o,jc,e⟩:=e2;cases o with
    |ns m=>
     obtain⟨v,hm,e⟩:=jF e;obtain⟨rfl,rfl,hb⟩:=vD e;obtain⟨ad,es,k,QB,ea,ed,rn,I⟩:=sh C ho ha jc;obtain⟨w,hg,hv⟩:=rn.get hm;have K:=G.cls c ci rT;have hh:hasDictIn X.K c=true:=K.cd.trans (K.n0 (λq=>by rw[q]at hx;cases hx));refine get_value (C.rel.zv G) I K.ga (findObj_own hh (K.attrs _ hx) (show noGet X.K none=true from rfl) hg) (nX hv hb) ⟨v,ρ,κ,rfl,hv,bJ.toks C H⟩
    |_=>cases e
   ·cases e
  |slots c vs=>
   have e2:=vY e;clear e;obtain⟨names,MI,e⟩:=e2;split at e
   case isFalse=>cases e
   rename_i hlen;cases AR:idxOf nm names with
   |none=>rw[AR]at e;cases e
   |some i=>
    rw[AR]at e;dsimp only at e;cases DM:vs[i]? with
    |none=>rw[DM]at e;cases e
    |some vo=>
     cases vo with
     |none=>rw[DM]at e;cases e
     |some v=>
      rw[DM]at e;obtain⟨rfl,rfl,hb⟩:=vD e;cases c with
      |base c=>
       obtain⟨dx,ws,ea,L3,hz,I,_⟩:=qg C ho ha;obtain⟨ci,rT,rfl⟩:=MI;have K:=G.cls c ci rT;obtain⟨p,S⟩:=K.slots i nm (kl AR);have q:=L3 i;rw[DM]at q;obtain⟨w,hw,hv⟩:=q;refine get_bind (C.rel.zv G) I K.ga (findObj_data K.BD S.find S.get S.takes) K.QK ?_;refine gQ (slot_get (s:={s with toks:=s.toks+1}) (C.rel.zv G) I S.at_ hw ?_);show wpAny _ _ (handedOut w) _ _ _;rw[NA (nX hv hb)];exact ae ⟨v,ρ,κ,rfl,hv,bJ.toks C H⟩
      |ref k=>
       obtain⟨c,hok,rfl⟩:=MI;have hO:=C.rel.objs n _ a ho ha;obtain⟨cv,ws,⟨ak,Jx,rfl⟩,⟨dx,ea,_,edx⟩,L3,hz⟩:=hO;have Qk:i=0/\nm="obj":=by
        have q:=kl AR;cases i with
        |zero=>exact⟨rfl,(bV q).symm⟩
        |succ j=>cases q
       obtain⟨rfl,rfl⟩:=Qk;have q:=L3 0;rw[DM]at q;obtain⟨w,hw,hv⟩:=q;obtain⟨ac,HX,ns,md,B,r,tk,h1,t1,h2,t2,tm,e1,e2,m2,e3,m3,f1,f2⟩:=C.rel.objs k _ ak hok Jx;have:=JT (cy hz (Nat.le_of_eq hlen.symm)) hw;subst this;obtain⟨hh,gg,dd,tt,oo⟩:=s;refine JD rfl ((Rw ea).andThen .now) (TQ e1 e2) ?_;refine ao (I4 a dx ak ns md B tk tt r h1 h2 t1 t2 tm w (NA (nX hv hb)) ea edx e1 e2 e3) ?_ λ_ _ z=>z;rintro u s' ⟨D,rfl,hg,uH⟩;rw[NA (nX hv hb)];exact ae ⟨v,ρ,κ,rfl,hv,bJ.keep C H (Kp.of (tB D) hg uH)⟩
      |_=>exact MI.elim
  |eZ li i=>
   dsimp only at e;split at e
   ·rename_i hx;subst hx
    replace e:=bY e
    cases e;obtain⟨al,e1,e2⟩:=C.rel.objs n _ a ho ha;obtain⟨hh,gg,dd,tt,oo⟩:=s;refine yS ((Rw e2).andThen .now) (by rw[cN,bN];kernel_rfl) ?_;refine ao (Dp a al i tt e2) ?_ λ_ _ z=>z;rintro u s' ⟨q,ob,D,rfl,rfl,hg,uH⟩;have jc:=D.nw (q,_) (.head _);refine ae ⟨_,_,_,rfl,⟨_,C.newest,rfl⟩,bJ.vM C H jc.2 ⟨_,jc.1⟩ (Kp.of (tB D) hg uH) ⟨a,Sub.append _ _ _ _ ha,jc.1⟩⟩
   ·cases e
  |_=>cases e
 |_=>cases e
end
end
section
open PySem.W.X
section
def Kh (a ns md B:Addr) (tk tm:Tok) (r:KN) (h1 h2:Int) (t1 t2:Tok):Frag:=[(a,kObj a ns B tk r.tq),(ns,eh (kO r h1 t1 md h2 t2) 3),(md,I9 tm a)]
variable {a ns md B:Addr} {tk tm:Tok} {r:KN} {h1 h2:Int} {t1 t2:Tok} {K:Frag} (l1:K.lookup a=some (kObj a ns B tk r.tq)) (l2:K.lookup ns=some (eh (kO r h1 t1 md h2 t2) 3)) (l3:K.lookup md=some (I9 tm a))
theorem B9:(Kh a ns md B tk tm r h1 h2 t1 t2).lookup a=some (kObj a ns B tk r.tq):=by
 unfold Kh;rw[az,cj]
theorem Gk(h:ns≠a):(Kh a ns md B tk tm r h1 h2 t1 t2).lookup ns=some (eh (kO r h1 t1 md h2 t2) 3):=by
 unfold Kh;rw[az,aP.mpr h];dsimp only;rw[az,cj]
theorem Pz(h:md≠a) (h':md≠ns):(Kh a ns md B tk tm r h1 h2 t1 t2).lookup md=some (I9 tm a):=by
 unfold Kh;rw[az,aP.mpr h];dsimp only;rw[az,aP.mpr h'];dsimp only;rw[az,cj]
theorem wN(e1:h.get? a=some (kObj a ns B tk r.tq)) (e2:h.get? ns=some (eh (kO r h1 t1 md h2 t2) 3)) (e3:h.get? md=some (I9 tm a)):(Kh a ns md B tk tm r h1 h2 t1 t2).In h:=by
 intro b o e;unfold Kh at e;rw[az]at e;split at e
 ·rename_i q;cases e;rw[gT.mp q];exact e1
 ·rw[az]at e;split at e
  ·rename_i q;cases e;rw[gT.mp q];exact e2
  ·rw[az]at e;split at e
   ·rename_i q;cases e;rw[gT.mp q];exact e3
   ·cases e
include l1 l2
theorem Ms(name:Str) {x:Option Value} (h:getL name (kO r h1 t1 md h2 t2)=some x):ownIn K name (.ref a)=some x:=by
 unfold ownIn;dsimp only;rw[l1];show nsIn K ns name=_;unfold nsIn;rw[l2];exact h
theorem kf_find(name:Str) {x:Option Value} (h:getL name (kO r h1 t1 md h2 t2)=some x):findIn K (.ref a) name=x.elim (some (fastBuiltinOwn "object" name)) (λv=>some (some v)):=by
 unfold findIn;dsimp only;rw[l1];show alongIn K name [.ref a,.type "object"]=_;unfold alongIn;rw[Ms l1 l2 name h];cases x with
 |some v=>rfl
 |none=>
  show alongIn K name [.type "object"]=_;simp only [alongIn,ownIn];cases fastBuiltinOwn "object" name<;>rfl
theorem PA:findIn K (.ref a) "__setattr__"=some (some (.builtin "object.__setattr__")):=by
 rw[kf_find l1 l2 "__setattr__" (x:=none) (by kernel_rfl)];kernel_rfl
theorem Mt:findIn K (.ref a) "obj"=some (some (.ref md)):=by
 rw[kf_find l1 l2 "obj" (x:=some (.ref md)) (by kernel_rfl)];rfl
omit l2
theorem Gn:plainOver K a=true:=by
 unfold plainOver clsIn;rw[l1];rfl
include l2 l3
omit l1 l2 in
theorem Ki:typeIn K (.ref md)=some (.type "member_descriptor"):=by
 unfold typeIn;dsimp only;rw[l3];rfl
omit l1 l2 in
theorem Gl:takesIn K (.ref md)=some true:=by
 unfold takesIn specialIn;rw[Ki l3];have:findIn K (.type "member_descriptor") "__set__"=some (some (.builtin "member_descriptor.__set__")):=by
  show fastLookup "member_descriptor" "__set__"=_;kernel_rfl
 rw[fW,this]
theorem Gm:takerIn K a "obj"=some (some (.ref md)):=by
 unfold takerIn;rw[Mt l1 l2,fW];show(takesIn K (.ref md)).map _=_
 rw[Gl l3];rfl
omit l2 in
theorem I5:slotIn K md a=some 0:=by
 unfold slotIn recIn clsIn;rw[l3,l1];show(if _ then _ else _)=_
 rw[aD (by simp)];rfl
end
section
variable {X:Bx} {A:Around} {fe:cn} {env:Env} {hd:Nat}
theorem vt{vs:List (Option AV)} (h:∀j:Nat,jo ρ (vs[j]?.join) (ws[j]?.join)) (hi:i<vs.length) (hv:bC ρ x v):
  ∀j:Nat,jo ρ ((vs.set i (some x))[j]?.join) (((ws++Array.replicate (i+1-ws.size) none).setIfInBounds i (some v))[j]?.join):=by
 intro j;have sz:i<(ws++Array.replicate (i+1-ws.size) (none:Option Value)).size:=by rw[Zm,Rz];omega
 rw[zq,Array.getElem?_setIfInBounds];by_cases z:i=j
 ·subst z;rw[aD rfl,aD rfl,aD hi,aD sz];exact⟨v,rfl,hv⟩
 ·rw[aC z,aC z];have q:((ws++Array.replicate (i+1-ws.size) (none:Option Value))[j]?).join=ws[j]?.join:=by
   rw[Array.getElem?_append];split
   ·rfl
   ·rename_i f_tup;have:ws[j]? =none:=NM (by omega);rw[this,Array.getElem?_replicate];split<;>rfl
  rw[q];exact h j
theorem sG(hz:ws.size<=n) (hi:i<n):((ws++Array.replicate (i+1-ws.size) none).setIfInBounds i (some v)).size<=n:=by
 rw[Array.size_setIfInBounds,Zm,Rz];omega
theorem Gr{b:Addr} {ob EB:Obj} {pre post:List (Addr×Obj)} (hs:mA h L=pre++(a,ob)::post) (N:News kE L h' (pre++(a,EB)::post)) (h1:b≠a) (h2:b≠L) (e:h.get? b=some o):h'.get? b=some o:=by
 have q:=i5 h2 e;rw[hs]at q;rcases au.mp q with q|q
 ·exact(N (b,o) (aI _ q)).1
 ·rcases aK.mp q with q|q
  ·exact absurd (dg Prod.fst q) h1
  ·exact(N (b,o) (aW _ (ah _ q))).1
theorem rm(G:bZ X) (x y:AV) (v u:Value) (nm:Str):aU X A fe env hd (λρ=>bC ρ x v/\bC ρ y u) (setAttr v nm u) (gf X.P x nm y) UR:=by
 intro ρ κ l σ s C H ⟨hv,hu⟩ r st e;unfold gf at e;cases x with
 |ref n=>
  obtain⟨a,ha,rfl⟩:=hv;have e2:=bI e;clear e;obtain⟨o,ho,e⟩:=e2;obtain⟨Z1,vO,X3⟩:=id C.ns;cases o with
  |inst c d=>
   dsimp only at e;split at e
   ·rename_i hc;obtain⟨ci,rT,hx⟩:=Hj (c:=c) hc;have e2:=bI e;clear e;obtain⟨o,jc,e⟩:=e2;cases o with
    |ns m=>
     dsimp only at e;split at e
     case isFalse=>cases e
     rename_i hlen;obtain⟨rfl,rfl⟩:=fD e;obtain⟨ad,es,k,QB,ea,ed,rn,I⟩:=sh C ho ha jc;have K:=G.cls c ci rT;have hh:hasDictIn X.K c=true:=K.cd.trans (K.n0 (λq=>by rw[q]at hx;cases hx));have adL:ad≠env.locals:=λq=>C.lr (q▸bB QB);obtain⟨pre,post,hs,p1,p2⟩:=pC (lF s.heap env.locals) (i5 adL ed);have N:News kE env.locals s.heap (pre++(ad,dictOf es k)::post):=by rw[<-hs];exact ng _ _
     have ht:takerIn X.K c nm=some none:=by unfold takerIn;rw[K.attrs _ hx];rfl
     have hz:(putL nm (PyData.keyHash X.w.params nm) (.str nm (s.toks+1)) u es).length<=1000:=by
      have:=rq nm (PyData.keyHash X.w.params nm) (.str nm (s.toks+1)) u es;have:=rn.length;omega
     refine set_plain (C.rel.zv G) I K.sa (osa_dict (s:={s with toks:=s.toks+1}) (tZ vO) N (C.rel.zv G) I rfl K.plain ht hh rn.JE p1 p2 (putName_dict ..) rfl hz λh' F' N'=> ?_);exact⟨(),ρ,κ,rfl,trivial,bJ.ledger (s':={s with heap:=h',toks:=_}) C H QB vO hs F' N' rfl rfl ⟨_,_,(N' _ (aW _ (aj ..))).1,rn.put _ _ hu⟩⟩
    |_=>cases e
   ·cases e
  |slots c vs=>
   have e2:=vY e;clear e;obtain⟨names,MI,e⟩:=e2;split at e
   case isFalse=>cases e
   rename_i hlen;cases AR:idxOf nm names with
   |none=>rw[AR]at e;cases e
   |some i=>
    rw[AR]at e;obtain⟨rfl,rfl⟩:=fD e;have hi:i<vs.length:=by rw[<-hlen];exact(bx.mp (kl AR)).1
    have aL:a≠env.locals:=λq=>C.lr (q▸bB ha);cases c with
    |base c=>
     obtain⟨dx,ws,ea,L3,hz,I,AW,Js⟩:=qg C ho ha;have TH:dx≠a:=λq=>C.rel.dis a (bB ha) (q▸AW);have nL:dx≠env.locals:=λq=>C.lk (q▸AW);obtain⟨ci,rT,rfl⟩:=MI;have K:=G.cls c ci rT;obtain⟨p,S⟩:=K.slots i nm (kl AR);obtain⟨pre,post,hs,p1,p2⟩:=pC (lF s.heap env.locals) (i5 aL ea);have N:News kE env.locals s.heap (pre++(a,⟨.ref c,some dx,.plain,ws⟩)::post):=by rw[<-hs];exact ng _ _
     have ht:takerIn X.K c nm=some (some (.ref p)):=by unfold takerIn;rw[S.find,fW];dsimp only;rw[S.takes];rfl
     have DU:i<1000:=by have:=K.few;omega
     refine set_plain (C.rel.zv G) I K.sa (osa_descr (s:={s with toks:=s.toks+1}) KF.slot_mset (C.rel.zv G) I K.plain ht S.ty ?_);refine slot_set (s:={s with toks:=s.toks+1}) (tZ vO) N (C.rel.zv G) I S.at_ DU p1 p2 rfl rfl λh' F' N'=> ?_;exact⟨(),ρ,κ,rfl,trivial,bJ.ledger (s':={s with heap:=h',toks:=_}) C H ha vO hs F' N' rfl rfl ⟨_,_,rfl,⟨dx,(N' _ (aW _ (aj ..))).1,AW,Gr hs N' TH nL Js⟩,vt L3 hi hu,by rw[aV];exact sG hz hi⟩⟩
    |ref k=>
     obtain⟨c,hok,rfl⟩:=MI;obtain⟨cv,ws,⟨ak,Jx,rfl⟩,⟨dx,ea,AW,Js⟩,L3,hz⟩:=C.rel.objs n _ a ho ha;have TH:dx≠a:=λq=>C.rel.dis a (bB ha) (q▸AW);have nL:dx≠env.locals:=λq=>C.lk (q▸AW);have Qk:i=0/\nm="obj":=by
      have q:=kl AR;cases i with
      |zero=>exact⟨rfl,(bV q).symm⟩
      |succ j=>cases q
     obtain⟨rfl,rfl⟩:=Qk;obtain⟨ac,HX,ns,md,B,r,tk,h1,t1,h2,t2,tm,e1,e2,m2,e3,m3,f1,f2⟩:=C.rel.objs k _ ak hok Jx;have n1:ns≠ak:=by rintro rfl;rw[e1]at e2;exact absurd (c6 (dg Obj.cls (bV e2))) (by decide)
     have n2:md≠ak:=by rintro rfl;rw[e1]at e3;exact absurd (c6 (dg Obj.cls (bV e3))) (by decide)
     have n3:md≠ns:=by rintro rfl;rw[e2]at e3;exact absurd (c6 (dg Obj.cls (bV e3))) (by decide)
     have q1:=B9 (a:=ak) (ns:=ns) (md:=md) (B:=B) (tk:=tk) (tm:=tm) (r:=r) (h1:=h1) (h2:=h2) (t1:=t1) (t2:=t2);have q2:=Gk (md:=md) (B:=B) (tk:=tk) (tm:=tm) (r:=r) (h1:=h1) (h2:=h2) (t1:=t1) (t2:=t2) n1;have q3:=Pz (B:=B) (tk:=tk) (tm:=tm) (r:=r) (h1:=h1) (h2:=h2) (t1:=t1) (t2:=t2) n2 n3;have WY:=wN e1 e2 e3;have I:InstAt s.heap a ⟨.ref ak,some dx,.plain,ws⟩ ak (some emptyDict):=⟨ea,rfl,rfl,Js⟩;obtain⟨pre,post,hs,p1,p2⟩:=pC (lF s.heap env.locals) (i5 aL ea);have N:News kE env.locals s.heap (pre++(a,⟨.ref ak,some dx,.plain,ws⟩)::post):=by rw[<-hs];exact ng _ _
     refine set_plain WY I (PA q1 q2) (osa_descr (s:={s with toks:=s.toks+1}) KF.slot_mset WY I (Gn q1) (Gm q1 q2 q3) (Ki q3) ?_);refine slot_set (s:={s with toks:=s.toks+1}) (tZ vO) N WY I (I5 q1 q3) (by decide) p1 p2 rfl rfl λh' F' N'=> ?_;exact⟨(),ρ,κ,rfl,trivial,bJ.ledger (s':={s with heap:=h',toks:=_}) C H ha vO hs F' N' rfl rfl ⟨_,_,⟨ak,Jx,rfl⟩,⟨dx,(N' _ (aW _ (aj ..))).1,AW,Gr hs N' TH nL Js⟩,vt L3 hi hu,by rw[aV];exact sG hz hi⟩⟩
    |_=>exact MI.elim
  |_=>cases e
 |_=>cases e
end
end
section
open PySem.W.X
section
variable {prog:Program} {w:World} {A:Around} {E:Value->Shared->Prop} {s:Shared} {d:Addr} {gZ:List (Int×Value)} {ep:Nat} {k:Int} {t:Tok} {v:Value}
theorem A5{Q:Unit->Shared->Prop} (hm:s.heap.DictAt (intKind prog w) d gZ ep) (hsz:gZ.length<=sizeLine)
  (hQ:∀h',h'.DictAt (intKind prog w) d (stored gZ k v) (if(valueAt gZ k).isSome then ep else ep+1)->Heap.SameBut d s.heap h'->Q () {s with heap:=h',toks:=s.toks+1}):
  wpAny (model prog w) A (dictSet d (.int k t) v) Q E s:=by
 have hkey:=int_is prog w k t;obtain⟨o,es,ho,hc,hd,hk,hp,hn⟩:=hm;have hlen:es.toList.length=gZ.length:=hp.length;have xC:es.size<=sizeLine:=by rw[jC]at hlen;omega
 have yL:(es.findIdx? λe=>(intKind prog w).is k e.key)=gZ.findIdx? λkv=>decide (kv.1=k):=by
  have q:=hp.findIdx k;rw[<-q];cases es;simp
 unfold dictSet
 try with_reducible refine aQ ?_
 refine aa ((intKind prog w).pyHash hkey ?_);unfold dictSetHashed
 try with_reducible refine aQ ?_
 refine aa (Ze (s:={s with toks:=s.toks+1}) hkey ho hd hk ?_);cases hi:gZ.findIdx? λkv=>decide (kv.1=k)with
 |some i=>
  have DU:=yL.trans hi;rw[DU];have hin:(gZ.any λkv=>decide (kv.1=k))=true:=any_of_findIdx_some hi;have TZ:(valueAt gZ k).isSome=true:=by
   obtain⟨x,hx,Mz⟩:=List.any_eq_true.mp hin;unfold valueAt;rw[zl];exact zr.mpr ⟨x,hx,Mz⟩
  rw[aD TZ]at hQ;refine aa (jV (aa (wpAny_updateDict (s:={s with toks:=s.toks+1}) ho hd (CG ?_))));refine hQ _ ⟨_,_,cz _ ho (u7 (Obj.data_mapDict hd _)),hc.mapDict _,Obj.data_mapDict hd _,hk.modify _ _, ?_, ?_⟩ (hM ..)
  ·have hl:(es.toList.findIdx? λe=>(intKind prog w).is k e.key)=some i:=by
    rw[<-DU,yL];exact hp.findIdx k
   have:=hp.modify hn hl v;unfold stored;rw[aD hin];cases es;simpa using this
  ·unfold stored;rw[aD hin,keys_map_store];exact hn
 |none=>
  have DU:=yL.trans hi;rw[DU];have hnot:=Lf hi;have hin:¬(gZ.any λkv=>decide (kv.1=k))=true:=λq=>by
   obtain⟨x,hx,Mz⟩:=List.any_eq_true.mp q;exact hnot (aR.mpr ⟨x,hx,dE Mz⟩)
  have TZ:¬(valueAt gZ k).isSome=true:=λq=>by
   unfold valueAt at q;rw[zl,zr]at q;obtain⟨x,hx,Mz⟩:=q;exact hnot (aR.mpr ⟨x,hx,dE Mz⟩)
  rw[aC TZ]at hQ;refine aa (jV (Ro (hz:=xC) (s:={s with toks:=s.toks+1}) ho hd ?_));refine hQ _ ⟨_,_,cz _ ho (u7 (lU hd _)),hc.mapDictKeys _,lU hd _,hk.push hkey _, ?_, ?_⟩ (hM ..)
  ·have:=hp.append hkey ((intKind prog w).hash k) v;unfold stored;rw[aC hin];cases es;simpa using this
  ·unfold stored;rw[aC hin,bq,bT];refine⟨hn,by simp,λa ha b hb q=> ?_⟩;rw[aS,qX,aA]at hb;exact hnot (by have z:a=k:=q.trans hb;rw[<-z];exact ha)
theorem z8{Q:Unit->Shared->Prop} (hm:s.heap.DictAt (intKind prog w) d gZ ep) (hsz:gZ.length<=sizeLine)
  (hQ:∀h',h'.DictAt (intKind prog w) d (stored gZ k v) (if(valueAt gZ k).isSome then ep else ep+1)->Heap.SameBut d s.heap h'->Q () {s with heap:=h',toks:=s.toks+1}):
  wpAny (model prog w) A (setItem (.ref d) (.int k t) v) Q E s:=by
 have hT:=hm.dictOf.typeIs;unfold setItem;refine aQ (aa (oE hT (by decide) ?_));refine aa (d6 (name:=Str.ofString "__setitem__") hT Zh (fV Zh hT entry_dict_setitem ?_ (args_dict_setitem _ _ _)));show wpAny _ _ (Builtin.Dict.notOrdered "__setitem__" ⟨[.ref d,.int k t,v],[]⟩>>=_) _ _ s;refine aa (Oz hT ?_);show wpAny _ _ (dictSet d (.int k t) v>>=_) _ _ s;exact aa (A5 hm hsz λh' a b=>ae ⟨.none,rfl,ae (hQ h' a b)⟩)
theorem delItem_at{Q:Unit->Shared->Prop} (hm:s.heap.DictAt (intKind prog w) d gZ ep) (hsz:gZ.length<=sizeLine) (hv:(valueAt gZ k).isSome=true)
  (hQ:∀h',h'.DictAt (intKind prog w) d (without gZ k) (ep+1)->Heap.SameBut d s.heap h'->Q () {s with heap:=h',toks:=s.toks+1}):
  wpAny (model prog w) A (delItem (.ref d) (.int k t)) Q E s:=by
 have hT:=hm.dictOf.typeIs;have hkey:=int_is prog w k t;obtain⟨o,es,ho,hc,hd,hk,hp,hn⟩:=hm;have hlen:es.toList.length=gZ.length:=hp.length;have xC:es.size<=sizeLine:=by rw[jC]at hlen;omega
 have yL:(es.findIdx? λe=>(intKind prog w).is k e.key)=gZ.findIdx? λkv=>decide (kv.1=k):=by
  have q:=hp.findIdx k;rw[<-q];cases es;simp
 unfold delItem;refine aQ (aa (oE hT (by decide) ?_));refine aa (d6 (name:=Str.ofString "__delitem__") hT PySem.F.slot_dict_delitem (fV PySem.F.slot_dict_delitem hT PySem.F.entry_dict_delitem ?_ (PySem.F.args_dict_delitem_2 _ _)));unfold Builtin.«dict.__delitem__»;refine aa ?_;unfold Builtin.Dict.dictSlotArgs;refine aa (Oz hT ?_);show wpAny _ _ (pure (Value.ref d,Value.int k t)) _ _ s;refine ae ?_;show wpAny _ _ (Builtin.Dict.takeOut d (.int k t)>>=_) _ _ s;refine aa ?_;unfold Builtin.Dict.takeOut
 try with_reducible refine aQ ?_
 refine aa ((intKind prog w).pyHash hkey ?_);refine aa (Ze (s:={s with toks:=s.toks+1}) hkey ho hd hk ?_);cases hi:gZ.findIdx? λkv=>decide (kv.1=k)with
 |none=>
  exfalso
  have hnot:=Lf hi;unfold valueAt at hv;rw[zl,zr]at hv;obtain⟨x,hx,Mz⟩:=hv;exact hnot (aR.mpr ⟨x,hx,dE Mz⟩)
 |some i=>
  have DU:=yL.trans hi;rw[DU];have hl:(es.toList.findIdx? λe=>(intKind prog w).is k e.key)=some i:=by rw[<-DU,yL];exact hp.findIdx k
  obtain⟨e,he,_,_⟩:=hp.at hl;have Qt:es[i]? =some e:=by rw[<-he];cases es;simp
  refine aa (wpAny_dictEntries (s:={s with toks:=s.toks+1}) ho hd ?_);rw[Qt];refine aa (Ro (hz:=xC) (s:={s with toks:=s.toks+1}) ho hd (ae ?_));refine aa (wpAny_letGo (ae ⟨.none,rfl,ae (hQ _ ⟨_,_,cz _ ho (u7 (lU hd _)),hc.mapDictKeys _,lU hd _,hk.erase _, ?_,nodup_without hn k⟩ (hM ..))⟩));have:=hp.erase hn hl;cases es;simpa using this
end
section
variable {X:Bx} {A:Around} {fe:cn} {env:Env} {hd:Nat}
theorem fQ.length {ρ:List Addr}:∀{es:List (Int×AV)} {gZ:List (Int×Value)},fQ ρ es gZ->es.length=gZ.length
 |[],[],_=>rfl
 |_::_,_::_,⟨_,r⟩=>by rw[aq,aq,r.length]
theorem fQ.keys {ρ:List Addr}:∀{es:List (Int×AV)} {gZ:List (Int×Value)},fQ ρ es gZ->es.map (·.1)=gZ.map (·.1)
 |[],[],_=>rfl
 |_::_,_::_,⟨⟨h,_⟩,r⟩=>by rw[aS,aS,r.keys,h]
theorem rx(k:Int) (v:Value):∀{gZ:List (Int×Value)} (_:k∉gZ.map (·.1)),(gZ.map λkv=>if kv.1=k then(kv.1,v)else kv)=gZ
 |[],_=>rfl
 |p::r,h=>by
  rw[aS,aK,W7]at h;rw[aS,aC (λq=>h.1 q.symm),rx k v h.2]
theorem fQ.put {ρ:List Addr} {k:Int} {x:AV} {v:Value} (hv:bC ρ x v):∀{es:List (Int×AV)} {gZ:List (Int×Value)},fQ ρ es gZ->(gZ.map (·.1)).Nodup->fQ ρ (dictPut k x es) (stored gZ k v)
 |[],[],_,_=>⟨⟨rfl,hv⟩,trivial⟩
 | (a,y)::es,(b,u)::gZ,⟨⟨h1,h2⟩,r⟩,hn=>by
  simp only at h1 h2
  subst h1;rw[aS,bA]at hn;unfold dictPut;by_cases z:a=k
  ·subst z;rw[aD rfl];have:stored ((a,u)::gZ) a v=(a,v)::gZ:=by
    unfold stored;rw[aD (by simp),aS,aD rfl,rx a v hn.1]
   rw[this];exact⟨⟨rfl,hv⟩,r⟩
  ·rw[aC z];have:stored ((a,u)::gZ) k v=(a,u)::stored gZ k v:=by
    unfold stored;rw[wd,mC z,J0];split
    ·rw[aS,aC z]
    ·rfl
   rw[this];exact⟨⟨rfl,h2⟩,r.put hv hn.2⟩
theorem fQ.without {ρ:List Addr} {k:Int}:∀{es:List (Int×AV)} {gZ:List (Int×Value)},fQ ρ es gZ->fQ ρ (es.filter (·.1 !=k)) (PySem.without gZ k)
 |[],[],_=>trivial
 | (a,y)::es,(b,u)::gZ,⟨⟨h1,h2⟩,r⟩=>by
  simp only at h1 h2
  subst h1;unfold PySem.without;rw[fX,fX];by_cases z:a=k
  ·subst z;simp only [oH,ne_eq,not_true_eq_false,decide_false,bU,gH];exact r.without
  ·have e1:(a !=k)=true:=by rw[xv];exact z
   simp only [e1,ne_eq,z,not_false_eq_true,Rt,jM];exact⟨⟨rfl,h2⟩,r.without⟩
theorem nC(k:Int) (x:AV):∀es:List (Int×AV),(dictPut k x es).length<=es.length+1
 |[]=>aJ _
 | (a,y)::es=>by
  unfold dictPut;split
  ·simp
  ·have:=nC k x es;simp only [aq];omega
theorem RJ:vs.toArray.setIfInBounds i v=(vs.set i v).toArray:=by simp
theorem Ai(vs ws:List Value) (n:Nat) (f:Array Value->Array Value) (h:f vs.toArray=ws.toArray):∃n',Obj.mapSeq f (gk vs n)=gk ws n':=by
 obtain⟨n',e⟩:=Obj.data_mapSeq (o:=gk vs n) rfl f;refine⟨n', ?_⟩;rw[h]at e;show Obj.mapSeq f (gk vs n)=_;cases hq:Obj.mapSeq f (gk vs n)with
 |mk c d dt sl=>
  rw[hq]at e;simp only at e
  subst e;have h1:(Obj.mapSeq f (gk vs n)).cls=c:=by rw[hq]
  have h2:(Obj.mapSeq f (gk vs n)).dict=d:=by rw[hq]
  have h3:(Obj.mapSeq f (gk vs n)).slots=sl:=by rw[hq]
  cases h1;cases h2;cases h3
  rfl
theorem bJ.lst {m:Nat} {ws:List Value} {f:Array Value->Array Value} {t:Nat} (C:Cfg X A fe env ρ κ l σ s) (H:jq X A env hd ρ κ s) (ha:ρ[n]? =some a)
  (eo:s.heap.get? a=some (gk vs m)) (hf:f vs.toArray=ws.toArray) (hr:bp ρ xs ws) (hl:xs.length<=20000):bJ X A fe env hd ρ κ s ⟨l,σ.set n (.list xs)⟩ ρ κ {s with heap:=s.heap.update a (Obj.mapSeq f),toks:=t}:=by
 obtain⟨n',e⟩:=Ai vs ws m f hf;have hg:(s.heap.update a (Obj.mapSeq f)).get? a=some (gk ws n'):=by rw[<-e];exact cz _ eo (by rw[e];rfl)
 exact bJ.put (s':={s with heap:=s.heap.update a (Obj.mapSeq f),toks:=t}) C H ha ⟨_,hg⟩ (λb ob hb e=>(S9 _ _ _ _ hb).trans e) rfl rfl ⟨ws,n',hg,hr,hl⟩
theorem wC{prog:Program} {w:World} {A:Around} {E:Value->Shared->Prop} {l:Addr} {ne:Nat} {k:Int} {t:Tok} {v:Value} {Q:Unit->Shared->Prop} (ho:s.heap.get? l=some o) (hc:o.cls= .type "list") (hd:o.data= .seq items ne)
  (h0:0<=k) (Qq:k<2 ^ 63) (hn:k<items.size) (hQ:Q () {s with heap:=s.heap.update l (Obj.mapSeq (·.setIfInBounds k.toNat v))}):
  wpAny (model prog w) A (setItem (.ref l) (.int k t) v) Q E s:=by
 have hT:s.TypeIs (.ref l) "list":=⟨_,ho,hc⟩;unfold setItem
 try with_reducible refine aQ ?_
 refine aa (oE hT (by decide) ?_);refine aa (d6 (name:=Str.ofString "__setitem__") hT Zg (fV Zg hT entry_list_setitem ?_ (args_list_setitem _ _ _)));show wpAny _ _ (Builtin.List.listSubscript? (.int k t)>>=_) _ _ s;refine aa (Le (fitsIndex_of h0 Qq) ?_);clear Qq;obtain⟨j,rfl⟩:=Int.eq_ofNat_of_zero_le h0;have hj:j<items.size:=by omega
 show wpAny _ _ ((seqItemAt l j>>=λr=>pure (r.map (j, ·)))>>=_) _ _ s;refine aa (aa (wpAny_seqItemAt ho hd (ae ?_)));rw[Ih hj];show wpAny _ _ (setSeqItemAt l j v>>=_) _ _ s;refine aa (wpAny_setSeqItemAt ho hd ?_);first
  |exact aa (ae (ae ⟨.none,rfl,ae hQ⟩))
  |exact ae ⟨.none,rfl,ae hQ⟩
theorem xV(G:bZ X) (x y z:AV) (o i v:Value):aU X A fe env hd (λρ=>bC ρ x o/\bC ρ y i/\bC ρ z v) (setItem o i v) (pH x y z) UR:=by
 intro ρ κ l σ s C H ⟨ho,hi,hv⟩ r st e;unfold pH at e;split at e
 ·rename_i n k;obtain⟨a,ha,rfl⟩:=ho;obtain⟨t,rfl⟩:=hi;have e2:=bI e;clear e;obtain⟨ob,DS,e⟩:=e2;split at e
  ·rename_i xs;split at e
   case isFalse=>cases e
   rename_i hk;obtain⟨rfl,rfl⟩:=fD e;obtain⟨vs,m,eo,rv,hlen⟩:=C.rel.objs n _ a DS ha;refine wC eo rfl rfl hk.1 (by omega) (by rw[aO,<-rv.length];omega) ⟨(),ρ,κ,rfl,trivial,bJ.lst (t:=s.toks) (ws:=vs.set k.toNat v) C H ha eo (by simp) (rv.set k.toNat hv) (by rw[aV];exact hlen)⟩
  ·rename_i es ep;split at e
   case isFalse=>cases e
   rename_i hk;obtain⟨rfl,rfl⟩:=fD e;obtain⟨gZ,jc,rk,hlen⟩:=C.rel.objs n _ a DS ha;have q:=(fQ.lookup (k:=k) rk).isSome;refine z8 jc (by rw[<-rk.length];have:=b9;omega) λh' hd2 hs=> ?_;rw[q]at hd2;refine⟨(),ρ,κ,rfl,trivial,bJ.put (s':={s with heap:=h',toks:=s.toks+1}) C H ha (let ⟨o,_,e,_⟩:=hd2;⟨o,e⟩) (λb ob hb e=>(hs.2 b hb).trans e) rfl rfl ⟨_,hd2,rk.put hv jc.nodup, ?_⟩⟩;have:=nC k z es;omega
  ·cases e
 ·cases e
theorem x7(G:bZ X) (x y:AV) (o i:Value):aU X A fe env hd (λρ=>bC ρ x o/\bC ρ y i) (delItem o i) (lR x y) UR:=by
 intro ρ κ l σ s C H ⟨ho,hi⟩ r st e;unfold lR at e;split at e
 ·rename_i n k;obtain⟨a,ha,rfl⟩:=ho;obtain⟨t,rfl⟩:=hi;have e2:=bI e;clear e;obtain⟨ob,DS,e⟩:=e2;split at e
  ·rename_i es ep;split at e
   case isFalse=>cases e
   rename_i hk;obtain⟨rfl,rfl⟩:=fD e;obtain⟨gZ,jc,rk,hlen⟩:=C.rel.objs n _ a DS ha;have q:=(fQ.lookup (k:=k) rk).isSome;refine delItem_at jc (by rw[<-rk.length];have:=b9;omega) (q.trans hk) λh' hd2 hs=> ?_;refine⟨(),ρ,κ,rfl,trivial,bJ.put (s':={s with heap:=h',toks:=s.toks+1}) C H ha (let ⟨o,_,e,_⟩:=hd2;⟨o,e⟩) (λb ob hb e=>(hs.2 b hb).trans e) rfl rfl ⟨_,hd2,rk.without, ?_⟩⟩;have:=rZ (λp:Int×AV=>p.1 !=k) es;omega
  ·cases e
 ·cases e
end
end
section
open PySem.W.X
def mn:Meth->Value
 | .own f=> .ref f
 | .lst i=> .builtin ("list."++i)
 | .dct i=> .builtin ("dict."++i)
 | .st i=> .builtin ("set."++i)
theorem pz:∀{ns:List Int},(ns.all λi=>decide (i.natAbs<1000))=true->PyData.weightAll (ns.map .int)<=11*ns.length
 |[],_=>by simp [PyData.weightAll]
 |i::ns,h=>by
  rw[pe,cG,eC]at h;have ih:=pz h.2;rw[aS];unfold PyData.weightAll;have:PyData.weight (.int i)<=10:=by
   unfold PyData.weight;split
   ·omega
   ·rename_i q;have:i.natAbs.log2<10:=(Nat.log2_lt (by simpa using q)).mpr (by omega);omega
  rw[aq];omega
theorem uS{ns:List Int} (h1:ns.length<100) (h2:(ns.all λi=>decide (i.natAbs<1000))=true):PyData.layable0 (.list (ns.map .int))=true:=by
 unfold PyData.layable0;rw[cG,cG];have w:=pz h2;refine⟨⟨?_, ?_⟩, ?_⟩
 ·simp only [PyData.canLay0];exact ke_canLayAll0 ns
 ·rw[eC];simp only [PyData.depth];rw[ke_depthAll]
  decide
 ·rw[eC];simp only [PyData.weight];omega
section
variable {X:Bx} {A:Around} {fe:cn} {env:Env} {hd:Nat}
theorem CN(h:bp ρ [x] vs):∃v,vs=[v]/\bC ρ x v:=by
 match vs,h with
 |[v],h=>exact⟨v,rfl,h.1⟩
theorem RF(h:bp ρ [] vs):vs=[]:=by
 match vs,h with
 |[],_=>rfl
theorem qD(G:bZ X) (cf:ux) (m:Meth) (hm:m.own? =false) (x:AV) (xs:List AV) (v:Value) (vs:List Value):
  aU X A fe env hd (λρ=>bC ρ x v/\bp ρ xs vs) (call (mn m) (v::vs)) (gh cf m x xs) VR:=by
 intro ρ κ l σ s C H ⟨hv,mS⟩ r st e;unfold gh at e;split at e
 ·cases hm
 ·rename_i n y;obtain⟨a,ha,rfl⟩:=hv;obtain⟨u,rfl,hu⟩:=CN mS;obtain⟨ys,tP,e⟩:=hZ e;split at e
  case isFalse=>cases e
  rename_i hl
  replace e:=gw e
  cases e;obtain⟨ws,k,eo,rv,_⟩:=C.rel.objs n _ a tP ha;refine fV slot_list_append ⟨_,eo,rfl⟩ entry_list_append ?_ (args_list_append _ _);show wpAny _ _ (updateSeq a (·.push u)>>=λ_=>ret .none) _ _ s;refine aa (wpAny_updateSeq (_hz':=by rw[Array.size_push,aO,<-rv.length];have:=b9;omega) (hz:=by rw[aO,<-rv.length];have:=b9;omega) eo rfl (ae ⟨.none,rfl,.none,ρ,κ,rfl,rfl, ?_⟩));exact bJ.lst (t:=s.toks) (ws:=ws++[u]) C H ha eo (by simp) (rv.snoc hu) (by rw[af];simp;omega)
 ·rename_i n;obtain⟨a,ha,rfl⟩:=hv;cases RF mS
  obtain⟨ys,tP,e⟩:=hZ e;cases hy:ys.getLast? with
  |none=>rw[hy]at e;cases e
  |some y=>
   rw[hy]at e
   replace e:=gw e
   cases e;obtain⟨ws,k,eo,rv,hlen⟩:=C.rel.objs n _ a tP ha;obtain⟨u,hu,ru⟩:=rv.last hy;have apart_at:ws≠[]:=by rintro rfl;cases hu
   have RV:ws.toArray[ws.toArray.size-1]? =some u:=by
    rw[oa]at hu;simpa using hu
   refine Xb PySem.F.slot_list_pop ⟨_,eo,rfl⟩ PySem.F.entry_list_pop (PySem.F.args_list_pop_1 _) (PySem.MeetsSeq.list_pop_last a _ k u RV (by rw[aO,<-rv.length];exact cy hlen b9)) ⟨eo, ?_⟩;refine⟨y,ρ,κ,rfl,ru,bJ.lst (t:=s.toks) (ws:=ws.dropLast) C H ha eo ?_ rv.dropLast ?_⟩
   ·rw[aO,List.eraseIdxIfInBounds_toArray,List.eraseIdx_eq_take_drop_succ,List.dropLast_eq_take];have:0<ws.length:=vb.mpr apart_at;rw[show ws.length-1+1=ws.length by omega,c9,aX]
   ·rw[List.length_dropLast];omega
 ·rename_i n;obtain⟨a,ha,rfl⟩:=hv;cases RF mS
  obtain⟨ys,tP,e⟩:=hZ e
  replace e:=gw e
  cases e;obtain⟨ws,k,eo,rv,hlen⟩:=C.rel.objs n _ a tP ha;refine Xb PySem.F.slot_list_clear ⟨_,eo,rfl⟩ PySem.F.entry_list_clear (PySem.F.args_list_clear_1 _) (PySem.AutoSeq1.list_clear_list_0 a _ k (by rw[aO,<-rv.length];exact cy hlen b9)) ⟨eo, ?_⟩;exact⟨.none,ρ,κ,rfl,rfl,bJ.lst (t:=s.toks) (ws:=[]) C H ha eo rfl trivial (bW _)⟩
 ·rename_i n k;obtain⟨a,ha,rfl⟩:=hv;obtain⟨u,rfl,hu⟩:=CN mS;obtain⟨b,hb,rfl⟩:=hu;obtain⟨ys,tP,e⟩:=hZ e;obtain⟨zs,RP,e⟩:=hZ e;split at e
  ·cases e
  ·split at e
   case isFalse=>cases e
   rename_i hnk hl
   replace e:=gw e
   cases e;obtain⟨ws,j,eo,rv,hlen⟩:=C.rel.objs n _ a tP ha;obtain⟨us,j',y0,zu,X6⟩:=C.rel.objs k _ b RP hb;refine Xb PySem.F.slot_list_extend ⟨_,eo,rfl⟩ PySem.F.entry_list_extend (PySem.F.args_list_extend_2 _ _) (PySem.AutoSeq1.list_extend_list_list_0 a _ j b _ j' ?_ ?_ ?_) ⟨eo,y0, ?_⟩
   ·have:Builtin.List.listTooLong (ws.toArray.size+us.toArray.size)=false:=by
     unfold Builtin.List.listTooLong;rw[aO,aO,<-rv.length,<-zu.length];rw[ia];have:=b9;omega
    rw[this,HK];exact bL
   ·rw[aO,<-rv.length];exact cy hlen b9
   ·rw[aO,aO,<-rv.length,<-zu.length];have:=b9;omega
   ·exact⟨.none,ρ,κ,rfl,rfl,bJ.lst (t:=s.toks) (ws:=ws++us) C H ha eo (by simp) (rv.append zu) (by rw[af];omega)⟩
 ·rename_i n k;obtain⟨a,ha,rfl⟩:=hv;obtain⟨u,rfl,hu⟩:=CN mS;obtain⟨t,rfl⟩:=hu;obtain⟨ys,tP,e⟩:=hZ e;obtain⟨i,hi,e⟩:=jF e;cases e;obtain⟨ws,j,eo,rv,hlen⟩:=C.rel.objs n _ a tP ha;unfold Ct at hi;split at hi
  ·rename_i ns hns;split at hi
   ·rename_i hc;cases hi;exact index_list_ints (cW eo) (rv.ints hns) (uS hc.1 hc.2.1) hc.2.2 ⟨_,ρ,κ,rfl,⟨_,rfl⟩,bJ.toks C H⟩
   ·cases hi
  ·cases hi
 ·rename_i n k;obtain⟨a,ha,rfl⟩:=hv;obtain⟨u,rfl,hu⟩:=CN mS;obtain⟨t,rfl⟩:=hu;have e2:=bI e;clear e;obtain⟨ob,DS,e⟩:=e2;split at e
  ·rename_i es ep;cases e;obtain⟨gZ,jc,rk,hlen⟩:=C.rel.objs n _ a DS ha;have q:=fQ.lookup (k:=k) rk;refine call_meetsIn PySem.F.slot_dict_get jc.dictOf.typeIs PySem.F.entry_dict_get (PySem.F.args_dict_get_2 _ _) (meets_dict_get (intKind X.prog X.w) a (int_is X.prog X.w k t) (C.s8 G ha)) ⟨_,jc.dictOf.mapOf, ?_⟩;refine⟨_,ρ,κ,rfl, ?_,bJ.toks C H⟩;cases hx:es.lookup k with
   |none=>rw[hx]at q;rw[q];rfl
   |some x=>rw[hx]at q;obtain⟨v,hv,rv⟩:=q;rw[hv];exact rv
  ·cases e
 ·rename_i n;obtain⟨a,ha,rfl⟩:=hv;cases RF mS
  have e2:=bI e;clear e;obtain⟨ob,DS,e⟩:=e2;split at e
  ·rename_i es ep
   replace e:=bY e
   cases e;obtain⟨gZ,jc,rk,hlen⟩:=C.rel.objs n _ a DS ha;refine call_meetsIn PySem.F.slot_dict_values jc.dictOf.typeIs PySem.F.entry_dict_values (PySem.F.args_dict_values_1 _) (meets_dict_values (intKind X.prog X.w) a (C.s8 G ha)) ⟨⟨_,jc.dictOf⟩, ?_⟩;exact⟨_,_,_,rfl,⟨_,C.newest,rfl⟩,bJ.push C H (t:=s.toks) rfl λeo=>⟨a,Sub.append _ _ _ _ ha,eo⟩⟩
  ·cases e
 ·rename_i n k;obtain⟨a,ha,rfl⟩:=hv;obtain⟨u,rfl,hu⟩:=CN mS;obtain⟨t,rfl⟩:=hu;have e2:=bI e;clear e;obtain⟨ob,DS,e⟩:=e2;split at e
  ·rename_i ys;split at e
   case isFalse=>cases e
   rename_i hl
   replace e:=gw e
   cases e;obtain⟨hS,hlen⟩:=C.rel.objs n _ a DS ha;refine call_set_add (int_is X.prog X.w k t) rfl hS (by unfold scanBound;omega) λh' hs Sy=> ?_;have hS2:h'.SetOf (intKind X.prog X.w) a (λk'=>(if ys.contains k then ys else ys++[k]).contains k') (if ys.contains k then ys else ys++[k]).length:=by
    refine SetOf_congr Sy (λk'=> ?_) ?_
    ·by_cases hk:ys.contains k=true
     ·rw[aD hk];by_cases z:k'=k
      ·subst z;rw[hk];simp
      ·rw[mC z,pf]
     ·rw[aC hk];simp [List.contains_eq_mem,eq_comm]
    ·split
     ·rfl
     ·rw[af];rfl
   refine⟨.none,ρ,κ,rfl,rfl,bJ.put (s':={s with heap:=h',toks:=s.toks+1}) C H ha (let ⟨o,_,_,_,e,_⟩:=Sy;⟨o,e⟩) (λb ob hb e=>(hs.2 b hb).trans e) rfl rfl ⟨hS2, ?_⟩⟩;split
   ·exact hlen
   ·rw[af];simp;omega
  ·cases e
 ·cases e
end
end
section
open PySem.W.X
abbrev MR:List Addr->Value->Value×List Value->Meth->Prop:=λ_ v p m=>p=(mn m,[v])
section
variable {X:Bx} {A:Around} {fe:cn} {env:Env} {hd:Nat}
theorem iO.none {ρ:List Addr} {x:Str}:∀{m:List (Str×AV)} {es:List DictEntry},iO ρ m es->m.lookup x= .none->getL x es=some .none
 |[],[],_,_=>rfl
 | (y,u)::m,en::es,⟨⟨⟨t,hk⟩,hv⟩,r⟩,e=>by
  simp only at hk hv
  rw[az]at e;by_cases z:x=y
  ·subst z;rw[cj]at e;cases e
  ·rw[aP.mpr z]at e;have h:=iO.none r e;unfold getL at h ⊢;have q:(Value.str y t).isStr x=false:=by simp [Value.isStr];exact λq=>z q.symm
   rw[Ew,hk,q];dsimp only;split at h
   ·cases h
   ·rename_i he;rw[he];dsimp only;rw[wd,r.noRef,pf];have:en.refKey=false:=by unfold DictEntry.refKey;rw[hk]
    rw[this];rfl
theorem zZ(G:bZ X) (x:AV) (v:Value) (nm:Str) (pl:Sem Bool):aU X A fe env hd (λρ=>bC ρ x v) (getMethod v nm pl) (ly X.P x nm) (λρ p m=>MR ρ v p m):=by
 intro ρ κ l σ s C H hv r st e;unfold ly at e;cases x with
 |ref n=>
  obtain⟨a,ha,rfl⟩:=hv;have e2:=bI e;clear e;obtain⟨o,ho,e⟩:=e2;cases o with
  |list xs=>
   dsimp only at e;obtain⟨vs,k,eo,rv,_⟩:=C.rel.objs n _ a ho ha;have nd:∀b,Value.ref a= .ref b->∃o,s.heap.get? b=some o/\o.dict=none:=λb q=>by cases q;exact⟨_,eo,rfl⟩
   split at e
   ·rename_i h;subst h;cases e;exact fy ⟨_,eo,rfl⟩ PySem.F.plainAttrs_list PySem.F.slot_list_append PySem.F.type_list_append nd ⟨_,ρ,κ,rfl,rfl,bJ.refl C H⟩
   split at e
   ·rename_i h;subst h;cases e;exact fy ⟨_,eo,rfl⟩ PySem.F.plainAttrs_list PySem.F.slot_list_pop PySem.F.type_list_pop nd ⟨_,ρ,κ,rfl,rfl,bJ.refl C H⟩
   split at e
   ·rename_i h;subst h;cases e;exact fy ⟨_,eo,rfl⟩ PySem.F.plainAttrs_list PySem.F.slot_list_clear PySem.F.type_list_clear nd ⟨_,ρ,κ,rfl,rfl,bJ.refl C H⟩
   split at e
   ·rename_i h;subst h;cases e;exact fy ⟨_,eo,rfl⟩ PySem.F.plainAttrs_list PySem.F.slot_list_extend PySem.F.type_list_extend nd ⟨_,ρ,κ,rfl,rfl,bJ.refl C H⟩
   split at e
   ·rename_i h;subst h;cases e;exact fy ⟨_,eo,rfl⟩ PySem.F.plainAttrs_list PySem.F.slot_list_index PySem.F.type_list_index nd ⟨_,ρ,κ,rfl,rfl,bJ.refl C H⟩
   ·cases e
  |dict es ep=>
   dsimp only at e;obtain⟨gZ,jc,rk,_⟩:=C.rel.objs n _ a ho ha;have nd:∀b,Value.ref a= .ref b->∃o,s.heap.get? b=some o/\o.dict=none:=λb q=>by
    cases q;obtain⟨o,es,h1,h2,_⟩:=jc;exact⟨o,h1,h2.2.1⟩
   split at e
   ·rename_i h;subst h;cases e;exact fy jc.dictOf.typeIs PySem.F.plainAttrs_dict PySem.F.slot_dict_get PySem.F.type_dict_get nd ⟨_,ρ,κ,rfl,rfl,bJ.refl C H⟩
   split at e
   ·rename_i h;subst h;cases e;exact fy jc.dictOf.typeIs PySem.F.plainAttrs_dict PySem.F.slot_dict_values PySem.F.type_dict_values nd ⟨_,ρ,κ,rfl,rfl,bJ.refl C H⟩
   ·cases e
  |set xs=>
   dsimp only at e;obtain⟨hS,_⟩:=C.rel.objs n _ a ho ha;split at e
   ·rename_i h;subst h;cases e;exact fy hS.typeIs PySem.F.plainAttrs_set PySem.F.slot_set_add PySem.F.type_set_add hS.noDict ⟨_,ρ,κ,rfl,rfl,bJ.refl C H⟩
   ·cases e
  |inst c d=>
   dsimp only at e;have e2:=bI e;clear e;obtain⟨o,jc,e⟩:=e2;cases o with
   |ns m=>
    dsimp only at e;split at e
    ·cases e
    ·rename_i hns;cases rT:X.P.clss c with
     |none=>rw[rT]at e;cases e
     |some ci=>
      rw[rT]at e;dsimp only at e;cases hf:ci.meths.lookup nm with
      |none=>rw[hf]at e;cases e
      |some f=>
       rw[hf]at e;cases e;obtain⟨ad,es,k,QB,ea,ed,rn,I⟩:=sh C ho ha jc;have K:=G.cls c ci rT;obtain⟨f1,f2⟩:=K.meths nm f hf;have xq:=C.rel.zv G;have GH:m.lookup nm=none:=by
        cases q:m.lookup nm with
        |none=>rfl
        |some v=>rw[q]at hns;exact absurd rfl hns
       unfold getMethod specialOf;refine aa (aa (I.type.here ((mW xq K.ga).here ?_)));dsimp only;rw[aC (show ¬(Manifest.canonical "object.__getattribute__" !="object.__getattribute__")=true by decide+kernel)];refine aa (aa (I.type.here ((mW xq K.QK).here ?_)));rw[aC (show ¬(none:Option Value).isSome=true from bL)]
       refine aa (aa (I.type.here ((mW xq f1).here ?_)));dsimp only;refine aa ((looks_typeIn xq f2).here ?_);rw[aC (show ¬(Value.type "function" != .type "function"&&Value.type "function" != .type "method_descriptor"&&Value.type "function" != .type "wrapper_descriptor")=true by decide)];refine aa (uy ea ?_);dsimp only;refine aa ?_;rw[nsGet_eq];refine nd_load ed ?_;rw[nsLook_of (show lookIn nm (dictOf es k)=some none from rn.none GH)]
       refine ae ?_;rw[aC (show ¬(none:Option Value).isSome=true from bL)]
       refine aa (jV (ae ⟨_,ρ,κ,rfl,rfl,bJ.refl C H⟩))
   |_=>cases e
  |_=>cases e
 |_=>cases e
end
end
section
open PySem.W.X
def PR (ρ:List Addr):List (Str×AV)->List (Str×Value)->Prop
 |[],[]=>True
 |x::xs,v::vs=>(x.1=v.1/\bC ρ x.2 v.2)/\PR ρ xs vs
 |_,_=>False
theorem PR.mono {ρ bX:List Addr} (s:Sub ρ bX):∀{a:List (Str×AV)} {b:List (Str×Value)},PR ρ a b->PR bX a b
 |[],[],_=>trivial
 |_::_,_::_,⟨⟨h1,h2⟩,r⟩=>⟨⟨h1,h2.mono s⟩,r.mono s⟩
theorem PR.zip {ρ:List Addr}:∀(ns:List Str) {xs:List AV} {vs:List Value},bp ρ xs vs->PR ρ (ns.zip xs) (ns.zip vs)
 |[],[],[],_=>trivial
 |[],_::_,_::_,_=>trivial
 |_::_,[],[],_=>trivial
 |n::ns,_::_,_::_,⟨h,r⟩=>⟨⟨rfl,h⟩,PR.zip ns r⟩
theorem PR.lookup {ρ:List Addr} {n:Str}:∀{a:List (Str×AV)} {b:List (Str×Value)},PR ρ a b->jo ρ (a.lookup n) (b.lookup n)
 |[],[],_=>rfl
 | (x,u)::a,(y,v)::b,⟨⟨h1,h2⟩,r⟩=>by
  simp only at h1 h2
  subst h1;rw[az,az];cases n==x with
  |true=>exact⟨v,rfl,h2⟩
  |false=>exact r.lookup
theorem PR.isNone {ρ:List Addr} {n:Str} {a:List (Str×AV)} {b:List (Str×Value)} (h:PR ρ a b):(b.lookup n).isNone=(a.lookup n).isNone:=by
 have q:=h.lookup (n:=n);cases ha:a.lookup n with
 |none=>rw[ha]at q;rw[q];rfl
 |some x=>rw[ha]at q;obtain⟨v,hv,_⟩:=q;rw[hv];rfl
theorem PR.append {ρ:List Addr}:∀{a c:List (Str×AV)} {b d:List (Str×Value)},PR ρ a b->PR ρ c d->PR ρ (a++c) (b++d)
 |[],_,[],_,_,h=>h
 |_::_,_,_::_,_,⟨h,r⟩,q=>⟨h,r.append q⟩
theorem PR.binds {ρ:List Addr} {a:List (Str×AV)} {b:List (Str×Value)} (h:PR ρ a b):∀ns:List Str,PR ρ (ns.filterMap λn=>(a.lookup n).map (n, ·)) (ns.filterMap λn=>(b.lookup n).map (n, ·))
 |[]=>trivial
 |n::ns=>by
  rw[de,de];have q:=h.lookup (n:=n);cases ha:a.lookup n with
  |none=>rw[ha]at q;rw[q];exact h.binds ns
  |some x=>rw[ha]at q;obtain⟨v,hv,r⟩:=q;rw[hv];exact⟨⟨rfl,r⟩,h.binds ns⟩
def vT:List (Str×Value)->List (Str×Value)->List (Str×Value)
 |[],slots=>slots
 | (n,d)::r,slots=>if(slots.lookup n).isNone then vT r (slots++[(n,d)])else vT r slots
theorem PR.fill {ρ:List Addr}:∀{d:List (Str×AV)} {e:List (Str×Value)} {a:List (Str×AV)} {b:List (Str×Value)},PR ρ d e->PR ρ a b->PR ρ (yX d a) (vT e b)
 |[],[],_,_,_,h=>h
 | (n,x)::d,(m,v)::e,a,b,⟨⟨h1,h2⟩,r⟩,h=>by
  simp only at h1 h2
  subst h1;unfold yX vT;rw[h.isNone];split
  ·exact PR.fill r (h.append ⟨⟨rfl,h2⟩,trivial⟩)
  ·exact PR.fill r h
theorem oV:∀(e:List (Str×Value)) (b:List (Str×Value)),(forIn e b fun(x:Str×Value) (s:List (Str×Value))=>(if(s.lookup x.1).isNone=true then pure (ForInStep.yield (s++[(x.1,x.2)]))else pure (ForInStep.yield s):Sem _))=(pure (vT e b):Sem _)
 |[],b=>by rw[eG];rfl
 | (n,v)::e,b=>by
  rw[dX];unfold vT;dsimp only;split
  ·rw[pure_bind];exact oV e _
  ·rw[pure_bind];exact oV e _
def Rl (X:Bx) (fd:FuncData) (ds:List AV):Prop:=(fd.defaults= .none/\ds=[])\/∃T vs n,fd.defaults= .ref T/\T∉X.eX/\X.h₀.get? T=some (zP vs n)/\∀ρ,bp ρ ds vs
section
variable {X:Bx} {A:Around} {fe:cn} {env:Env} {hd:Nat}
theorem yd(fd:FuncData) (ds xs:List AV) (vs:List Value) (hD:Rl X fd ds):aU X A fe env hd (λρ=>bp ρ xs vs) (bindArgs fd ⟨vs,[]⟩) (mK fd.params ds xs) (λρ b b'=>PR ρ b' b):=by
 intro ρ κ l σ s C H hv r st e;unfold bindArgs;generalize hp:fd.params=p at e;obtain⟨po,ps,va,ko,kd,kw,dd⟩:=p;cases po with
 |cons _ _=>cases e
 |nil=>
 cases ko with
 |cons _ _=>cases e
 |nil=>
 cases kw with
 |some _=>cases e
 |none=>
 unfold mK at e;simp only [qX,eN,eG,pure_bind,aX];dsimp only at e;generalize ps.map (·.arg)=ns at e ⊢;obtain⟨dv,U3,hdr⟩:∃dv:Option (Array Value),bp ρ ds (dv.getD #[]).toList/\∀{α:Type} (f:Option (Array Value)->Sem α) {Q:α->Shared->Prop} {E},wpAny (M X) A (f dv) Q E s->wpAny (M X) A (seqItems? fd.defaults>>=f) Q E s:=by
  rcases hD with⟨h1,rfl⟩|⟨T,ws,n,h1,h2,h3,h4⟩
  ·refine⟨none,trivial,λf Q E h=> ?_⟩;rw[h1];exact h
  ·refine⟨some ws.toArray,h4 ρ,λf Q E h=> ?_⟩;rw[h1];exact aa (HH (C.rel.keep _ _ h3 h2) rfl h)
 refine hdr _ ?_;generalize (dv.getD #[]).toList=YX at U3;have hlen:=hv.length;have hdl:=U3.length;split at e
 ·cases e
 rename_i c1;refine dS ?_ ?_
 ·rw[<-hlen];cases va with
  |none=>
   have:¬xs.length>ns.length:=λq=>c1 ⟨q,rfl⟩;simp [this]
  |some _=>simp
 split at e
 ·cases e
 rename_i c2;have hz:=PR.zip ns hv;have jc:bp ρ (ds.drop (ds.length-ns.length)) (YX.drop (YX.length-ns.length)):=by rw[hdl];exact U3.drop _
 refine dS ?_ ?_
 ·rw[<-jc.length];have:(List.filter (λn=>(List.lookup n (ns.zip vs)).isNone) (List.take (ns.length-(List.drop (ds.length-ns.length) ds).length) ns))=List.filter (λn=>(List.lookup n (ns.zip xs)).isNone) (List.take (ns.length-(List.drop (ds.length-ns.length) ds).length) ns):=by
   congr 1
   funext n
   exact hz.isNone
  rw[this];simpa using c2
 rw[oV];refine aa (ae ?_);refine dS (by decide) ?_;rw[<-jc.length];have hf:=PR.fill (PR.zip (ns.drop (ns.length-(ds.drop (ds.length-ns.length)).length)) jc) hz;cases va with
 |none=>
  cases e;exact ae ⟨_,ρ,κ,rfl,hf.binds ns,bJ.refl C H⟩
 |some r=>
  dsimp only at e;split at e
  ·rename_i hl
   replace e:=bY e
   cases e;refine aa (nI ?_ (by rw[d7,<-hlen];have:=b9;omega));refine ae ⟨_,_,_,rfl,((hf.binds ns).mono (Sub.append _ _)).append ⟨⟨rfl,_,C.newest,rfl⟩,trivial⟩,bJ.push C H (t:=s.toks) rfl λeo=>⟨_,0,eo,(hv.drop _).mono (Sub.append _ _), ?_⟩⟩;rw[d7];omega
  ·cases e
end
end
section
open PySem.W.X
section
variable {X:Bx} {A:Around} {fe:cn} {env:Env} {hd:Nat}
theorem oY{f:Str×NameKind->List (Str×Addr)->Sem (ForInStep (List (Str×Addr)))} {E:Value->Shared->Prop}
  (hf:∀name kind cells,f (name,kind) cells=if kind== .cell then(do let a<-alloc {cls:= .type "cell",data:= .cell none};pure (.yield ((name,a)::cells)))else pure (.yield cells)):
  ∀(names:List (Str×NameKind)) (cl:List (Str×Nat)) (rc:List (Str×Addr)) (ρ κ:List Addr) (l l':Loc) (σ:Hp) (s:Shared),Cfg X A fe env ρ κ l σ s->jq X A env 0 ρ κ s->dA ρ cl rc->
   ∀(r:Res (List (Str×Nat))) (st:AS),dJ names cl ⟨l',σ⟩=some (r,st)->∀Q:List (Str×Addr)->Shared->Prop,(∀cells bX yl s',r= .ok cells->st.loc=l'->bJ X A fe env 0 ρ κ s ⟨l,st.hp⟩ bX κ s'->dA bX cells yl->Q yl s')->
   wpAny (M X) A (forIn names rc f) Q E s
 |[],cl,rc,ρ,κ,l,l',σ,s,C,H,hc,r,st,e,Q,h=>by
  rw[eG];cases e;exact ae (h _ ρ rc s rfl rfl (bJ.refl C H) hc)
 | (name,kind)::names,cl,rc,ρ,κ,l,l',σ,s,C,H,hc,r,st,e,Q,h=>by
  rw[dX,hf];unfold dJ at e;by_cases hk:kind= .cell
  ·subst hk;rw[aD rfl]at e;rw[aD (by rfl)]
   replace e:=bY e
   refine aa (aa (uz (ae ?_)));have N:=bJ.push (ob:={cls:= .type "cell",data:= .cell none}) (o:= .cell .none) (t:=s.toks) C H rfl λeo=>⟨none,⟨_,eo,rfl⟩,rfl⟩;refine oY hf names ((name,σ.length)::cl) ((name,s.heap.objs.size)::rc) _ κ l l' _ _ N.cfg N.hok ⟨⟨rfl,C.newest⟩,hc.mono (Sub.append _ _)⟩ r st e Q λcells bX yl s' h1 h2 h3 h4=>h cells bX yl s' h1 h2 (N.trans h3) h4
  ·rw[aC hk]at e;rw[aC (by simpa using hk)];exact aa (ae (oY hf names _ _ _ κ l l' _ _ C H hc r st e Q h))
theorem pF{f:Str×Value->PUnit->Sem (ForInStep PUnit)} (hf:∀n v u,f (n,v) u=(do storeName env n v;pure (.yield ⟨⟩))):∀(bs:List (Str×AV)) (binds:List (Str×Value)),
  aU X A fe env hd (λρ=>PR ρ bs binds) (forIn binds ⟨⟩ f) (storeAll fe bs) (λ_ _ _=>True)
 |[],[]=>by rw[eG];exact aU.pure λ_ _=>trivial
 | (n,x)::bs,(m,v)::binds=>by
  intro ρ κ l σ s C H hp r st e;obtain⟨⟨h1,h2⟩,h3⟩:=hp;simp only at h1 h2
  subst h1;rw[dX,hf];have:=aU.bind (R':=λ_ _ _=>True) (Pre:=λρ=>PR ρ ((n,x)::bs) ((n,v)::binds)) (λ_ _ s h=>h.mono s) ((oe (X:=X) (A:=A) (fe:=fe) (env:=env) (hd:=hd) n x v).pre λ_ h=>h.1.2)
   (g:=λ_=>storeAll fe bs) (f:=λ_=>forIn binds ⟨⟩ f) λ_ _=>(pF hf bs binds).pre λ_ h=>h.1.2
  have q:=this ρ κ l σ s C H ⟨⟨rfl,h2⟩,h3⟩ r st e;rw[bind_assoc];refine ao (Q:=mM X A fe env hd (λ_ _ _=>True) ρ κ s r st) (E:=o6 X A fe env hd ρ κ s r st) ?_ (λ_ _ z=>z) λ_ _ z=>z;simpa [pure_bind] using q
 |[],_::_=>λ_ _ _ _ _ _ _ h=>h.elim
 |_::_,[]=>λ_ _ _ _ _ _ _ h=>h.elim
theorem bJ.back {jW jX:List Addr} {xD:Hp} {s₂:Shared} {L':Addr} (C:Cfg X A fe env ρ κ l σ s) (H:jq X A env 0 ρ κ s) (hL:s.heap.get? L'=none)
  (E:Ext X (L'::b7 A) L' ρ κ s jW jX s₂) (R:Rel X jW jX xD s₂):bJ X A fe env 0 ρ κ s ⟨l,xD⟩ jW jX s₂:=by
 obtain⟨m,⟨o,es,ep,eo,ed,ek,ef⟩,hl⟩:=C.ns;have ne:∀b o,s.heap.get? b=some o->b≠L':=λb o e q=>by rw[q,hL]at e;cases e
 have nr:∀b o,s.heap.get? b=some o->b∉ρ->b∉jW:=λb o e h q=>(E.pO b q).elim h λz=>by rw[e]at z;cases z
 have nk:∀b o,s.heap.get? b=some o->b∉κ->b∉jX:=λb o e h q=>(E.qI b q).elim h λz=>by rw[e]at z;cases z
 obtain⟨⟨sl,eL⟩,_⟩:=E.fr _ _ eo C.lr (ne _ _ eo) (C.zT C.l0);refine⟨⟨E.sub,E.uL,E.pO,E.qI,E.alive,λb x e h1 h2 h3=> ?_⟩,⟨R,⟨m,⟨_,es,ep,eL,ed,ek,ef⟩,hl.mono E.sub⟩,nr _ _ eo C.lr,nk _ _ eo C.lk,C.l0,C.env.mono E.sub,C.oq.fs,λf hf=> ?_⟩,⟨H.none_,λq=>absurd q (by decide)⟩⟩
 ·obtain⟨h4,h5⟩:=E.fr b x e h1 (ne _ _ e) h3;exact⟨h4,λhf=>h5 λq=>(aK.mp q).elim (ne _ _ e) hf⟩
 ·obtain⟨⟨x,e⟩,h1,h2,h3⟩:=C.oq.ok f hf;exact⟨E.alive f x e,nr _ _ e h1,nk _ _ e h2,h3⟩
theorem Ext.weaken {S3:List Addr} (x:Ext X Fs L ρ κ s bX κ' s') (h:∀b∈Fs,b∈S3):Ext X S3 L ρ κ s bX κ' s':=
 ⟨x.sub,x.uL,x.pO,x.qI,x.alive,λb o e h1 h2 h3=>let ⟨p,q⟩:=x.fr b o e h1 h2 h3;⟨p,λhf=>q λz=>hf (h b z)⟩⟩
theorem Cfg.around (C:Cfg X A fe env ρ κ l σ s) (h:A'.frames=A.frames):Cfg X A' fe env ρ κ l σ s:=
 ⟨C.rel,C.ns,C.lr,C.lk,C.l0,C.env,⟨h▸C.oq.fs,λf hf=>C.oq.ok f (by unfold b7 at hf ⊢;rw[h]at hf;exact hf)⟩⟩
theorem jJ(h:A'.frames=A.frames):b7 A'=b7 A:=by unfold b7;rw[h]
theorem Cfg.top (C:Cfg X A fe env ρ κ l σ s):∀bE,Top (A.deeper bE) bE:=λbE=>by
 obtain⟨l',hl,_⟩:=C.oq.fs;refine⟨l', ?_⟩;show A.frames.map (bE:: ·)=_;rw[hl];rfl
theorem Cfg.deeper {ρ κ:List Addr} {l:Loc} {σ:Hp} {s:Shared} (C:Cfg X A fe env ρ κ l σ s) (hf:env.frame=some env.locals):Cfg X (A.deeper env) fe env ρ κ l σ s/\b7 (A.deeper env)=env.locals::b7 A:=by
 obtain⟨l',hl,UL⟩:=C.oq.fs;have e:b7 (A.deeper env)=env.locals::b7 A:=by
  unfold b7;show((A.frames.map (env:: ·)).getD []).filterMap (·.frame)=env.locals::(A.frames.getD []).filterMap (·.frame)
  rw[hl];simp [de,hf]
 refine⟨⟨C.rel,C.ns,C.lr,C.lk,C.l0,C.env,⟨⟨env::l', ?_, ?_⟩,λf Cj=> ?_⟩⟩,e⟩
 ·show A.frames.map (env:: ·)=_;rw[hl];rfl
 ·intro e' Qt;rcases aK.mp Qt with rfl|Qt
  ·exact⟨(by rw[C.env.kind];decide),_,hf⟩
  ·exact UL e' Qt
 ·rw[e]at Cj;rcases aK.mp Cj with rfl|Cj
  ·obtain⟨m,⟨o,_,_,eo,_⟩,_⟩:=C.ns;exact⟨⟨o,eo⟩,C.lr,C.lk,C.l0⟩
  ·exact C.oq.ok f Cj
theorem t7{cells:List (Str×Nat)} {lP:Option Addr} {bs:List (Str×AV)} {binds:List (Str×Value)} {qual:Str} {func:Option Addr} {code:Value} {around:Option Env} {builtins:Addr}
  {ρ κ:List Addr} {l':Loc} {σ:Hp} {s:Shared} {ku m5:AS} {E:Value->Shared->Prop} {Q:Env->Shared->Prop} (R₀:Rel X ρ κ σ s) (Rk:zj X A ρ κ s) (Kx:A.handled=none) (hk:scope.kind= .function)
  (Qy:(around.map (·.builtins)).getD builtins=builtinsNs) (DX:∀o,around=some o->∃f,o.frame=some f) (gn:∀c,lP=some c->(around.map (·.code)).getD code= .ref c/\∃P,(c,P,qual)∈X.tabs)
  (hc:dA ρ cl clos) (hp:PR ρ bs binds) (e1:dJ scope.names cl ⟨l',σ⟩=some (.ok cells,ku)) (e2:storeAll ⟨scope,cells,lP⟩ bs ⟨[],ku.hp⟩=some (.ok (),m5))
  (h:∀bE bX κ' s',bE=newEnv scope s.heap.objs.size mainGlobals bE.cells qual func code around builtins->Cfg X A ⟨scope,cells,lP⟩ bE bX κ' m5.loc m5.hp s'->jq X A bE 0 bX κ' s'->Ext X (bE.locals::b7 A) bE.locals ρ κ s bX κ' s'->s.heap.get? bE.locals=none->Q bE s'):
  wpAny (M X) A (newFunctionEnv scope mainGlobals clos binds qual func code around builtins) Q E s:=by
 unfold newFunctionEnv;refine aa (uz ?_);generalize DS:({cls:= .type (if around.isSome=true then "dict" else "frame"),data:= .dict #[]}:Obj)=ob;have hfz:ob.isFreed=false:=by rw[<-DS];rfl
 have hL:s.heap.get? s.heap.objs.size=none:=et (aJ _);have fL:s.heap.objs.size∉ρ/\s.heap.objs.size∉κ/\X.h₀.get? s.heap.objs.size=none:=by
  refine⟨λq=> ?_,λq=> ?_, ?_⟩
  ·obtain⟨o,e⟩:=R₀.al _ q;rw[hL]at e;cases e
  ·obtain⟨o,e⟩:=R₀.JU _ q;rw[hL]at e;cases e
  ·cases e:X.h₀.get? s.heap.objs.size with
   |none=>rfl
   |some o=>obtain⟨o',e'⟩:=R₀.tX e;rw[hL]at e';cases e'
 have kp:∀b o,s.heap.get? b=some o->(s.heap.push ob).get? b=some o:=λb o e=>aB _ e;have mk:∀(rc:List (Str×Addr)) (cs:List (Str×Nat)) (fc:Option Addr) (ρ:List Addr) (l:Loc) (σ:Hp) (s':Shared),Rel X ρ κ σ s'->(∃m,s'.heap.Ns s.heap.objs.size m/\Er ρ l m)->s.heap.objs.size∉ρ->s.heap.objs.size∉κ->dA ρ cs rc->
   (∀c,fc=some c->(around.map (·.code)).getD code= .ref c/\∃P,(c,P,qual)∈X.tabs)->zj X A ρ κ s'->Cfg X A ⟨scope,cs,fc⟩ (newEnv scope s.heap.objs.size mainGlobals rc qual func code around builtins) ρ κ l σ s':=by
  intro rc cs fc ρ l σ s' R N h1 h2 hc Sq F;cases around with
  |none=>exact⟨R,N,h1,h2,fL.2.2,⟨hk,λx=>⟨.inl rfl⟩,λx i e=>let ⟨a,q1,q2⟩:=hc.lookup e;⟨a,q2,q1⟩,rfl,Qy,⟨_,rfl⟩,Sq⟩,F⟩
  |some o=>exact⟨R,N,h1,h2,fL.2.2,⟨hk,λx=>⟨.inl rfl⟩,λx i e=>let ⟨a,q1,q2⟩:=hc.lookup e;⟨a,q2,q1⟩,rfl,Qy,DX o rfl,Sq⟩,F⟩
 have C0:Cfg X A ⟨scope,[],none⟩ (newEnv scope s.heap.objs.size mainGlobals [] qual func code around builtins) ρ κ [] σ {s with heap:=s.heap.push ob}:=by
  refine mk [] [] none ρ [] σ _ (R₀.move (λb o e _=>kp b o e) rfl rfl) ⟨λ_=>none, ?_,λx v e=>nomatch e⟩ fL.1 fL.2.1 trivial (λc q=>nomatch q) ⟨Rk.fs,λf hf=>let ⟨⟨o,e⟩,r⟩:=Rk.ok f hf;⟨⟨o,kp _ _ e⟩,r⟩⟩;rw[<-DS];exact Heap.Ns.new ..
 have H0:jq X A (newEnv scope s.heap.objs.size mainGlobals [] qual func code around builtins) 0 ρ κ {s with heap:=s.heap.push ob}:=⟨λ_=>Kx,λq=>absurd q (by decide)⟩;have f_list:∀rc,(newEnv scope s.heap.objs.size mainGlobals rc qual func code around builtins).locals=s.heap.objs.size:=λrc=>by cases around<;>rfl
 have E0:Ext X (s.heap.objs.size::b7 A) s.heap.objs.size ρ κ s ρ κ {s with heap:=s.heap.push ob}:=⟨Sub.refl _,λ_ h=>h,λ_ h=> .inl h,λ_ h=> .inl h,λb o e=>⟨o,kp b o e⟩,λb o e _ _ _=>⟨⟨o.slots,kp b o e⟩,λ_=>kp b o e⟩⟩;refine aa (oY (λname kind cells=>by cases UP:kind==NameKind.cell<;>simp [UP]) scope.names cl clos ρ κ [] l' σ _ C0 H0 hc _ _ e1 _ λWO bX yl s' h1 h2 N1 h4=> ?_)
 cases h1;have WW:=N1.ext;have Rg:=N1.cfg;rw[f_list]at WW;have C1:Cfg X A ⟨scope,cells,lP⟩ (newEnv scope s.heap.objs.size mainGlobals yl qual func code around builtins) bX κ [] ku.hp s':=by
  have a1:=Rg.ns;have a2:=Rg.lr;have a3:=Rg.lk;rw[f_list]at a1 a2 a3;exact mk yl cells lP bX [] ku.hp s' Rg.rel a1 a2 a3 h4 gn Rg.oq
 have H1:jq X A (newEnv scope s.heap.objs.size mainGlobals yl qual func code around builtins) 0 bX κ s':=⟨λ_=>Kx,λq=>absurd q (by decide)⟩;have yJ:=hp;have fin:wpAny (M X) A (do
   forIn binds PUnit.unit λx _=>do
    storeName (newEnv scope s.heap.objs.size mainGlobals yl qual func code around builtins) x.1 x.2
    pure (ForInStep.yield PUnit.unit)
   pure (newEnv scope s.heap.objs.size mainGlobals yl qual func code around builtins)) Q E s':=by
  refine aa (ao (pF (λ_ _ _=>rfl) bs binds bX κ [] ku.hp s' C1 H1 ?_ _ _ e2) ?_ ?_)
  ·clear h mk C0 H0 E0 C1 H1;have:∀(bs:List (Str×AV)) (binds:List (Str×Value)),PR ρ bs binds->PR bX bs binds:=λ_ _ q=>q.mono WW.sub;exact this _ _ yJ
  ·rintro _ s₂ ⟨_,jW,jX,_,_,N2⟩;have Y2:=N2.ext;rw[f_list]at Y2;refine ae (h _ jW jX s₂ (by cases around<;>rfl) N2.cfg N2.hok ?_ (by rw[f_list];exact hL))
   rw[f_list];exact(E0.trans (WW.weaken λb hb=>ah _ hb)).trans (Y2.weaken λb hb=>ah _ hb)
  ·rintro v s₂ ⟨k,_,_,q,_⟩;cases q
 cases around with
 |none=>exact fin
 |some o=>exact fin
theorem qP{cells:List (Str×Nat)} {lP:Option Addr} {bs:List (Str×AV)} {binds:List (Str×Value)} {qual:Str} {func:Option Addr} {code:Value} {around:Option Env} {builtins:Addr}
  {ρ κ:List Addr} {l l':Loc} {σ:Hp} {s:Shared} {ku m5:AS} {E:Value->Shared->Prop} {Q:Env->Shared->Prop} (C:Cfg X A fe env ρ κ l σ s) (H:jq X A env 0 ρ κ s) (hk:scope.kind= .function)
  (Qy:(around.map (·.builtins)).getD builtins=builtinsNs) (DX:∀o,around=some o->∃f,o.frame=some f) (gn:∀c,lP=some c->(around.map (·.code)).getD code= .ref c/\∃P,(c,P,qual)∈X.tabs)
  (hc:dA ρ cl clos) (hp:PR ρ bs binds) (e1:dJ scope.names cl ⟨l',σ⟩=some (.ok cells,ku)) (e2:storeAll ⟨scope,cells,lP⟩ bs ⟨[],ku.hp⟩=some (.ok (),m5))
  (h:∀bE bX κ' s',bE=newEnv scope s.heap.objs.size mainGlobals bE.cells qual func code around builtins->Cfg X A ⟨scope,cells,lP⟩ bE bX κ' m5.loc m5.hp s'->jq X A bE 0 bX κ' s'->Ext X (bE.locals::b7 A) bE.locals ρ κ s bX κ' s'->s.heap.get? bE.locals=none->Q bE s'):
  wpAny (M X) A (newFunctionEnv scope mainGlobals clos binds qual func code around builtins) Q E s:=
 t7 C.rel C.oq (H.none_ rfl) hk Qy DX gn hc hp e1 e2 h
end
end
section
open PySem.W.X
structure fk (A:Around) (k:Nat):Prop where
 d:A.depth+50+10*k<recursionLimit
 u:A.units+500+20*k<cLine
def FR (ρ:List Addr):Flow->dk->Prop
 | .next,.next=>True
 | .brk,.brk=>True
 | .cont,.cont=>True
 | .ret v,.ret x=>bC ρ x v
 |_,_=>False
structure rX (X:Bx) (fd:FuncData) (fi:fN) (clos:List (Str×Addr)):Prop where
 params:fd.params=fi.params
 body:fd.body= .stmts fi.body
 scope:fd.scope=fi.scope
 glob:fd.globals=mainGlobals
 clos:fd.closure=clos
 bu:fd.builtins=builtinsNs
 df:Rl X fd fi.rJ
 co:fi.scope.isCoroutine=false
 gen:fi.scope.isGenerator=false
 kind:fi.scope.kind= .function
 code:∀c,fi.code=some c->fd.code= .ref c/\∃P,(c,P,fd.qualname++".<locals>.")∈X.tabs
section
variable {X:Bx} {A:Around} {fe:cn} {env:Env} {hd:Nat}
theorem iY{m:PM α} {r:Res α} (e:PM.within l m st=some (r,st')):∃a ku,m ⟨l,st.hp⟩=some (.ok a,ku)/\r= .ok a/\st'=⟨st.loc,ku.hp⟩:=by
 unfold PM.within at e;split at e
 ·rename_i a s' h;cases e;exact⟨a,s',h,rfl,rfl⟩
 ·cases e
 ·cases e
theorem Rel.nolimit (G:bZ X) (R:Rel X ρ κ σ s):s.heap.NoLimit:=
 let ⟨ms,h1,_,h3,h4⟩:=G.st;⟨ms,R.ns h1 h4,h3⟩
theorem ew:∀{names:List (Str×NameKind)} {cl:List (Str×Nat)} {st st':AS} {r:Res (List (Str×Nat))},dJ names cl st=some (r,st')->∃cells,r= .ok cells/\st'.loc=st.loc
 |[],cl,st,st',r,e=>by cases e;exact⟨_,rfl,rfl⟩
 | (n,k)::names,cl,st,st',r,e=>by
  unfold dJ at e;split at e
  ·replace e:=bY e
   obtain⟨c,h1,h2⟩:=ew e;exact⟨c,h1,h2⟩
  ·exact ew e
theorem qy{x:Str} {v:AV} {r:Res Unit} (e:gO fe x v st=some (r,st')):r= .ok ():=by
 unfold gO at e;have cell:∀{st st':AS} {r:Res Unit},(do
    let i<-PM.b8 (fe.cells.lookup x)
    match<-PM.obj i with
    | .cell _=>PM.cm i (.cell (some v))
    |_=>PM.stuck:PM Unit) st=some (r,st')->r= .ok ():=by
  intro st st' r e;obtain⟨i,_,e⟩:=jF e;obtain⟨o,_,e⟩:=bI e;cases o with
  |cell v=>exact(fD e).1
  |_=>cases e
 cases hx:fe.scope.names.lookup x with
 |none=>rw[hx]at e;cases e
 |some k=>
  rw[hx]at e;cases k with
  |«local»=>cases e;rfl
  |cell=>exact cell e
  |free=>exact cell e
  |_=>cases e
theorem kT:∀{bs:List (Str×AV)} {st st':AS} {r:Res Unit},storeAll fe bs st=some (r,st')->r= .ok ()
 |[],_,_,_,e=>by cases e;rfl
 | (x,v)::bs,st,st',r,e=>by
  unfold storeAll at e;rcases aH e with⟨a,s1,e1,e2⟩|⟨k,e1,rfl⟩
  ·exact kT e2
  ·cases qy e1
theorem kJ{p:Arguments} {ds:List AV} {r:Res (List (Str×AV))} (e:mK p ds xs st=some (r,st')):∃bs,r= .ok bs/\st'.loc=st.loc:=by
 obtain⟨po,ps,va,ko,kd,kw,dd⟩:=p;cases po with
 |cons _ _=>cases e
 |nil=>
 cases ko with
 |cons _ _=>cases e
 |nil=>
 cases kw with
 |some _=>cases e
 |none=>
 unfold mK at e;dsimp only at e;split at e
 ·cases e
 split at e
 ·cases e
 cases va with
 |none=>cases e;exact⟨_,rfl,rfl⟩
 |some r=>
  dsimp only at e;split at e
  ·replace e:=bY e
   cases e;exact⟨_,rfl,rfl⟩
  ·cases e
theorem fk.deeper {k:Nat} {bE:Env} (h:fk A (k+1)):fk (A.deeper bE) k:=by
 obtain⟨h1,h2⟩:=h;refine⟨?_, ?_⟩
 ·show A.depth+1+50+10*k<recursionLimit;omega
 ·show A.units+3+500+20*k<cLine;omega
theorem fk.in1 {k:Nat} (h:fk A (k+1)):fk A.in1 k:=by
 obtain⟨h1,h2⟩:=h;refine⟨?_, ?_⟩
 ·show A.depth+50+10*k<recursionLimit;omega
 ·show A.units+1+500+20*k<cLine;omega
theorem fk.less {j:Nat} (h:fk A k) (hj:j<=k):fk A j:=by
 obtain⟨h1,h2⟩:=h;exact⟨by omega,by omega⟩
theorem mM.around {A':Around} {α β:Type} {R:List Addr->α->β->Prop} {ρ κ:List Addr} {s:Shared} {r:Res β} {st:AS} {v:α} {s':Shared} (h:A'.frames=A.frames) (hh:A'.handled=A.handled) (q:mM X A fe env hd R ρ κ s r st v s'):mM X A' fe env hd R ρ κ s r st v s':=by
 obtain⟨b,bX,κ',h1,h2,N⟩:=q;exact⟨b,bX,κ',h1,h2,⟨jJ h▸N.ext,N.cfg.around h,⟨λz=>hh.trans (N.hok.none_ z),λz=>by rw[jJ h,hh];exact N.hok.one z⟩⟩⟩
def sM (fi:fN) (clos:List (Str×Nat)) (args:List AV) (bF:cn->PM dk):PM AV:=do
 let binds<-mK fi.params fi.rJ args
 let cells<-dJ fi.scope.names clos
 PM.within [] (do
  storeAll ⟨fi.scope,cells,fi.code⟩ binds
  match<-bF ⟨fi.scope,cells,fi.code⟩with
  | .ret v=>PM.pure v
  |_=>PM.pure .none)
theorem uc(G:bZ X) {bF:cn->PM dk} (iM:fk A (k+1)) (F:rX X fd fi clos)
  (body:∀(A':Around) ir bE,fk A' k->Top A' bE->bE.code=fd.code->bE.qual=fd.qualname++".<locals>."->ir.scope=fi.scope->aU X A' ir bE 0 bg (execs fi.body bE) (bF ir) FR)
  {ρ κ:List Addr} {l:Loc} {σ:Hp} {s:Shared} (Cf:Cfg X A fe env ρ κ l σ s) (H:jq X A env 0 ρ κ s) (ho:s.heap.get? a=some o) (DY:o.data= .func fd) (zC:s.heap.CodeRec fd.code fd.qualname) (hc:dA ρ cl clos) (hv:bp ρ xs vs)
  {r:Res AV} {st:AS} (e:sM fi cl xs bF ⟨l,σ⟩=some (r,st)):codeAny (M X) A (.call (.ref a) ⟨vs,[]⟩) (λq s'=>∃v,q= .ok (.ret v)/\mM X A fe env 0 VR ρ κ s r st v s') s:=by
 unfold sM at e;rcases aH e with⟨bs,jD,e0,e⟩|⟨k',e0,_⟩
 case inr=>obtain⟨_,q,_⟩:=kJ e0;cases q
 rcases aH e with⟨cells,LW,e1,e⟩|⟨k',e1,_⟩
 case inr=>obtain⟨_,q,_⟩:=ew e1;cases q
 obtain⟨res,HN,e5,rfl,rfl⟩:=iY e;clear e;rcases aH e5 with⟨⟨⟩,HO,e2,e⟩|⟨k',e2,_⟩
 case inr=>cases kT e2
 obtain⟨_,_,UN⟩:=kJ e0;obtain⟨_,_,hl1⟩:=ew e1;rcases aH e with⟨w7,OZ,e3,e⟩|⟨k',e3,q⟩
 case inr=>cases q
 have e4:HN=OZ/\(∀x,w7= .ret x->res=x)/\((∀x,w7≠ .ret x)->res= .none):=by
  cases w7<;>cases e<;>refine⟨rfl, ?_, ?_⟩
  all_goals first
   | (intro x q;cases q;rfl)
   | (intro _;rfl)
   | (intro q;exact absurd rfl (q _))
   | (intro x q;cases q)
 obtain⟨rfl,rH,oj⟩:=e4;refine OA (eT (by omega) iM.d) ho DY (F.scope▸F.co) (F.scope▸F.gen) F.body zC ?_;have Ci:Cfg X A.in1 fe env ρ κ l σ s:=Cf.around rfl;have Hi:jq X A.in1 env 0 ρ κ s:=⟨H.none_,λq=>absurd q (by decide)⟩;have eb:mK fd.params fi.rJ xs ⟨l,σ⟩=some (.ok bs,jD):=by rw[F.params];exact e0
 refine ao (yd fd fi.rJ xs vs F.df ρ κ l σ s Ci Hi hv _ _ eb) ?_ ?_
 case pI=>rintro v s1 ⟨_,_,_,q,_⟩;cases q
 rintro binds s1 ⟨Ou,iy,iG,q,hp,N1⟩;cases q;rw[F.scope,F.glob,F.clos,F.bu];refine qP (A:=A.in1) (lP:=fi.code) (around:=none) N1.cfg N1.hok F.kind rfl (λo q=>nomatch q) F.code (hc.mono N1.ext.sub) hp (l':=jD.loc) (by exact e1) (by exact e2) λbE iR iS s2 AU C2 H2 E2 Oo=> ?_;have GP:bE.frame=some bE.locals:=by rw[AU];rfl
 refine⟨C2.rel.nolimit G,codeAny_func ?_⟩;obtain⟨C3,SD⟩:=(C2.around (A':=A) rfl).deeper GP;have H3:jq X (A.deeper bE) bE 0 iR iS s2:=⟨H.none_,λq=>absurd q (by decide)⟩;refine ao (body (A.deeper bE) _ bE iM.deeper (Cfg.top (C2.around (A':=A) rfl) bE) (by rw[AU];rfl) (by rw[AU];rfl) rfl iR iS HO.loc HO.hp s2 C3 H3 trivial _ _ e3) ?_ ?_
 case pI=>rintro v s3 ⟨_,_,_,q,_⟩;cases q
 rintro f s3 ⟨QQ,pn,qv,q,hf,N3⟩;cases q;have E3:=N3.ext;rw[SD]at E3;have B:=bJ.back N1.cfg N1.hok Oo (E2.trans E3) N3.cfg.rel;have N:=N1.trans B;have GA:∀w:Value,(∀v,f= .ret v->w=v)->((∀v,f≠ .ret v)->w= .none)->bC pn res w:=by
  intro w PL MB;cases w7 with
  |ret x=>cases f<;>first|exact hf.elim| (rw[rH x rfl,PL _ rfl];exact hf)
  |next=>cases f<;>first|exact hf.elim| (rw[oj (λx q=>nomatch q),MB (λx q=>nomatch q)];rfl)
  |brk=>cases f<;>first|exact hf.elim| (rw[oj (λx q=>nomatch q),MB (λx q=>nomatch q)];rfl)
  |cont=>cases f<;>first|exact hf.elim| (rw[oj (λx q=>nomatch q),MB (λx q=>nomatch q)];rfl)
 have N':bJ X A fe env 0 ρ κ s ⟨jD.loc,HN.hp⟩ pn qv s3:=⟨N.ext,N.cfg.around rfl,⟨H.none_,λq=>absurd q (by decide)⟩⟩;have hl:LW.loc=jD.loc:=hl1;rw[hl];refine⟨_,rfl,res,pn,qv,rfl, ?_,N'⟩;cases f with
 |ret v=>exact GA v (λw q=>Flow.ret.inj q) λq=>absurd rfl (q v)
 |_=>exact GA .none (λw q=>nomatch q) λ_=>rfl
theorem qS(G:bZ X) (iM:fk A (k+1)) (F:rX X fd fi clos)
  (body:∀(A':Around) ir bE,fk A' k->Top A' bE->aU X A' ir bE 0 bg (execs fi.body bE) (gp C fi.body ir) FR)
  {ρ κ:List Addr} {l:Loc} {σ:Hp} {s:Shared} (Cf:Cfg X A fe env ρ κ l σ s) (H:jq X A env 0 ρ κ s) (ho:s.heap.get? a=some o) (DY:o.data= .func fd) (zC:s.heap.CodeRec fd.code fd.qualname) (hc:dA ρ cl clos) (hv:bp ρ xs vs)
  {r:Res AV} {st:AS} (e:cX C fi cl xs ⟨l,σ⟩=some (r,st)):codeAny (M X) A (.call (.ref a) ⟨vs,[]⟩) (λq s'=>∃v,q= .ok (.ret v)/\mM X A fe env 0 VR ρ κ s r st v s') s:=
 uc G (bF:=λir=>gp C fi.body ir) iM F (λA' ir bE h1 h2 _ _ _=>body A' ir bE h1 h2) Cf H ho DY zC hc hv e
theorem Ej(G:bZ X) (iM:fk A (k+1)) (F:rX X fd fi clos)
  (body:∀(A':Around) ir bE,fk A' k->Top A' bE->aU X A' ir bE 0 bg (execs fi.body bE) (gp C fi.body ir) FR)
  {ρ κ:List Addr} {l:Loc} {σ:Hp} {s:Shared} (Cf:Cfg X A fe env ρ κ l σ s) (H:jq X A env 0 ρ κ s) (ho:s.heap.get? a=some o) (DY:o.data= .func fd) (zC:s.heap.CodeRec fd.code fd.qualname) (hc:dA ρ cl clos) (hv:bp ρ xs vs)
  {r:Res AV} {st:AS} (e:cX C fi cl xs ⟨l,σ⟩=some (r,st)):wpAny (M X) A (call (.ref a) vs) (mM X A fe env 0 VR ρ κ s r st) (o6 X A fe env 0 ρ κ s r st) s:=
 gQ (dU (qS G iM F body Cf H ho DY zC hc hv e) λq s' ⟨v,h1,h2⟩=>by subst h1;exact h2)
end
end
section
open PySem.W.X
theorem nD{p q:Pos} (h1:q.line=p.line) (h2:q.col=p.col) (l:List Value) (h:TriplesOk l):codeAmong q l=codeAmong p l:=by
 match l,h with
 |[],_=>rfl
 | .int a _:: .int b _::x::r,h=>
  show(if(a==(q.line:Int)&&b==(q.col:Int))=true then some x else codeAmong q r)=(if(a==(p.line:Int)&&b==(p.col:Int))=true then some x else codeAmong p r)
  rw[h1,h2,nD h1 h2 r h]
section
variable {X:Bx} {A:Around} {fe:cn} {env:Env} {hd:Nat}
theorem qT{ρ:List Addr} (E:vZ X fe env ρ):∀{names:List (Str×NameKind)} {cs SV:List (Str×Nat)} {rc:List (Str×Addr)},ue fe names cs=some SV->dA ρ cs rc->
  ∃yl,(forIn names rc fun(x:Str×NameKind) (r:List (Str×Addr))=>(if(x.2==NameKind.free)=true then(do let a<-cellOf env x.1;pure (ForInStep.yield ((x.1,a)::r)))else pure (ForInStep.yield r):Sem _))=pure yl/\dA ρ SV yl
 |[],cs,SV,rc,e,h=>by cases e;exact⟨rc,by rw[eG],h⟩
 | (n,k)::names,cs,SV,rc,e,h=>by
  unfold ue at e;rw[dX];by_cases hk:k= .free
  ·subst hk;rw[aD rfl]at e;cases hl:fe.cells.lookup n with
   |none=>rw[hl]at e;cases e
   |some i=>
    rw[hl]at e;obtain⟨a,ha,hb⟩:=E.cells n i hl;obtain⟨yl,h1,h2⟩:=qT E e (rc:=(n,a)::rc) ⟨⟨rfl,ha⟩,h⟩;refine⟨yl, ?_,h2⟩;dsimp only;rw[aD (by rfl)];unfold cellOf;rw[hb,pure_bind,pure_bind];exact h1
  ·rw[aC hk]at e;obtain⟨yl,h1,h2⟩:=qT E e h;refine⟨yl, ?_,h2⟩;dsimp only;rw[aC (by simpa using hk),pure_bind];exact h1
theorem Cv(E:vZ X fe env ρ) {cs:List (Str×Nat)} (e:qh scope.names fe=some cs):∃rc,closureFor scope env=pure rc/\dA ρ cs rc:=by
 obtain⟨rc,h1,h2⟩:=qT E (rc:=[]) e trivial;refine⟨rc, ?_,h2⟩;have q:closureFor scope env=((forIn scope.names ([]:List (Str×Addr)) fun(x:Str×NameKind) (r:List (Str×Addr))=>(if(x.2==NameKind.free)=true then(do let a<-cellOf env x.1;pure (ForInStep.yield ((x.1,a)::r)))else pure (ForInStep.yield r):Sem _))>>=λr=>pure r):=rfl;rw[q,h1,pure_bind]
theorem bJ.Km {P:Addr} {o:bP} (hP:P∈X.eX) (C:Cfg X A fe env ρ κ l σ s) (H:jq X A env hd ρ κ s) (ha:s.heap.get? a=none) (tW:∃o,s'.heap.get? a=some o)
  (hk:∀b o,b≠P->s.heap.get? b=some o->s'.heap.get? b=some o) (Jy:∃o,s'.heap.get? P=some o) (hg:s'.gens=s.gens) (ho:s'.os=s.os) (hn:∀b∈κ',s.heap.get? b=none/\(∃o,s'.heap.get? b=some o)/\b≠a)
  (T:TabsOk X (κ++κ') s'.heap) (h:qU X (ρ++[a]) (κ++κ') s'.heap a o):bJ X A fe env hd ρ κ s ⟨l,σ++[o]⟩ (ρ++[a]) (κ++κ') s':=by
 have f:=C.fresh ha;have R:=C.rel;obtain⟨oP,eP⟩:=R.iz P hP;have nP:∀b,X.h₀.get? b=none->b≠P:=λb e q=>by rw[q,eP]at e;cases e
 have ak:a∉κ++κ':=λq=>(au.mp q).elim f.2.1 λz=>(hn a z).2.2 rfl;have alive:∀b o,s.heap.get? b=some o->∃o',s'.heap.get? b=some o':=λb o e=>if z:b=P then z▸Jy else⟨o,hk b o z e⟩;refine⟨⟨Sub.append _ _,λb hb=>aI _ hb,λb hb=> ?_,λb hb=> ?_,alive,λb o e h1 h2 h3=> ?_⟩,⟨⟨?_, ?_, ?_, ?_, ?_, ?_, ?_, ?_,λb o e h=> ?_,R.iz,T,hg.trans R.gens,ho.trans R.os⟩, ?_, ?_, ?_,C.l0,C.env.mono (Sub.append _ _),C.oq.fs,λg hg=> ?_⟩,⟨H.none_,λq=> ?_⟩⟩
 ·rcases au.mp hb with q|q
  ·exact .inl q
  ·rw[aA]at q;subst q;exact .inr ha
 ·rcases au.mp hb with q|q
  ·exact .inl q
  ·exact .inr (hn b q).1
 ·have z:=hk b o (λq=>h3 (q▸hP)) e;exact⟨⟨o.slots,z⟩,λ_=>z⟩
 ·rw[af,af,R.len];rfl
 ·rw[bT];refine⟨R.nodup,by simp,λx hx y hy=> ?_⟩;rw[aA]at hy;subst hy;exact λq=>f.1 (q▸hx)
 ·intro x hx;rcases au.mp hx with q|q
  ·intro z;rcases au.mp z with z|z
   ·exact R.dis x q z
   ·obtain⟨o,e⟩:=R.al x q;rw[(hn x z).1]at e;cases e
  ·rw[aA]at q;subst q;exact ak
 ·intro x hx;rcases au.mp hx with q|q
  ·exact R.own x q
  ·rw[aA]at q;subst q;exact f.2.2.1
 ·intro x hx;rcases au.mp hx with q|q
  ·exact R.sS x q
  ·exact(C.fresh (hn x q).1).2.2.1
 ·intro x hx;rcases au.mp hx with q|q
  ·obtain⟨o,e⟩:=R.al x q;exact alive x o e
  ·rw[aA]at q;subst q;exact tW
 ·intro x hx;rcases au.mp hx with q|q
  ·obtain⟨o,e⟩:=R.JU x q;exact alive x o e
  ·exact(hn x q).2.1
 ·intro i o' a' e1 e2;rcases getElem?_snoc_cases e1 with⟨q,e1⟩|⟨q,rfl⟩
  ·have KP:ρ[i]? =some a':=by rw[cF (by rw[R.len];exact q)]at e2;exact e2
   have hm:=bB KP;exact(R.objs i o' a' e1 KP).keep (Sub.append _ _) (λ_ h=>aI _ h) (λob e=>hk a' ob (nP _ (R.own a' hm)) e) λb hb ob e=>hk b ob (nP _ (R.sS b hb)) e
  ·have:a'=a:=by
    rw[q,<-R.len,aY (aJ _)]at e2;simpa using e2.symm
   subst this;exact h
 ·exact hk b o (λq=>h (q▸hP)) (R.keep b o e h)
 ·obtain⟨m,⟨o,es,ep,e,r⟩,hl⟩:=C.ns;exact⟨m,⟨o,es,ep,hk _ _ (nP _ C.l0) e,r⟩,hl.mono (Sub.append _ _)⟩
 ·intro q;rcases au.mp q with q|q
  ·exact C.lr q
  ·rw[aA]at q;exact f.2.2.2.2 q.symm
 ·intro q;rcases au.mp q with q|q
  ·exact C.lk q
  ·exact(C.fresh (hn _ q).1).2.2.2.2 rfl
 ·obtain⟨⟨o,e⟩,h1,h2,h3⟩:=C.oq.ok g hg;refine⟨alive g o e,λq=> ?_,λq=> ?_,h3⟩
  ·rcases au.mp q with q|q
   ·exact h1 q
   ·rw[aA]at q;subst q;exact f.2.2.2.1 hg
  ·rcases au.mp q with q|q
   ·exact h2 q
   ·exact(C.fresh (hn g q).1).2.2.2.1 hg
 ·obtain⟨e,ob,vs,h1,h2,h3,h4,h5,h6,h7,h8,h9⟩:=H.one q;refine⟨e,ob,vs,h1,hk _ _ (nP _ h7) h2,h3,h4,λq=> ?_,λq=> ?_,h7,h8,h9⟩
  ·rcases au.mp q with q|q
   ·exact h5 q
   ·rw[aA]at q;subst q;rw[ha]at h2;cases h2
  ·rcases au.mp q with q|q
   ·exact h6 q
   ·rw[(hn _ q).1]at h2;cases h2
theorem Rel.bu (G:bZ X) {ρ κ:List Addr} {σ:Hp} {s:Shared} (R:Rel X ρ κ σ s) {P:Addr} (hP:P∈X.eX):s.heap.BuiltinsAt X.mg P:=by
 obtain⟨bm,o,h1,h2,h3,h4,h5,r⟩:=G.bu P hP;exact⟨bm,o,h1,h2,h3,h4,R.keep _ _ h5 (G.Y1 bm h1),r⟩
theorem z5(G:bZ X) (params:Arguments) (body:PySem.Expr) (scope:Scope) (pos:Pos) (U5:defaultsOf params env=([],[])) (gn:fe.code=some c):
  aU X A fe env hd bg (eval (.Lambda params body scope pos) env) (do
   let cs<-PM.b8 (qh scope.names fe)
   let r<-PM.alloc (.lam params body scope cs)
   PM.pure (.ref r)) VR:=by
 intro ρ κ l σ s C H _ r st e;obtain⟨cs,hcs,e⟩:=jF e
 replace e:=bY e
 cases e;obtain⟨rc,w0,Ol⟩:=Cv C.env hcs;obtain⟨Yi,P,hP⟩:=C.env.code c gn;obtain⟨Sj,U9⟩:=G.lam c P _ hP;have EG:P∈X.eX:=ah _ (aR.mpr ⟨_,hP,rfl⟩);obtain⟨ps,yH,DQ,Qr⟩:=C.rel.tabs.lam c P _ hP;have jc:CodeHd s.heap c P:=by
  obtain⟨o,vs,file,tf,flags,tg,uU,text,tt,e,r⟩:=Sj;exact⟨o,vs,file,tf,flags,tg,uU,text,tt,C.rel.keep _ _ e U9,r⟩
 obtain⟨mb,g1,g2,g3,g4,g5⟩:=G.glob;have hg:s.heap.Ns mainGlobals X.mg:=C.rel.ns g1 g3;refine kla_eval U5 ?_;cases oU:codeAmong pos ps.toList with
 |some cv=>
  obtain⟨c',rfl,Ju,mU⟩:=Qr pos cv oU;refine kla_makeFunctionHit w0 C.env.glob hg Yi jc yH DQ oU (C.rel.bu G EG) λlW h' tk hk hsz=> ?_;have eo:(h'.push {cls:= .type "function",data:= .func (kla_fn "<lambda>" (env.qual++"<lambda>") params body scope rc ((X.mg "__name__").getD .none) (.ref c') lW)}).get? h'.objs.size=some _:=aZ _ rfl;have tT:∀b o,s.heap.get? b=some o->(h'.push {cls:= .type "function",data:= .func (kla_fn "<lambda>" (env.qual++"<lambda>") params body scope rc ((X.mg "__name__").getD .none) (.ref c') lW)}).get? b=some o:=λb o e=>aB _ (hk b o e);refine⟨_,_,_,rfl,⟨_,C.newest,rfl⟩,bJ.vM C H (et hsz) ⟨_,eo⟩ (Kp.of tT rfl rfl) ⟨_,_,c',lW,_,rc,eo,Ju,eu mU λo e=>tT _ _ e,Ol.mono (Sub.append _ _),rfl⟩⟩
 |none=>
  refine kla_makeFunction w0 C.env.glob hg Yi jc yH DQ oU (λq=>g3 (q▸EG)) (C.rel.bu G EG) λc' lW h' tk hx hsz f_tup mU yG=> ?_;have eo:(h'.push (kla_obj "<lambda>" (env.qual++"<lambda>") params body scope rc ((X.mg "__name__").getD .none) c' lW)).get? h'.objs.size=some _:=aZ _ rfl;have GN:∀b o,h'.get? b=some o->(h'.push (kla_obj "<lambda>" (env.qual++"<lambda>") params body scope rc ((X.mg "__name__").getD .none) c' lW)).get? b=some o:=λb o e=>aB _ e;have tT:∀b o,b≠P->s.heap.get? b=some o->(h'.push (kla_obj "<lambda>" (env.qual++"<lambda>") params body scope rc ((X.mg "__name__").getD .none) c' lW)).get? b=some o:=λb o hb e=>GN b o (hx b o hb e);have GB:=eu mU (h':=h'.push (kla_obj "<lambda>" (env.qual++"<lambda>") params body scope rc ((X.mg "__name__").getD .none) c' lW)) λo e=>GN _ _ e;have Qj:∀b∈κ,∀o,s.heap.get? b=some o->(h'.push (kla_obj "<lambda>" (env.qual++"<lambda>") params body scope rc ((X.mg "__name__").getD .none) c' lW)).get? b=some o:=λb hb o e=>tT b o (by
   rintro rfl;obtain⟨o',e'⟩:=C.rel.iz _ EG;rw[C.rel.sS _ hb]at e';cases e') e
  refine⟨_,_,_,rfl,⟨_,C.newest,rfl⟩,bJ.Km (κ':=[c']) EG C H (et (cy hsz (Nat.le_of_lt f_tup))) ⟨_,eo⟩ tT ⟨_,GN _ _ yG⟩ rfl rfl (λb hb=> ?_) ⟨λc2 P2 q2 m2=> ?_, ?_⟩ ⟨_,_,c',lW,_,rc,eo,by simp,GB,Ol.mono (Sub.append _ _),rfl⟩⟩
  ·rw[aA]at hb;subst hb;refine⟨et hsz, ?_,dW f_tup⟩;obtain⟨c₂,o,vs,t,e1,e2,_⟩:=GB;cases e1;exact⟨o,e2⟩
  ·by_cases Vn:P2=P
   ·have hq:=G.OW _ _ _ _ _ _ m2 hP Vn;subst Vn hq;refine⟨_,GN _ _ yG, ?_,λpos' cv hc=> ?_⟩
    ·rw[eJ];exact uB _ _ _ _ DQ
    ·by_cases wW:pos'.line=pos.line/\pos'.col=pos.col
     ·rw[nD wW.1 wW.2 _ (by rw[eJ];exact uB _ _ _ _ DQ),eJ,uA _ DQ oU]at hc;cases hc;exact⟨c',rfl,by simp,GB⟩
     ·rw[eJ,jS _ DQ wW]at hc;obtain⟨c3,rfl,HR,zA⟩:=Qr pos' cv hc;exact⟨c3,rfl,aI _ HR,eu zA (Qj _ HR)⟩
   ·obtain⟨Dh,e2,t2,r2⟩:=C.rel.tabs.lam c2 P2 q2 m2;refine⟨Dh,tT _ _ Vn e2,t2,λpos' cv hc=> ?_⟩;obtain⟨c3,rfl,HR,zA⟩:=r2 pos' cv hc;exact⟨c3,rfl,aI _ HR,eu zA (Qj _ HR)⟩
  ·obtain⟨Dh,e2,t2,r2⟩:=C.rel.tabs.kc;have apart_at:X.kP≠P:=λq=>G.LK _ _ _ hP q.symm;refine⟨Dh,tT _ _ apart_at e2,t2,λcv hc=> ?_⟩;obtain⟨kc,P',gX,rfl,h1,h2,h3,h4,h5⟩:=r2 cv hc;refine⟨kc,P',gX,rfl,aI _ h1,aI _ h2,⟨?_,Qj _ h2 _ h3.tab,h3.tri⟩,h4,λx hx=> ?_⟩
   ·obtain⟨o,vs,file,tf,flags,tg,uU,text,tt,e,r⟩:=h3.hd;exact⟨o,vs,file,tf,flags,tg,uU,text,tt,Qj _ h1 _ e,r⟩
   ·obtain⟨c3,e1,e2,e3⟩:=h5 x hx;exact⟨c3,e1,eu e2 (Qj _ e3),aI _ e3⟩
end
end
section
open PySem.W.X
section
variable {X:Bx} {A:Around} {fe:cn} {env:Env} {hd:Nat}
theorem Hk(G:bZ X) {ps:Arguments} {body:PySem.Expr} {sc:Scope} {qual:Str} {pm ct:Value} (iM:fk A (k+1))
  (Qz:∀(A':Around) ir bE,fk A' k->aU X A' ir bE 0 bg (eval body bE) (ev C body ir) VR)
  {ρ κ:List Addr} {l:Loc} {σ:Hp} {s:Shared} (Cf:Cfg X A fe env ρ κ l σ s) (H:jq X A env 0 ρ κ s) (ho:s.heap.get? a=some o) (DY:o.data= .func (kla_fn "<lambda>" qual ps body sc clos pm (.ref c) ct)) (zC:s.heap.CodeRec (.ref c) qual) (hc:dA ρ cl clos) (hv:bp ρ xs vs)
  {r:Res AV} {st:AS} (e:eY C ps body sc cl xs ⟨l,σ⟩=some (r,st)):wpAny (M X) A (call (.ref a) vs) (mM X A fe env 0 VR ρ κ s r st) (o6 X A fe env 0 ρ κ s r st) s:=by
 unfold eY at e;split at e
 ·cases e
 rename_i hs;simp only [iQ,xv,ne_eq,W7,Zk,qp]at hs;obtain⟨⟨hk,UY⟩,hco⟩:=hs;rcases aH e with⟨bs,jD,e0,e⟩|⟨k',e0,_⟩
 case inr=>obtain⟨_,q,_⟩:=kJ e0;cases q
 rcases aH e with⟨cells,LW,e1,e⟩|⟨k',e1,_⟩
 case inr=>obtain⟨_,q,_⟩:=ew e1;cases q
 obtain⟨res,HN,e5,rfl,rfl⟩:=iY e;clear e;rcases aH e5 with⟨⟨⟩,HO,e2,e3⟩|⟨k',e2,_⟩
 case inr=>cases kT e2
 obtain⟨_,_,UN⟩:=kJ e0;obtain⟨_,_,hl1⟩:=ew e1;refine gQ (kla_callFunE (eT (by omega) iM.d) ho DY hco UY rfl zC ?_);have Ci:Cfg X A.in1 fe env ρ κ l σ s:=Cf.around rfl;have Hi:jq X A.in1 env 0 ρ κ s:=⟨H.none_,λq=>absurd q (by decide)⟩;refine ao (yd (kla_fn "<lambda>" qual ps body sc clos pm (.ref c) ct) [] xs vs (.inl ⟨rfl,rfl⟩) ρ κ l σ s Ci Hi hv _ _ e0) ?_ ?_
 case pI=>rintro v s1 ⟨_,_,_,q,_⟩;cases q
 rintro binds s1 ⟨Ou,iy,iG,q,hp,N1⟩;cases q;refine qP (A:=A.in1) (lP:= .none) (around:=none) N1.cfg N1.hok hk rfl (λo q=>nomatch q) (λc q=>nomatch q) (hc.mono N1.ext.sub) hp (l':=jD.loc) (by exact e1) (by exact e2) λbE iR iS s2 AU C2 H2 E2 Oo=> ?_;have GP:bE.frame=some bE.locals:=by rw[AU];rfl
 refine⟨C2.rel.nolimit G,kla_codeExpr ?_⟩;obtain⟨C3,SD⟩:=(C2.around (A':=A) rfl).deeper GP;have H3:jq X (A.deeper bE) bE 0 iR iS s2:=⟨H.none_,λq=>absurd q (by decide)⟩;refine ao (Qz (A.deeper bE) _ bE iM.deeper iR iS HO.loc HO.hp s2 C3 H3 trivial _ _ e3) ?_ ?_
 case pI=>rintro v s3 ⟨_,_,_,q,_⟩;cases q
 rintro v s3 ⟨x',pn,qv,q,hf,N3⟩;cases q;have E3:=N3.ext;rw[SD]at E3;have B:=bJ.back N1.cfg N1.hok Oo (E2.trans E3) N3.cfg.rel;have N:=N1.trans B;have N':bJ X A fe env 0 ρ κ s ⟨jD.loc,HN.hp⟩ pn qv s3:=⟨N.ext,N.cfg.around rfl,⟨H.none_,λq=>absurd q (by decide)⟩⟩;have hl:LW.loc=jD.loc:=hl1;rw[hl];exact⟨res,pn,qv,rfl,hf,N'⟩
end
end
section
open PySem.W.X
structure rL (X:Bx):Prop where
 fns:∀a fi,X.P.fns a=some fi->∃o fd c,X.h₀.get? a=some o/\a∉X.eX/\o.data= .func fd/\rX X fd fi []/\fd.code= .ref c/\c∉X.eX/\X.h₀.CodeRec (.ref c) fd.qualname
 makes:∀c ci,X.P.clss c=some ci->makesIn X.K c=true/\findIn X.K (.ref c) "__init__"=some (some (.ref ci.init))/\typeIn X.K (.ref ci.init)=some (.type "function")
section
variable {X:Bx} {A:Around} {fe:cn} {env:Env} {hd:Nat}
theorem xf(G:bZ X) (GF:rL X) (iM:fk A (k+1)) (yM:X.P.fns a=some fi)
  (body:∀(A':Around) ir bE,fk A' k->Top A' bE->aU X A' ir bE 0 bg (execs fi.body bE) (gp C fi.body ir) FR)
  {ρ κ:List Addr} {l:Loc} {σ:Hp} {s:Shared} (Cf:Cfg X A fe env ρ κ l σ s) (H:jq X A env 0 ρ κ s) (hv:bp ρ xs vs)
  {r:Res AV} {st:AS} (e:cX C fi [] xs ⟨l,σ⟩=some (r,st)):codeAny (M X) A (.call (.ref a) ⟨vs,[]⟩) (λq s'=>∃v,q= .ok (.ret v)/\mM X A fe env 0 VR ρ κ s r st v s') s:=by
 obtain⟨o,fd,c,h1,h2,h3,h4,h5,h6,h7⟩:=GF.fns a fi yM;exact qS G iM h4 body Cf H (Cf.rel.keep _ _ h1 h2) h3 (by rw[h5];exact eu h7 λo e=>Cf.rel.keep _ _ e h6) (cl:=[]) trivial hv e
theorem qF{r:Res AV} (e:cX C fi cl xs st=some (r,st')):st'.loc=st.loc/\∃v,r= .ok v:=by
 unfold cX at e;rcases aH e with⟨bs,jD,e0,e⟩|⟨k',e0,_⟩
 case inr=>obtain⟨_,q,_⟩:=kJ e0;cases q
 rcases aH e with⟨cells,LW,e1,e⟩|⟨k',e1,_⟩
 case inr=>obtain⟨_,q,_⟩:=ew e1;cases q
 obtain⟨res,HN,e5,rfl,rfl⟩:=iY e;obtain⟨_,_,UN⟩:=kJ e0;obtain⟨_,_,hl1⟩:=ew e1;exact⟨hl1.trans UN,_,rfl⟩
theorem CT{rest:List Value}:Code.weight (.builtin "type.__call__" ⟨.ref c::rest,kw⟩)=1:=by kernel_rfl
theorem Fo{rest:List Value}:Code.cUnits (.builtin "type.__call__" ⟨.ref c::rest,kw⟩)=1:=by kernel_rfl
theorem kh{rest:List Value}:(A.under (.builtin "type.__call__" ⟨.ref c::rest,kw⟩)).frames=A.frames:=by kernel_rfl
theorem fk.under {k:Nat} (h:fk A (k+1)) {c:Addr} {rest:List Value} {kw:List (Str×Value)}:fk (A.under (.builtin "type.__call__" ⟨.ref c::rest,kw⟩)) k:=by
 obtain⟨h1,h2⟩:=h;refine⟨?_, ?_⟩
 ·show A.depth+Code.weight (.builtin "type.__call__" ⟨.ref c::rest,kw⟩)+50+10*k<recursionLimit;rw[CT];omega
 ·show A.units+Code.cUnits (.builtin "type.__call__" ⟨.ref c::rest,kw⟩)+500+20*k<cLine;rw[Fo];omega
def Kf (C:Cx) (c:Addr) (ci:k7) (xs:List AV):PM AV:=do
 let self<-(if ci.hasDict then do
   let d<-PM.alloc (.ns [])
   PM.alloc (.inst c d)
  else PM.alloc (.slots (.base c) (ci.slotNames.map λ_=> .none)))
 match C.P.fns ci.init with
 |some fi=>do
  match<-cX C fi [] (.ref self::xs)with
  | .none=>PM.pure (.ref self)
  |_=>PM.stuck
 | .none=>PM.stuck
theorem vC(n:Nat) (i:Nat):jo ρ (((List.replicate n (Option.none:Option AV))[i]?).join) ((#[]:Array (Option Value))[i]?.join):=by
 have:((List.replicate n (Option.none:Option AV))[i]?).join= .none:=by
  rw[List.getElem?_replicate];split<;>rfl
 rw[this];rfl
theorem Ds(G:bZ X) (GF:rL X) (hP:C.P=X.P) {ci:k7} (iM:fk A (k+2)) (rT:X.P.clss c=some ci)
  (body:∀(A':Around) (fi:fN) ir bE,fk A' k->Top A' bE->aU X A' ir bE 0 bg (execs fi.body bE) (gp C fi.body ir) FR)
  {ρ κ:List Addr} {l:Loc} {σ:Hp} {s:Shared} (Cf:Cfg X A fe env ρ κ l σ s) (H:jq X A env 0 ρ κ s) (hv:bp ρ xs vs)
  {r:Res AV} {st:AS} (e:Kf C c ci xs ⟨l,σ⟩=some (r,st)):wpAny (M X) A (call (.ref c) vs) (mM X A fe env 0 VR ρ κ s r st) (o6 X A fe env 0 ρ κ s r st) s:=by
 obtain⟨m1,m2,m3⟩:=GF.makes c ci rT;have xq:=Cf.rel.zv G;obtain⟨h,g,dr,t,os⟩:=s;refine gQ (make_core (makes_of xq m1) (mW xq m2) (λself=>bind_fn xq self m3) (.inl rfl) ?_);have ed:(h.push emptyDict).get? h.objs.size=some emptyDict:=aZ _ rfl;have QU:((h.push emptyDict).push (instObj c h.objs.size)).get? h.objs.size=some emptyDict:=aB _ ed;have ex:((h.push emptyDict).push (instObj c h.objs.size)).get? (h.objs.size+1)=some (instObj c h.objs.size):=by
  have:=aZ (h:=h.push emptyDict) (o:=instObj c h.objs.size) rfl
  rwa [HJ]at this
 have kk:∀b o,h.get? b=some o->((h.push emptyDict).push (instObj c h.objs.size)).get? b=some o:=λb o e=>aB _ (aB _ e);have dx:h.get? h.objs.size=none:=et (aJ _);have WK:h.get? (h.objs.size+1)=none:=et (j1 _);unfold Kf at e;have main:∀(self:Nat) (dO:Hp) (iy iG:List Addr),bJ X A fe env 0 ρ κ ⟨h,g,dr,t,os⟩ ⟨l,dO⟩ iy iG ⟨(h.push emptyDict).push (instObj c h.objs.size),g,dr,t,os⟩->iy[self]? =some (h.objs.size+1)->
   (match C.P.fns ci.init with
    |some fi=>do
     match<-cX C fi [] (.ref self::xs)with
     | .none=>PM.pure (.ref self)
     |_=>PM.stuck
    | .none=>PM.stuck:PM AV) ⟨l,dO⟩=some (r,st)->
   codeAny (M X) (A.under (.builtin "type.__call__" ⟨.ref c::vs,[]⟩)) (.call (.ref ci.init) ⟨.ref (h.objs.size+1)::vs,[]⟩) (InitBack (h.objs.size+1) (λq s'=>match q with| .ok (.ret v)=>mM X A fe env 0 VR ρ κ ⟨h,g,dr,t,os⟩ r st v s'| .ok _=>False| .error e=>o6 X A fe env 0 ρ κ ⟨h,g,dr,t,os⟩ r st e s'))
    ⟨(h.push emptyDict).push (instObj c h.objs.size),g,dr,t,os⟩:=by
  intro self dO iy iG N hs e;rw[hP]at e;cases yM:X.P.fns ci.init with
  |none=>rw[yM]at e;cases e
  |some fi=>
   rw[yM]at e;rcases aH e with⟨x,st',e1,e2⟩|⟨k',e1,_⟩
   case inr=>obtain⟨_,_,q⟩:=qF e1;cases q
   have hx:x= .none/\r= .ok (.ref self)/\st=st':=by
    cases x<;>cases e2
    exact⟨rfl,rfl,rfl⟩
   obtain⟨rfl,rfl,rfl⟩:=hx;have hr:fk (A.under (.builtin "type.__call__" ⟨.ref c::vs,[]⟩)) (k+1):=fk.under iM;have Cu:=N.cfg.around (A':=A.under (.builtin "type.__call__" ⟨.ref c::vs,[]⟩)) kh;have Hu:jq X (A.under (.builtin "type.__call__" ⟨.ref c::vs,[]⟩)) env 0 iy iG ⟨(h.push emptyDict).push (instObj c h.objs.size),g,dr,t,os⟩:=⟨H.none_,λq=>absurd q (by decide)⟩;refine dU (xf G GF hr yM (λA' ir bE pj=>body A' fi ir bE pj) Cu Hu (xs:= .ref self::xs) (vs:= .ref (h.objs.size+1)::vs) ⟨⟨_,hs,rfl⟩,hv.mono N.ext.sub⟩ e1) ?_;rintro q s' ⟨v,rfl,b,iR,iS,q2,hv2,N2⟩;cases q2;refine⟨hv2,.ref self,iR,iS,rfl,⟨_,N2.ext.sub _ _ hs,rfl⟩, ?_⟩;have WV:bJ X A fe env 0 iy iG _ st iR iS s':=⟨jJ (A:=A) kh▸N2.ext,N2.cfg.around kh.symm,⟨H.none_,λq=>absurd q (by decide)⟩⟩;exact N.trans WV
 by_cases Qv:ci.hasDict=true
 ·rw[aD Qv]at e;rcases aH e with⟨self,s1,e1,e2⟩|⟨k',e1,_⟩
  case inr=>replace e1:=bY e1;cases e1
  replace e1:=bY e1
  cases e1;clear e
  rename _=>e
  have N1:bJ X A fe env 0 ρ κ ⟨h,g,dr,t,os⟩ ⟨l,σ++[.ns []]⟩ (ρ++[h.objs.size]) κ ⟨h.push emptyDict,g,dr,t,os⟩:=bJ.push (t:=t) Cf H rfl λeo=>⟨[],0,eo,trivial⟩;have N2:=bJ.push (ob:=instObj c h.objs.size) (o:= .inst c σ.length) (t:=t) N1.cfg N1.hok rfl λeo=>⟨h.objs.size,Sub.append _ _ _ _ Cf.newest,eo⟩;have sz:(h.push emptyDict).objs.size=h.objs.size+1:=HJ ..;have N:=N1.trans N2;have hlen:(σ++[bP.ns []]).length=σ.length+1:=by simp
  refine main (σ++[bP.ns []]).length _ _ _ N ?_ e;have:=N1.cfg.newest (a:=(h.push emptyDict).objs.size);rw[sz]at this;show(ρ++[h.objs.size]++[(h.push emptyDict).objs.size])[_]? =_
  rw[sz];exact this
 ·rw[aC Qv]at e
  replace e:=bY e
  have ne:h.objs.size≠h.objs.size+1:=dW (dq _);have N:bJ X A fe env 0 ρ κ ⟨h,g,dr,t,os⟩ ⟨l,σ++[.slots (.base c) (ci.slotNames.map λ_=> .none)]⟩ (ρ++[h.objs.size+1]) (κ++[h.objs.size]) ⟨(h.push emptyDict).push (instObj c h.objs.size),g,dr,t,os⟩:=by
   refine bJ.join (κ':=[h.objs.size]) Cf H WK ⟨_,ex⟩ (Kp.of kk rfl rfl) (λb hb=> ?_) ⟨.ref c,#[],rfl,⟨h.objs.size,ex,by simp,QU⟩,λi=> ?_,bW _⟩
   ·rw[aA]at hb;subst hb;exact⟨dx,⟨_,QU⟩,ne⟩
   ·have:(ci.slotNames.map λ_=>(Option.none:Option AV))=List.replicate ci.slotNames.length .none:=by
     rw[List.map_const']
    rw[this];exact vC _ i
  exact main σ.length _ _ _ N Cf.newest e
end
end
section
open PySem.W.X
section
variable {a ns md B:Addr} {tk tm:Tok} {r:KN} {h1 h2:Int} {t1 t2:Tok} {K:Frag} (l1:K.lookup a=some (kObj a ns B tk r.tq)) (l2:K.lookup ns=some (eh (kO r h1 t1 md h2 t2) 3))
include l1
theorem I8:specialIn K (.ref a) "__call__"=some (some (.builtin "type.__call__")):=by
 unfold specialIn typeIn;dsimp only;rw[l1];show findIn K (.type "type") "__call__"=_;show fastLookup "type" "__call__"=_;kernel_rfl
theorem I6:instIn K (.ref a) (.type "type")=some true:=by
 unfold instIn typeIn;dsimp only;rw[l1];show subIn K (.type "type") (.type "type")=_;kernel_rfl
theorem yB:makesIn K a=true:=by
 unfold makesIn;rw[l1];show(_&&_&&_&&_&&_&&_&&(specialIn K (.ref a) "__call__"==some (some (.builtin "type.__call__")))&&(instIn K (.ref a) (.type "type")==some true))=true
 rw[I8 l1,I6 l1];simp
include l2
theorem I7:findIn K (.ref a) "__init__"=some (some (.ref r.fi)):=by
 rw[kf_find l1 l2 "__init__" (x:=some (.ref r.fi)) (by kernel_rfl)];rfl
theorem PC:findIn K (.ref a) "__lt__"=some (some (.ref r.t6)):=by
 rw[kf_find l1 l2 "__lt__" (x:=some (.ref r.t6)) (by kernel_rfl)];rfl
end
def one (f:Addr) (o:Obj):Frag:=[(f,o)]
theorem Kd{f:Addr} (e:h.get? f=some o):(one f o).In h:=λb o' q=>by
 unfold one at q;rw[az]at q;split at q
 ·rename_i z;cases q;rw[gT.mp z];exact e
 ·cases q
theorem FX{f:Addr} {t:Value} (h:o.cls=t):typeIn (one f o) (.ref f)=some t:=by
 unfold typeIn one;dsimp only;rw[az,cj];exact dg some h
structure Ox (X:Bx):Prop where
 init:X.P.pV=⟨(X.kd 0).args,(X.kd 0).body,(X.kd 0).scope,[],none⟩
 lt:X.P.klt=⟨(X.kd 1).args,(X.kd 1).body,(X.kd 1).scope,[],none⟩
 sc:∀i,i<2->(X.kd i).scope.isCoroutine=false/\(X.kd i).scope.isGenerator=false/\(X.kd i).scope.kind= .function
section
variable {X:Bx} {A:Around} {fe:cn} {env:Env} {hd:Nat}
def F1 (C:Cx) (n:Nat) (xs:List AV):PM AV:=do
 let self<-PM.alloc (.slots (.ref n) [.none])
 match<-cX C C.P.pV [] (.ref self::xs)with
 | .none=>PM.pure (.ref self)
 |_=>PM.stuck
theorem Mm(G:bZ X) (GK:Ox X) (hP:C.P=X.P) (iM:fk A (k+2))
  (body:∀(A':Around) (fi:fN) ir bE,fk A' k->Top A' bE->aU X A' ir bE 0 bg (execs fi.body bE) (gp C fi.body ir) FR)
  {ρ κ:List Addr} {l:Loc} {σ:Hp} {s:Shared} (Cf:Cfg X A fe env ρ κ l σ s) (H:jq X A env 0 ρ κ s) {n c:Nat} {ak:Addr} (hok:σ[n]? =some (.jb c)) (Jx:ρ[n]? =some ak) (hv:bp ρ xs vs)
  {r:Res AV} {st:AS} (e:F1 C n xs ⟨l,σ⟩=some (r,st)):wpAny (M X) A (call (.ref ak) vs) (mM X A fe env 0 VR ρ κ s r st) (o6 X A fe env 0 ρ κ s r st) s:=by
 obtain⟨ac,HX,ns,md,B,kr,tk,h1,t1,h2,t2,tm,e1,e2,m2,e3,m3,f1,f2⟩:=Cf.rel.objs n _ ak hok Jx;have n1:ns≠ak:=by rintro rfl;rw[e1]at e2;exact absurd (c6 (dg Obj.cls (bV e2))) (by decide)
 have q1:=B9 (a:=ak) (ns:=ns) (md:=md) (B:=B) (tk:=tk) (tm:=tm) (r:=kr) (h1:=h1) (h2:=h2) (t1:=t1) (t2:=t2);have q2:=Gk (md:=md) (B:=B) (tk:=tk) (tm:=tm) (r:=kr) (h1:=h1) (h2:=h2) (t1:=t1) (t2:=t2) n1;have xq:=wN e1 e2 e3;obtain⟨doc,cc,lW,ef,mf,mU,Z3⟩:=f1;obtain⟨h,g,dr,t,os⟩:=s;refine gQ (make_core (makes_of xq (yB q1)) (mW xq (I7 q1 q2)) (λself=>bind_fn (Kd ef) self (FX rfl)) (.inl rfl) ?_);have ed:(h.push emptyDict).get? h.objs.size=some emptyDict:=aZ _ rfl;have QU:((h.push emptyDict).push (instObj ak h.objs.size)).get? h.objs.size=some emptyDict:=aB _ ed;have ex:((h.push emptyDict).push (instObj ak h.objs.size)).get? (h.objs.size+1)=some (instObj ak h.objs.size):=by
  have:=aZ (h:=h.push emptyDict) (o:=instObj ak h.objs.size) rfl
  rwa [HJ]at this
 have kk:∀b o,h.get? b=some o->((h.push emptyDict).push (instObj ak h.objs.size)).get? b=some o:=λb o e=>aB _ (aB _ e);have dx:h.get? h.objs.size=none:=et (aJ _);have WK:h.get? (h.objs.size+1)=none:=et (j1 _);have ne:h.objs.size≠h.objs.size+1:=dW (dq _);unfold F1 at e
 replace e:=bY e
 have N:bJ X A fe env 0 ρ κ ⟨h,g,dr,t,os⟩ ⟨l,σ++[.slots (.ref n) [.none]]⟩ (ρ++[h.objs.size+1]) (κ++[h.objs.size]) ⟨(h.push emptyDict).push (instObj ak h.objs.size),g,dr,t,os⟩:=by
  refine bJ.join (κ':=[h.objs.size]) Cf H WK ⟨_,ex⟩ (Kp.of kk rfl rfl) (λb hb=> ?_) ⟨.ref ak,#[],⟨ak,Sub.append _ _ _ _ Jx,rfl⟩,⟨h.objs.size,ex,by simp,QU⟩,λi=>vC 1 i,bW _⟩;rw[aA]at hb;subst hb;exact⟨dx,⟨_,QU⟩,ne⟩
 have hs:=Cf.newest (a:=h.objs.size+1);rcases aH e with⟨x,st',e4,e5⟩|⟨k',e4,_⟩
 case inr=>obtain⟨_,_,q⟩:=qF e4;cases q
 have hx:x= .none/\r= .ok (.ref σ.length)/\st=st':=by
  cases x<;>cases e5
  exact⟨rfl,rfl,rfl⟩
 obtain⟨rfl,rfl,rfl⟩:=hx;have hr:fk (A.under (.builtin "type.__call__" ⟨.ref ak::vs,[]⟩)) (k+1):=fk.under iM;have Cu:=N.cfg.around (A':=A.under (.builtin "type.__call__" ⟨.ref ak::vs,[]⟩)) kh;have Hu:jq X (A.under (.builtin "type.__call__" ⟨.ref ak::vs,[]⟩)) env 0 (ρ++[h.objs.size+1]) (κ++[h.objs.size]) ⟨(h.push emptyDict).push (instObj ak h.objs.size),g,dr,t,os⟩:=⟨H.none_,λq=>absurd q (by decide)⟩;obtain⟨s1,s2,s3⟩:=GK.sc 0 (by decide);have FI:rX X (fnX "__init__" "cmp_to_key.<locals>.K.__init__" (X.kd 0).args (X.kd 0).body (X.kd 0).scope [] .none .none doc ((X.mg "__name__").getD .none) none (.ref cc) lW) C.P.pV []:=by
  rw[hP,GK.init];exact⟨rfl,rfl,rfl,rfl,rfl,rfl,.inl ⟨rfl,rfl⟩,s1,s2,s3,λc q=>nomatch q⟩
 refine dU (qS G hr FI (λA' ir bE pj=>body A' C.P.pV ir bE pj) Cu Hu (kk _ _ ef) rfl (jR mU kk) (cl:=[]) trivial (xs:= .ref σ.length::xs) (vs:= .ref (h.objs.size+1)::vs) ⟨⟨_,hs,rfl⟩,hv.mono N.ext.sub⟩ e4) ?_;rintro q s' ⟨v,rfl,b,iR,iS,q2,hv2,N2⟩;cases q2;refine⟨hv2,.ref σ.length,iR,iS,rfl,⟨_,N2.ext.sub _ _ hs,rfl⟩, ?_⟩;have WV:bJ X A fe env 0 (ρ++[h.objs.size+1]) (κ++[h.objs.size]) _ st iR iS s':=⟨jJ (A:=A) kh▸N2.ext,N2.cfg.around kh.symm,⟨H.none_,λq=>absurd q (by decide)⟩⟩;exact N.trans WV
end
end
section
open PySem.W.X
abbrev hY (l:Addr) (i:Int):Obj:={cls:= .type "list_iterator",data:= .fields #[.ref l,.int i 0]}
section
variable {prog:PySem.Program} {w:World} {A:Around} {E:Value->Shared->Prop} {s:Shared}
theorem pS{l:Addr} {x:Value} (ho:s.heap.get? it=some (hY l i))
  (hl:s.heap.IsList l items) (hx:items[i]? =some x)
  (hQ:∀h',h'.get? it=some (hY l ((i+1:Nat):Int))->Heap.SameBut it s.heap h'->Q x {s with heap:=h'}):
  wpAny (model prog w) A (Builtin.«list_iterator.__next__» ⟨[.ref it],[]⟩) (λfin s'=>∃v,fin= .done (.ret v)/\Q v s') E s:=by
 have hT:s.TypeIs (.ref it) "list_iterator":=⟨_,ho,rfl⟩;obtain⟨ol,Ux,_,nl,hdl⟩:=hl;show wpAny _ _ (field (.ref it) 0>>=_) _ _ s;refine aa (gF ho rfl (x:= .ref l) rfl ?_);show wpAny _ _ (if(Value.ref l==Value.none)=true then _ else _) _ _ s;rw[aC (show ¬((Value.ref l==Value.none)=true)from bL)];show wpAny _ _ (field (.ref it) 1>>=_) _ _ s;refine aa (gF ho rfl (x:= .int i 0) rfl ?_);show wpAny _ _ (seqItems? (.ref l)>>=_) _ _ s;refine aa (HH Ux hdl ?_);simp only [eH,hx];refine aa (nH ho rfl (by simp) (ae ⟨x,rfl,hQ _ ?_ (hM ..)⟩));rw[cz _ ho rfl];rfl
theorem rA{l:Addr} {Q:Value->Shared->Prop} (hh:A.handled=none) (ho:s.heap.get? it=some (hY l i))
  (hl:s.heap.IsList l items) (hx:items[i]? =none)
  (hE:∀h' e ob t,(∀b o,b≠it->s.heap.get? b=some o->h'.get? b=some o)->(∃t,h'.get? it=some {cls:= .type "list_iterator",data:= .fields #[.none,t]})->s.heap.get? e=none->
   h'.get? e=some ob->ob.cls= .type "StopIteration"->ob.data= .fields #[t,.none,.none,.none,.bool false,.none]->E (.ref e) {s with heap:=h'}):
  wpAny (model prog w) A (Builtin.«list_iterator.__next__» ⟨[.ref it],[]⟩) (λfin s'=>∃v,fin= .done (.ret v)/\Q v s') E s:=by
 have hT:s.TypeIs (.ref it) "list_iterator":=⟨_,ho,rfl⟩;obtain⟨ol,Ux,_,nl,hdl⟩:=hl;show wpAny _ _ (field (.ref it) 0>>=_) _ _ s;refine aa (gF ho rfl (x:= .ref l) rfl ?_);show wpAny _ _ (if(Value.ref l==Value.none)=true then _ else _) _ _ s;rw[aC (show ¬((Value.ref l==Value.none)=true)from bL)];show wpAny _ _ (field (.ref it) 1>>=_) _ _ s;refine aa (gF ho rfl (x:= .int i 0) rfl ?_);show wpAny _ _ (seqItems? (.ref l)>>=_) _ _ s;refine aa (HH Ux hdl ?_);simp only [eH,hx];refine aa (jV (aa (nH ho rfl (by simp) ?_)));show wpAny _ _ (newExc (.type "StopIteration") []>>=_) _ _ _;refine aa ?_;simp only [newExc,newTuple];refine aa (gB ?_ (by size_fits));refine aa (m:=firstArgMember _ _) (bo (a:=Value.none) (by first|rfl| (simp only [firstArgMember];rfl)) ?_)
 refine gB ?_ (by size_fits);simp only [raiseNew];refine aa (wpAny_handled ?_);rw[hh];refine aa (ae (Rp ?_));generalize hX:(s.heap.update it (Obj.mapFields λx=>x.setIfInBounds 0 Value.none))=h0;have k0:∀b o,b≠it->s.heap.get? b=some o->h0.get? b=some o:=λb o hb e=>by rw[<-hX,iE _ _ (dF hb)];exact e
 have i0:h0.get? it=some {cls:= .type "list_iterator",data:= .fields #[.none,.int i 0]}:=by rw[<-hX,cz _ ho rfl];rfl
 have z0:h0.objs.size=s.heap.objs.size:=by rw[<-hX,Heap.size_after_update]
 refine hE _ _ _ _ (λb o hb e=>aB _ (aB _ (k0 b o hb e))) ⟨_,aB _ (aB _ i0)⟩ (et ?_) (aZ _ rfl) rfl (by simp [ownMembersOf];rfl);show s.heap.objs.size<=(h0.push _).objs.size;have z1:∀o,(h0.push o).objs.size=h0.objs.size+1:=λo=>by simp
 rw[z1,z0];exact j1 _
theorem tE{l:Addr} {x:Value} (ho:s.heap.get? it=some (hY l i))
  (hl:s.heap.IsList l items) (hx:items[i]? =some x)
  (hQ:∀h',h'.get? it=some (hY l ((i+1:Nat):Int))->Heap.SameBut it s.heap h'->Q x {s with heap:=h'}):
  wpAny (model prog w) A (call (.builtin "list_iterator.__next__") [.ref it]) Q E s:=
 fV iC ⟨_,ho,rfl⟩ u5 (pS ho hl hx hQ) (Xc _)
theorem Du{l:Addr} {Q:Value->Shared->Prop} (hh:A.handled=none) (ho:s.heap.get? it=some (hY l i))
  (hl:s.heap.IsList l items) (hx:items[i]? =none)
  (hE:∀h' e ob t,(∀b o,b≠it->s.heap.get? b=some o->h'.get? b=some o)->(∃t,h'.get? it=some {cls:= .type "list_iterator",data:= .fields #[.none,t]})->s.heap.get? e=none->
   h'.get? e=some ob->ob.cls= .type "StopIteration"->ob.data= .fields #[t,.none,.none,.none,.bool false,.none]->E (.ref e) {s with heap:=h'}):
  wpAny (model prog w) A (call (.builtin "list_iterator.__next__") [.ref it]) Q E s:=
 fV iC ⟨_,ho,rfl⟩ u5 (rA hh ho hl hx hE) (Xc _)
theorem Bd(a:Value):checkBoundCall "list_iterator.__next__" ⟨[a],[]⟩=pure ():=by first|kernel_rfl|rfl
theorem wJ(a:Value):(A.under (.builtin "list_iterator.__next__" ⟨[a],[]⟩)).handled=A.handled:=by kernel_rfl
theorem Ae(a:Value):(Code.builtin "list_iterator.__next__" ⟨[a],[]⟩).quiet=true:=by kernel_rfl
theorem CI{p:Addr} (ho:s.heap.get? p=some {cls:= .type "method-wrapper",data:= .fields #[.builtin "list_iterator.__next__",.ref it]})
  (h:∀A',A'.handled=A.handled->wpAny (model prog w) A' (Builtin.«list_iterator.__next__» ⟨[.ref it],[]⟩) (λfin s'=>∃v,fin= .done (.ret v)/\Q v s') E s):wpAny (model prog w) A (call (.ref p) []) Q E s:=by
 refine gQ (Eu ?_);show wpAny _ A.in1 (callAny (.ref p) ⟨[],[]⟩) _ _ s;simp only [callAny];refine aa (dZ ho ?_);simp only [show(Value.type "method-wrapper"==Value.type "method"||Value.type "method-wrapper"==Value.type "builtin_function_or_method"||Value.type "method-wrapper"==Value.type "method-wrapper")=true by decide,jM];show wpAny _ _ (if(Value.type "method-wrapper" !=Value.type "method")=true then(do checkBoundCall "list_iterator.__next__" ⟨[.ref it],[]⟩;again (Code.builtin "list_iterator.__next__" ⟨[.ref it],[]⟩))else _) _ _ s;rw[aD (by decide)];refine aa (bo (a:=()) (Bd _) ?_);refine aa (ae (ae ?_));refine⟨Ae _,mD u5 (ao (h _ (wJ _)) ?_ λ_ _ z=>z)⟩;rintro fin s' ⟨v,rfl,hq⟩;exact hq
theorem pJ{l:Addr} {x:Value} {Q:Option Value->Shared->Prop} (ho:s.heap.get? it=some (hY l i))
  (hl:s.heap.IsList l items) (hx:items[i]? =some x)
  (hQ:∀h',h'.get? it=some (hY l ((i+1:Nat):Int))->Heap.SameBut it s.heap h'->Q (some x) {s with heap:=h'}):
  wpAny (model prog w) A (pyNext (.ref it)) Q E s:=by
 unfold pyNext;exact aa (gR (d6 (name:=Str.ofString "__next__") ⟨_,ho,rfl⟩ iC (tE ho hl hx λh' h1 h2=>ae (hQ h' h1 h2))))
theorem qG{l:Addr} {Q:Option Value->Shared->Prop} (hh:A.handled=none) (ho:s.heap.get? it=some (hY l i))
  (hl:s.heap.IsList l items) (hx:items[i]? =none)
  (hQ:∀h',(∀b o,b≠it->s.heap.get? b=some o->h'.get? b=some o)->(∃t,h'.get? it=some {cls:= .type "list_iterator",data:= .fields #[.none,t]})->Q none {s with heap:=h'}):
  wpAny (model prog w) A (pyNext (.ref it)) Q E s:=by
 unfold pyNext;refine aa (gR (d6 (name:=Str.ofString "__next__") ⟨_,ho,rfl⟩ iC (Du hh ho hl hx λh' e ob t h1 h2 h3 h4 h5 h6=> ?_)));refine aa (wpAny_isInstance (T:="StopIteration") (b:=true) ⟨_,h4,h5⟩ isSubtype_stop ?_);exact ae (hQ _ h1 h2)
theorem letGo{n:String} {target:PySem.Expr} {Q:Unit->Shared->Prop} (ho:s.heap.get? I=some o) (hc:o.cls= .type n)
  (hn:(["enumerate","zip","dict_itemiterator","dict_reverseitemiterator","odict_iterator","itertools.zip_longest","itertools.pairwise"].contains n)=false) (hQ:Q () s):
  wpAny (model prog w) A (letOwnedTupleGo target (.ref I) v) Q E s:=by
 have go:wpAny (model prog w) A (do
   let o<-load I
   match o.cls,o.data with
   | .type n,.fields vs=>
    if["enumerate","zip","dict_itemiterator","dict_reverseitemiterator","odict_iterator","itertools.zip_longest","itertools.pairwise"].contains n&&vs[0]? ==some (match v with| .ref a=>rawInt a|_=> .none)then do
     rule "for.unpacks-the-owned-tuple"
     updateField I 0 .none
    else pure ()
   |_,_=>pure ()) Q E s:=by
  refine aa (dZ ho ?_);rw[hc];split
  ·rename_i m vs e1 e2;cases e1;rw[hn,nM];exact ae hQ
  ·exact ae hQ
 unfold letOwnedTupleGo;split
 ·cases v<;>first|exact ae hQ|exact go
 ·cases v<;>first|exact ae hQ|exact go
 ·exact ae hQ
end
end
section
open PySem.W.X
theorem fQ.at_ {ρ:List Addr}:∀{es:List (Int×AV)} {gZ:List (Int×Value)} {i:Nat} {k:Int} {x:AV},fQ ρ es gZ->es[i]? =some (k,x)->∃v,gZ[i]? =some (k,v)/\bC ρ x v
 | (j,y)::es,(m,u)::gZ,0,_,_,⟨⟨h1,h2⟩,_⟩,e=>by
  cases e;simp only at h1
  subst h1;exact⟨u,rfl,h2⟩
 |_::_,_::_,i+1,_,_,⟨_,b⟩,e=>by
  rw[d8]at e ⊢;exact fQ.at_ b e
theorem fQ.none_ {es:List (Int×AV)} {gZ:List (Int×Value)} (h:fQ ρ es gZ) (e:es[i]? = .none):gZ[i]? = .none:=by
 rw[cE]at e ⊢;rw[<-h.length];exact e
structure o7 (X:Bx) (A:Around) (env:Env) (ρ κ:List Addr) (bD:Shared) (I:Addr):Prop where
 oZ:bD.heap.get? I=none
 r:I∉ρ
 k:I∉κ
 z:X.h₀.get? I=none
 f:I∉b7 A
 l:I≠env.locals
def Bk (ρ:List Addr) (h:Heap) (I:Addr):pk->Prop
 | .list n i=>∃a,ρ[n]? =some a/\h.IsListIter I a i
 | .tup n i=>∃a,ρ[n]? =some a/\h.IsTupleIter I a i
 | .mH a b=>∃left,IsRangeIter h I a left 1/\(a<b->left=b-a)/\(b<=a->left<=0)
 | .jz n i len ep=>∃a,ρ[n]? =some a/\h.IsKeyIter I a i len ep
 | .gy n i len ep=>∃a,ρ[n]? =some a/\h.IsValIter I a i len ep
 | .obj n=>ρ[n]? =some I
structure n9 (X:Bx) (A:Around) (env:Env) (ρ κ:List Addr) (bD s:Shared) (I:Addr) (it:pk):Prop where
 at_:Bk ρ s.heap I it
 out:(∃n,it= .obj n)\/o7 X A env ρ κ bD I
def PlainAt (h:Heap) (I:Addr):Prop:=∃o n,h.get? I=some o/\o.cls= .type n/\(["enumerate","zip","dict_itemiterator","dict_reverseitemiterator","odict_iterator","itertools.zip_longest","itertools.pairwise"].contains n)=false
theorem Bk.keep (s:Sub ρ bX):∀{it:pk},Bk ρ h I it->((∃n,it= .obj n)\/∀o,h.get? I=some o->h'.get? I=some o)->Bk bX h' I it
 | .list _ _,⟨a,e,o,g,r⟩,k=>⟨a,s _ _ e,o,k.elim (λq=>nomatch q) λk=>k _ g,r⟩
 | .tup _ _,⟨a,e,o,g,r⟩,k=>⟨a,s _ _ e,o,k.elim (λq=>nomatch q) λk=>k _ g,r⟩
 | .mH _ _,⟨n,g,r⟩,k=>⟨n,k.elim (λq=>nomatch q) λk=>k _ g,r⟩
 | .jz _ _ _ _,⟨a,e,o,g,r⟩,k=>⟨a,s _ _ e,o,k.elim (λq=>nomatch q) λk=>k _ g,r⟩
 | .gy _ _ _ _,⟨a,e,o,g,r⟩,k=>⟨a,s _ _ e,o,k.elim (λq=>nomatch q) λk=>k _ g,r⟩
 | .obj _,e,_=>s _ _ e
theorem Bk.there:∀{it:pk},Bk ρ h I it->((∃n,it= .obj n)\/∃o,h.get? I=some o)
 | .list _ _,⟨_,_,o,g,_⟩=> .inr ⟨o,g⟩
 | .tup _ _,⟨_,_,o,g,_⟩=> .inr ⟨o,g⟩
 | .mH _ _,⟨_,g,_⟩=> .inr ⟨_,g⟩
 | .jz _ _ _ _,⟨_,_,o,g,_⟩=> .inr ⟨o,g⟩
 | .gy _ _ _ _,⟨_,_,o,g,_⟩=> .inr ⟨o,g⟩
 | .obj n,_=> .inl ⟨n,rfl⟩
section
variable {X:Bx} {A:Around} {fe:cn} {env:Env} {hd:Nat} {ρ κ bQ bR:List Addr} {bD s s':Shared} {I:Addr}
theorem o7.step (O:o7 X A env ρ κ bD I) (Su:∃o,s.heap.get? I=some o) (x:Ext X (b7 A) env.locals ρ κ s bX κ' s'):o7 X A env bX κ' bD I:=by
 obtain⟨o,ho⟩:=Su;refine⟨O.oZ,λq=> ?_,λq=> ?_,O.z,O.f,O.l⟩
 ·rcases x.pO I q with q|q
  ·exact O.r q
  ·rw[ho]at q;cases q
 ·rcases x.qI I q with q|q
  ·exact O.k q
  ·rw[ho]at q;cases q
theorem n9.step {bX κ':List Addr} {it:pk} (O:n9 X A env ρ κ bD s I it) (R:∀P∈X.eX,∃o,X.h₀.get? P=some o) (x:Ext X (b7 A) env.locals ρ κ s bX κ' s'):n9 X A env bX κ' bD s' I it:=by
 refine⟨O.at_.keep x.sub ?_, ?_⟩
 ·rcases O.out with q|q
  ·exact .inl q
  ·refine .inr λo e=>(x.fr I o e q.r q.l λz=> ?_).2 q.f;obtain⟨o',e'⟩:=R I z;rw[q.z]at e';cases e'
 ·rcases O.out with q|q
  ·exact .inl q
  ·rcases O.at_.there with z|z
   ·exact .inl z
   ·exact .inr (q.step z x)
theorem bJ.kQ (N:bJ X A fe env 0 bQ bR bD st ρ κ s) (O:o7 X A env ρ κ bD I) (hk:∀b o,b≠I->s.heap.get? b=some o->s'.heap.get? b=some o) (hg:s'.gens=s.gens) (ho:s'.os=s.os):
  bJ X A fe env 0 bQ bR bD st ρ κ s':=by
 have x:=N.ext;have C:=N.cfg;have nb:∀b o,bD.heap.get? b=some o->b≠I:=λb o e q=>by rw[q,O.oZ]at e;cases e
 refine⟨⟨x.sub,x.uL,x.pO,x.qI,λb o e=>let ⟨o',e'⟩:=x.alive b o e;⟨o',hk b o' (nb b o e) e'⟩,λb o e h1 h2 h3=> ?_⟩,⟨C.rel.move (λb o e q=>hk b o ?_ e) hg ho, ?_,C.lr,C.lk,C.l0,C.env,C.oq.fs,λf hf=> ?_⟩,⟨N.hok.none_,λq=>nomatch q⟩⟩
 ·obtain⟨⟨sl,e1⟩,e2⟩:=x.fr b o e h1 h2 h3;exact⟨⟨sl,hk b _ (nb b o e) e1⟩,λhf=>hk b _ (nb b o e) (e2 hf)⟩
 ·rintro rfl;rcases q with q|q|q|⟨o',q⟩
  ·exact O.r q
  ·exact O.k q
  ·obtain⟨o',e'⟩:=C.rel.iz _ q;rw[O.z]at e';cases e'
  ·rw[O.z]at q;cases q
 ·obtain⟨m,⟨o',es,ep,e,r⟩,hl⟩:=C.ns;exact⟨m,⟨o',es,ep,hk _ _ (dF O.l) e,r⟩,hl⟩
 ·obtain⟨⟨o',e⟩,h1⟩:=C.oq.ok f hf;exact⟨⟨o',hk _ _ (λq=>O.f (q▸hf)) e⟩,h1⟩
theorem o7.fresh {l:Loc} {σ:Hp} (C:Cfg X A fe env ρ κ l σ s):o7 X A env ρ κ s s.heap.objs.size:=by
 have d:s.heap.get? s.heap.objs.size=none:=et (aJ _);obtain⟨h1,h2,h3,h4,h5⟩:=C.fresh d;exact⟨d,h1,h2,h3,h4,h5⟩
theorem bJ.oN (C:Cfg X A fe env ρ κ l σ s) (H:jq X A env hd ρ κ s) (ob:Obj):bJ X A fe env hd ρ κ s ⟨l,σ⟩ ρ κ {s with heap:=s.heap.push ob}:=
 bJ.keep C H (Kp.of (λ_ _ e=>aB _ e) rfl rfl)
theorem jA(G:bZ X) {r:Res pk} (C:Cfg X A fe env ρ κ l σ s) (H:jq X A env hd ρ κ s) (hv:bC ρ x v) (e:rE x ⟨l,σ⟩=some (r,st)):
  st=⟨l,σ⟩/\∃it,r= .ok it/\wpAny (M X) A (pyIter v) (λw s'=>∃I,w= .ref I/\bJ X A fe env hd ρ κ s ⟨l,σ⟩ ρ κ s'/\n9 X A env ρ κ s s' I it/\∀b o,s.heap.get? b=some o->s'.heap.get? b=some o) E s:=by
 unfold rE at e;cases x with
 |ref n=>
  obtain⟨a,ha,rfl⟩:=hv;obtain⟨o,ho,e'⟩:=bI e;clear e;have O:=C.rel.objs n o a ho ha;have F:=o7.fresh C;cases o with
  |list xs=>
   cases e';obtain⟨vs,m,eo,rv,hl⟩:=O;refine⟨rfl,_,rfl,Zd ⟨_,eo,rfl,_,rfl⟩ ⟨_,rfl,bJ.oN C H _,⟨⟨a,ha,_,aZ _ rfl,rfl,rfl⟩,.inr F⟩,λ_ _ e=>aB _ e⟩⟩
  |tuple xs=>
   cases e';obtain⟨vs,m,eo,rv,hl⟩:=O;refine⟨rfl,_,rfl,wpAny_pyIter_tuple ⟨_,eo,rfl,_,rfl⟩ ⟨_,rfl,bJ.oN C H _,⟨⟨a,ha,_,aZ _ rfl,rfl,rfl⟩,.inr F⟩,λ_ _ e=>aB _ e⟩⟩
  |mH i j=>
   obtain⟨t,u,v,hr⟩:=O;by_cases hs:i.natAbs<1000/\j.natAbs<1000
   ·simp only [aD hs]at e';cases e';have hsz:Builtin.Range.rangeSize i j 1=if i<j then j-i else 0:=by
     unfold Builtin.Range.rangeSize;rw[aD (by decide)];split
     ·rw[Int.ediv_one];omega
     ·rfl
    refine⟨rfl,_,rfl,wpAny_pyIter_range hr ?_ ⟨_,rfl,bJ.oN C H _,⟨⟨_,aZ _ rfl,λq=> ?_,λq=> ?_⟩,.inr F⟩,λ_ _ e=>aB _ e⟩⟩
    ·unfold Builtin.Range.small;rw[hsz];unfold Builtin.Range.rangeFitsLong;have h1:=hs.1;have h2:=hs.2;simp only [cG,iQ,eC];have e1:(1:Int)>0:=by decide
     rw[aD e1];simp only [cG,eC];split<;>refine⟨⟨⟨⟨⟨?_, ?_⟩, ?_, ?_⟩, ?_, ?_⟩, ?_, ?_⟩,.inr ⟨?_, ?_⟩⟩<;>omega
    ·rw[hsz,aD q]
    ·rw[hsz,aC (by omega)];exact lV _
   ·simp only [aC hs]at e';cases e'
  |dict es ep=>
   cases e';obtain⟨gZ,jc,rk,hl⟩:=O;refine⟨rfl,_,rfl,wpAny_pyIter_dict (knd:=intKind X.prog X.w) (C.s8 G ha) jc ⟨_,rfl,bJ.oN C H _,⟨⟨a,ha,_,aZ _ rfl,rfl, ?_⟩,.inr F⟩,λ_ _ e=>aB _ e⟩⟩;rw[rk.length];rfl
  |gy d=>
   obtain⟨ad,hd1,hd2⟩:=O;obtain⟨o2,ho2,e2⟩:=bI e';clear e';have O2:=C.rel.objs d o2 ad ho2 hd1;cases o2 with
   |dict es ep=>
    cases e2;obtain⟨gZ,jc,rk,hl⟩:=O2;refine⟨rfl,_,rfl,wpAny_pyIter_values (knd:=intKind X.prog X.w) ⟨_,hd2,rfl,rfl⟩ jc ⟨_,rfl,bJ.oN C H _,⟨⟨ad,hd1,_,aZ _ rfl,rfl, ?_⟩,.inr F⟩,λ_ _ e=>aB _ e⟩⟩;rw[rk.length];rfl
   |_=>cases e2
  |eZ li i=>
   cases e';obtain⟨al,h1,h2⟩:=O;refine⟨rfl,_,rfl,Oy (l:=al) (i:=i) ⟨_,h2,rfl,rfl⟩ ⟨a,rfl,bJ.refl C H,⟨ha,.inl ⟨_,rfl⟩⟩,λ_ _ e=>e⟩⟩
  |_=>cases e'
 |_=>cases e
def TurnOk (X:Bx) (A:Around) (fe:cn) (env:Env) (bQ bR:List Addr) (bD:Shared) (ρ κ:List Addr) (I:Addr) (r:Res (Option (AV×pk))) (st:AS) (o:Option Value) (s':Shared):Prop:=
 match r with
 | .ok .none=>o= .none/\bJ X A fe env 0 bQ bR bD st ρ κ s'
 | .ok (some (v,tK))=>∃rv,o=some rv/\bC ρ v rv/\bJ X A fe env 0 bQ bR bD st ρ κ s'/\n9 X A env ρ κ bD s' I tK/\PlainAt s'.heap I
 | .exc _=>False
theorem nT{it:pk} {r:Res (Option (AV×pk))} (N:bJ X A fe env 0 bQ bR bD ⟨l,σ⟩ ρ κ s) (hI:n9 X A env ρ κ bD s I it)
  (e:fu it ⟨l,σ⟩=some (r,st)):wpAny (M X) A (pyNext (.ref I)) (TurnOk X A fe env bQ bR bD ρ κ I r st) E s:=by
 have C:=N.cfg;have hh:=N.hok.none_ rfl;have kQ:o7 X A env ρ κ bD I->∀(h':Heap) (t:Nat),(∀b o,b≠I->s.heap.get? b=some o->h'.get? b=some o)->bJ X A fe env 0 bQ bR bD ⟨l,σ⟩ ρ κ {s with heap:=h',toks:=t}:=
  λO h' t hk=>N.kQ O hk rfl rfl
 have sb:∀{h':Heap},Heap.SameBut I s.heap h'->∀b o,b≠I->s.heap.get? b=some o->h'.get? b=some o:=λx b o hb e=>(x.2 b hb).trans e;unfold fu at e;cases it with
 |list n i=>
  obtain⟨a,ha,hit⟩:=hI.at_;have O:o7 X A env ρ κ bD I:=hI.out.elim (λ⟨_,q⟩=>nomatch q) id;obtain⟨o,ho,e'⟩:=bI e;clear e;have Ob:=C.rel.objs n o a ho ha;cases o with
  |list xs=>
   obtain⟨vs,m,eo,rv,hl⟩:=Ob;cases hx:xs[i]? with
   |none=>
    simp only [hx]at e';cases e';exact wpAny_pyNext_list_end hh hit ⟨_,eo,rfl,_,rfl⟩ (by rw[ck];exact rv.none hx) λh' hk=>⟨rfl,kQ O h' s.toks hk⟩
   |some x=>
    simp only [hx]at e';cases e';obtain⟨u,hu,hr⟩:=rv.get hx;refine wpAny_pyNext_list_item hit ⟨_,eo,rfl,_,rfl⟩ (by rw[ck];exact hu) λh' h1 h2=>⟨u,rfl,hr,kQ O h' s.toks (sb h2),⟨⟨a,ha,h1⟩,.inr O⟩, ?_⟩;obtain⟨o',h3,h4,_⟩:=h1;exact⟨o',_,h3,h4,by decide⟩
  |_=>cases e'
 |tup n i=>
  obtain⟨a,ha,hit⟩:=hI.at_;have O:o7 X A env ρ κ bD I:=hI.out.elim (λ⟨_,q⟩=>nomatch q) id;obtain⟨o,ho,e'⟩:=bI e;clear e;have Ob:=C.rel.objs n o a ho ha;cases o with
  |tuple xs=>
   obtain⟨vs,m,eo,rv,hl⟩:=Ob;cases hx:xs[i]? with
   |none=>
    simp only [hx]at e';cases e';exact wpAny_pyNext_tuple_end hh hit ⟨_,eo,rfl,_,rfl⟩ (by rw[ck];exact rv.none hx) λh' hk=>⟨rfl,kQ O h' s.toks hk⟩
   |some x=>
    simp only [hx]at e';cases e';obtain⟨u,hu,hr⟩:=rv.get hx;refine wpAny_pyNext_tuple_item hit ⟨_,eo,rfl,_,rfl⟩ (by rw[ck];exact hu) λh' h1 h2=>⟨u,rfl,hr,kQ O h' s.toks (sb h2),⟨⟨a,ha,h1⟩,.inr O⟩, ?_⟩;obtain⟨o',h3,h4,_⟩:=h1;exact⟨o',_,h3,h4,by decide⟩
  |_=>cases e'
 |mH a b=>
  obtain⟨left,hit,h1,h2⟩:=hI.at_;have O:o7 X A env ρ κ bD I:=hI.out.elim (λ⟨_,q⟩=>nomatch q) id;by_cases q:a<b
  ·simp only [aD q]at e;cases e;refine wpAny_pyNext_range_item hit (by have:=h1 q;omega) λh' h3 h4=>⟨_,rfl,⟨_,rfl⟩,kQ O h' _ (sb h4),⟨⟨left-1,h3,λ_=>by have:=h1 q;omega,λ_=>by have:=h1 q;omega⟩,.inr O⟩,⟨_,_,h3,rfl,by decide⟩⟩
  ·simp only [aC q]at e;cases e;exact wpAny_pyNext_range_end hh hit (h2 (by omega)) λh' hk=>⟨rfl,kQ O h' s.toks hk⟩
 |jz n i len ep=>
  obtain⟨a,ha,hit⟩:=hI.at_;have O:o7 X A env ρ κ bD I:=hI.out.elim (λ⟨_,q⟩=>nomatch q) id;obtain⟨o,ho,e'⟩:=bI e;clear e;have Ob:=C.rel.objs n o a ho ha;cases o with
  |dict es uW=>
   obtain⟨gZ,jc,rk,hl⟩:=Ob;by_cases q:uW=ep/\es.length=len
   ·simp only [aD q]at e';obtain⟨rfl,rfl⟩:=q;rw[rk.length]at hit;cases hx:es[i]? with
    |none=>
     simp only [hx]at e';cases e';exact wpAny_pyNext_dict_end (knd:=intKind X.prog X.w) hh hit jc (rk.none_ hx) λh' hk=>⟨rfl,kQ O h' s.toks hk⟩
    |some p=>
     obtain⟨k,x⟩:=p;simp only [hx]at e';cases e';obtain⟨u,hu,hr⟩:=rk.at_ hx;refine wpAny_pyNext_dict_item (knd:=intKind X.prog X.w) hit jc hu λkey h' hk h1 h2=>⟨key,rfl,Value.isInt_shape hk,kQ O h' s.toks (sb h2),⟨⟨a,ha,by rw[rk.length];exact h1⟩,.inr O⟩, ?_⟩;obtain⟨o',h3,h4,_⟩:=h1;exact⟨o',_,h3,h4,by decide⟩
   ·simp only [aC q]at e';cases e'
  |_=>cases e'
 |gy n i len ep=>
  obtain⟨a,ha,hit⟩:=hI.at_;have O:o7 X A env ρ κ bD I:=hI.out.elim (λ⟨_,q⟩=>nomatch q) id;obtain⟨o,ho,e'⟩:=bI e;clear e;have Ob:=C.rel.objs n o a ho ha;cases o with
  |dict es uW=>
   obtain⟨gZ,jc,rk,hl⟩:=Ob;by_cases q:uW=ep/\es.length=len
   ·simp only [aD q]at e';obtain⟨rfl,rfl⟩:=q;rw[rk.length]at hit;cases hx:es[i]? with
    |none=>
     simp only [hx]at e';cases e';exact wpAny_pyNext_values_end (knd:=intKind X.prog X.w) hh hit jc (rk.none_ hx) λh' hk=>⟨rfl,kQ O h' s.toks hk⟩
    |some p=>
     obtain⟨k,x⟩:=p;simp only [hx]at e';cases e';obtain⟨u,hu,hr⟩:=rk.at_ hx;refine wpAny_pyNext_values_item (knd:=intKind X.prog X.w) hit jc hu λh' h1 h2=>⟨u,rfl,hr,kQ O h' s.toks (sb h2),⟨⟨a,ha,by rw[rk.length];exact h1⟩,.inr O⟩, ?_⟩;obtain⟨o',h3,h4,_⟩:=h1;exact⟨o',_,h3,h4,by decide⟩
   ·simp only [aC q]at e';cases e'
  |_=>cases e'
 |obj n=>
  have ha:ρ[n]? =some I:=hI.at_;obtain⟨o,ho,e'⟩:=bI e;clear e;have Ob:=C.rel.objs n o I ho ha;cases o with
  |eZ li i=>
   obtain⟨al,h1,h2⟩:=Ob;obtain⟨o2,ho2,e2⟩:=bI e';clear e';have Ob2:=C.rel.objs li o2 al ho2 h1;have hn:n<σ.length:=(bx.mp ho).1;cases o2 with
   |list xs=>
    obtain⟨vs,m,eo,rv,hl⟩:=Ob2;cases hx:xs[i]? with
    |none=>
     simp only [hx]at e2;have e3:=gw e2;cases e3;exact qG hh h2 ⟨_,eo,rfl,_,rfl⟩ (by rw[ck];exact rv.none hx) λh' k1 ⟨t,k2⟩=>⟨rfl,N.trans (bJ.put C N.hok ha ⟨_,k2⟩ (λb ob hb e=>k1 b ob hb e) rfl rfl ⟨t,k2⟩)⟩
    |some x=>
     simp only [hx]at e2;have e3:=gw e2;cases e3;obtain⟨u,hu,hr⟩:=rv.get hx;exact pJ h2 ⟨_,eo,rfl,_,rfl⟩ (by rw[ck];exact hu) λh' k1 k2=>⟨u,rfl,hr,N.trans (bJ.put C N.hok ha ⟨_,k1⟩ (λb ob hb e=>(k2.2 b hb).trans e) rfl rfl ⟨al,h1,k1⟩),⟨ha,.inl ⟨_,rfl⟩⟩,⟨_,_,k1,rfl,by decide⟩⟩
   |_=>cases e2
  |_=>cases e'
end
end
section
open PySem.W.X
section
variable {M:Model} {A:Around} {E:Value->Shared->Prop}
theorem lK:∀{l:List Env} {s:Shared} {Q:Unit->Shared->Prop} (_:∀e∈l,e.scope.kind≠ .module/\∃f o,e.frame=some f/\s.heap.get? f=some o)
  (_:∀h',Heap.SlotsOnly (l.filterMap (·.frame)) s.heap h'->Q () {s with heap:=h'}),wpAny M A (readyFrames l) Q E s
 |[],s,Q,_,h=>by simp only [readyFrames];exact ae (h _ (.refl ..))
 |env::outer,s,Q,hl,h=>by
  obtain⟨hk,L,o,hf,ho⟩:=hl env (aj ..);rw[de,hf]at h;simp only [readyFrames,hf];refine aa (dZ ho ?_);by_cases Ko:((o.slots.getD 3 none).isSome)=true
  ·rw[aD Ko];exact ae (h _ (.refl ..))
  ·rw[aC Ko];refine aa (bo (a:=false) (by simp [behindIsImport,hk]) ?_);refine aa (wpAny_keptBack_false λback=> ?_);refine aa (wpAny_update ho ?_);have hu:=Heap.SlotsOnly.update ho λo=> #[some env.code,some (.ref env.globals),o.slots.getD 2 none,some back,o.slots.getD 4 none,env.func.map Value.ref,some (.ref env.builtins)]
    ++(env.cells.map λc=>some (.ref c.2)).toArray
   refine lK (λe he=> ?_) λh' tR=> ?_
   ·obtain⟨MP,f,o',Cj,uH⟩:=hl e (ah _ he);obtain⟨sl,e2⟩:=hu.2.2 f o' uH;exact⟨MP,f,_,Cj,e2⟩
   ·exact h h' ((hu.mono λb hb=>aK.mpr (Or.inl (aA.mp hb))).trans (tR.mono λb hb=>ah _ hb))
theorem w6{env:Env} {outer:List Env} (DX:A.frames=some (env::outer)) (hl:∀e∈env::outer,e.scope.kind≠ .module/\∃f o,e.frame=some f/\s.heap.get? f=some o)
  (hf:env.frame=some L) (h:∀h',Heap.SlotsOnly ((env::outer).filterMap (·.frame)) s.heap h'->Q (.ref L) {s with heap:=h'}):wpAny M A (PySem.frameOf env) Q E s:=by
 unfold PySem.frameOf;refine aa (wpAny_frameEnvs DX ?_);have hdw:((env::outer).dropWhile λx=>x.frame !=env.frame)=env::outer:=by simp [List.dropWhile]
 rw[hdw];unfold frameObject;refine aa (aa (lK hl λfF tQ=>ae ?_));rw[hf];exact ae (h fF tQ)
end
section
variable {X:Bx} {A:Around} {fe:cn} {env:Env} {hd:Nat} {ρ κ bQ bR:List Addr} {bD s s':Shared}
structure Apart (X:Bx) (A:Around) (env:Env) (ρ κ:List Addr) (bD:Shared) (a:Addr):Prop where
 oZ:bD.heap.get? a=none
 r:a∉ρ
 k:a∉κ
 z:X.h₀.get? a=none
 f:a∉b7 A
 l:a≠env.locals
theorem bJ.Fm {D:List Addr} (N:bJ X A fe env hd bQ bR bD st ρ κ s) (zi:jq X A env hd bQ bR bD) (hD:∀a∈D,Apart X A env ρ κ bD a)
  (hk:∀b o,b∉D->b∉b7 A->s.heap.get? b=some o->s'.heap.get? b=some o) (hf:∀b o,b∈b7 A->s.heap.get? b=some o->∃sl,s'.heap.get? b=some {o with slots:=sl}) (hg:s'.gens=s.gens) (ho:s'.os=s.os):
  bJ X A fe env hd bQ bR bD st ρ κ s':=by
 have x:=N.ext;have C:=N.cfg;have nb:∀b o,bD.heap.get? b=some o->b∉D:=λb o e q=>by rw[(hD b q).oZ]at e;cases e
 have all:∀b o,b∉D->s.heap.get? b=some o->∃sl,s'.heap.get? b=some {o with slots:=sl}:=λb o h e=>by
  by_cases q:b∈b7 A
  ·exact hf b o q e
  ·exact⟨o.slots,hk b o h q e⟩
 refine⟨⟨x.sub,x.uL,x.pO,x.qI,λb o e=> ?_,λb o e h1 h2 h3=> ?_⟩,⟨C.rel.move (λb o e q=>hk b o ?_ ?_ e) hg ho, ?_,C.lr,C.lk,C.l0,C.env,C.oq.fs,λf Cj=> ?_⟩,⟨N.hok.none_,λq=> ?_⟩⟩
 ·obtain⟨o',e'⟩:=x.alive b o e;obtain⟨sl,e2⟩:=all b o' (nb b o e) e';exact⟨_,e2⟩
 ·obtain⟨⟨sl,e1⟩,e2⟩:=x.fr b o e h1 h2 h3;refine⟨?_,λCj=>hk b o (nb b o e) Cj (e2 Cj)⟩;obtain⟨zX,e3⟩:=all b _ (nb b o e) e1;exact⟨zX,e3⟩
 ·intro m;have O:=hD b m;rcases q with q|q|q|⟨o',q⟩
  ·exact O.r q
  ·exact O.k q
  ·obtain⟨o',e'⟩:=C.rel.iz _ q;rw[O.z]at e';cases e'
  ·rw[O.z]at q;cases q
 ·intro m;obtain⟨_,h1,h2,h3⟩:=C.oq.ok b m;rcases q with q|q|q|⟨o',q⟩
  ·exact h1 q
  ·exact h2 q
  ·obtain⟨o',e'⟩:=C.rel.iz _ q;rw[h3]at e';cases e'
  ·rw[h3]at q;cases q
 ·obtain⟨m,⟨o',es,ep,e,r⟩,hl⟩:=C.ns;obtain⟨sl,e2⟩:=all env.locals o' (λq=>(hD _ q).l rfl) e;exact⟨m,⟨_,es,ep,e2,r⟩,hl⟩
 ·obtain⟨⟨o',e⟩,h1⟩:=C.oq.ok f Cj;obtain⟨sl,e2⟩:=all f o' (λq=>(hD _ q).f Cj) e;exact⟨⟨_,e2⟩,h1⟩
 ·obtain⟨e,ob,vs,h1,h2,h3,h4,h5,h6,h7,h8,h9⟩:=N.hok.one q;obtain⟨e',EB,_,g1,g2,_⟩:=zi.one q;have:e'=e:=by rw[g1]at h1;cases h1;rfl
  subst this;exact⟨e',ob,vs,h1,hk _ _ (nb _ _ g2) h8 h2,h3,h4,h5,h6,h7,h8,h9⟩
theorem Top.alive (C:Cfg X A fe env ρ κ l σ s) {outer:List Env} (hT:A.frames=some (env::outer)):∀e∈env::outer,e.scope.kind≠ .module/\∃f o,e.frame=some f/\s.heap.get? f=some o:=by
 intro e he;obtain⟨l',hl,UL⟩:=C.oq.fs;rw[hT]at hl;cases hl;obtain⟨h1,f,hf⟩:=UL e he;obtain⟨⟨o,ho⟩,_⟩:=C.oq.ok f (by
  unfold b7;rw[hT];exact d4.mpr ⟨e,he,hf⟩)
 exact⟨h1,f,o,hf,ho⟩
def KZ (v:Value) (s:Shared):Prop:=∃e ob vs a,v= .ref e/\s.heap.get? e=some ob/\ob.data= .fields vs/\vs[1]? =some (.ref a)
theorem lM{k:Exc} (hT:Top A env) (N:bJ X A fe env hd bQ bR bD st ρ κ s) (zi:jq X A env hd bQ bR bD) (R:u4 X A env bD ρ κ k v s):
  wpAny (M X) A (noteFrame v env) (λ_ s'=>bJ X A fe env hd bQ bR bD st ρ κ s'/\u4 X A env bD ρ κ k v s'/\KZ v s') E s:=by
 obtain⟨outer,hT⟩:=hT;obtain⟨e,ob,t,ctx,cause,sup,mem,tb,rfl,f0,f1,f2,f3,f4,f5,f6,f7,f8,f9,G9⟩:=R.h;obtain⟨f,hf⟩:=N.cfg.env.frame;rcases G9 with rfl|⟨a,f',wi,tc,rfl,g1,g2,g3,g⟩
 ·unfold noteFrame;simp only [hf];refine aa (gF (x:=Value.none) f1 f3 rfl ?_);rw[aC (by decide)];have hfA:b7 A=(env::outer).filterMap (·.frame):=by unfold b7;rw[hT];rfl
  refine aa (w6 hT (Top.alive N.cfg hT) hf λfF tQ=> ?_);rw[<-hfA]at tQ;refine aa (wpAny_entryPlaceOf λpl RZ=> ?_);unfold EntryCells.newEntry newFields;refine aa (gB ?_ (RZ.sizeOk5 _ _ _ _ _));generalize hX:({cls:= .type "traceback",data:= .fields ([Value.none,.ref f,.none,rawInt f,.none]++(if pl.isEmpty then List.replicate 6 Value.none else pl)).toArray}:Obj)=ot;have fz:ot.isFreed=false:=by rw[<-hX];rfl
  have KA:fF.get? e=some ob:=(tQ.2.1 e f7).trans f1;have Kz:(fF.push ot).get? e=some ob:=aB _ KA;have PN:(fF.push ot).get? fF.objs.size=some ot:=aZ _ fz;have XG:fF.objs.size≠e:=NC (dY KA);refine nH Kz f3 (by show 1<6;decide) ?_;have td:s.heap.get? fF.objs.size=none:=et (by rw[tQ.1];exact aJ _);obtain⟨t1,t2,t3,t4,t5⟩:=N.cfg.fresh td;have ft:=cz (Obj.mapFields (·.setIfInBounds 1 (Value.ref fF.objs.size))) Kz (k8 (iD f3 _));have tt:((fF.push ot).update e (Obj.mapFields (·.setIfInBounds 1 (Value.ref fF.objs.size)))).get? fF.objs.size=some ot:=by
   rw[iE _ _ XG.symm];exact PN
  have ZE:bD.heap.get? fF.objs.size=none:=by
   cases e0:bD.heap.get? fF.objs.size with
   |none=>rfl
   |some o=>obtain⟨o',e'⟩:=N.ext.alive _ o e0;rw[td]at e';cases e'
  have kp:∀b o,b≠e->fF.get? b=some o->((fF.push ot).update e (Obj.mapFields (·.setIfInBounds 1 (Value.ref fF.objs.size)))).get? b=some o:=λb o hb eb=>by
   rw[iE _ _ (dF hb)];exact aB _ eb
  have dm:=iD f3 (·.setIfInBounds 1 (Value.ref fF.objs.size));refine⟨bJ.Fm (D:=[e]) N zi (λa ha=> ?_) (λb o hb QA eb=>kp b o (λq=>hb (by rw[q];exact Lh _)) ((tQ.2.1 b QA).trans eb)) (λb o QA eb=> ?_) rfl rfl,
   ⟨e,_,t,ctx,cause,sup,mem,.ref fF.objs.size,rfl,f0,ft,(Obj.cls_mapFields ..).trans f2,dm,f4,f5,f6,f7,f8,f9,.inr ⟨_,f,_,_,rfl,hf,tt.trans (by rw[<-hX]),rfl,t1,t2,t3,t4,t5,XG,ZE⟩⟩,e,_,_,_,rfl,ft,dm,rfl⟩
  ·rw[aA]at ha;subst ha;exact⟨f0,f4,f5,f6,f7,f8⟩
  ·obtain⟨sl,e2⟩:=tQ.2.2 b o eb;exact⟨sl,kp b _ (λq=>f7 (q▸QA)) e2⟩
 ·have:f'=f:=by rw[hf]at g1;cases g1;rfl
  subst this;refine wpAny_noteFrame_inFlight hf f1 f3 rfl g2 rfl g3 ⟨N,R,e,ob,_,a,rfl,f1,f3,rfl⟩
end
end
section
open PySem.W.X
structure oD (X:Bx) (A:Around) (env:Env) (bD:Shared) (ρ κ:List Addr) (k:Exc) (v:Value) (s:Shared) (fl:Value):Prop where
 h:∃e ob t ctx cause sup mem a wi tc,v= .ref e/\s.heap.get? e=some ob/\ob.cls= .type (jk k)/\ob.data= .fields #[t,.ref a,ctx,cause,sup,mem]/\Apart X A env ρ κ bD e/\
  (A.handled=none->k≠ .late->ctx= .none)/\s.heap.get? a=some {cls:=tc,data:= .fields wi}/\wi[3]? =some fl/\Apart X A env ρ κ bD a/\a≠e
section
variable {X:Bx} {A:Around} {fe:cn} {env:Env} {hd:Nat} {ρ κ bQ bR:List Addr} {bD s s':Shared} {k:Exc} {v:Value}
theorem u4.held {f:Addr} (R:u4 X A env bD ρ κ k v s) (hf:env.frame=some f) (hn:KZ v s):oD X A env bD ρ κ k v s (rawInt f):=by
 obtain⟨e,ob,t,ctx,cause,sup,mem,tb,rfl,f0,f1,f2,f3,f4,f5,f6,f7,f8,f9,G9⟩:=R.h;rcases G9 with rfl|⟨a,f',wi,tc,rfl,g1,g2,g3,g4,g5,g6,g7,g8,g9,uI⟩
 ·obtain⟨e',EB,vs,a,h1,h2,h3,h4⟩:=hn;cases h1;rw[f1]at h2;cases h2;rw[f3]at h3;cases h3;cases h4
 ·rw[hf]at g1;cases g1;exact⟨e,ob,t,ctx,cause,sup,mem,a,wi,tc,rfl,f1,f2,f3,⟨f0,f4,f5,f6,f7,f8⟩,f9,g2,g3,⟨uI,g4,g5,g6,g7,g8⟩,g9⟩
theorem oD.FO {f:Addr} (R:oD X A env bD ρ κ k v s (rawInt f)) (hf:env.frame=some f):u4 X A env bD ρ κ k v s:=by
 obtain⟨e,ob,t,ctx,cause,sup,mem,a,wi,tc,rfl,f1,f2,f3,P,f9,g2,g3,P',g9⟩:=R.h;exact⟨e,ob,t,ctx,cause,sup,mem,.ref a,rfl,P.oZ,f1,f2,f3,P.r,P.k,P.z,P.f,P.l,f9,.inr ⟨a,f,wi,tc,rfl,hf,g2,g3,P'.r,P'.k,P'.z,P'.f,P'.l,g9,P'.oZ⟩⟩
theorem Apart.step (P:Apart X A env ρ κ bD a) (x:Ext X (b7 A) env.locals ρ κ s bX κ' s') (ho:s.heap.get? a=some o) (R:∀P∈X.eX,∃o,X.h₀.get? P=some o):
  Apart X A env bX κ' bD a/\s'.heap.get? a=some o:=by
 refine⟨⟨P.oZ,λq=> ?_,λq=> ?_,P.z,P.f,P.l⟩,(x.fr a o ho P.r P.l λz=> ?_).2 P.f⟩
 ·rcases x.pO a q with q|q
  ·exact P.r q
  ·rw[ho]at q;cases q
 ·rcases x.qI a q with q|q
  ·exact P.k q
  ·rw[ho]at q;cases q
 ·obtain⟨o',e'⟩:=R a z;rw[P.z]at e';cases e'
theorem oD.step {fl:Value} {bX κ':List Addr} (R:oD X A env bD ρ κ k v s fl) (x:Ext X (b7 A) env.locals ρ κ s bX κ' s') (hR:∀P∈X.eX,∃o,X.h₀.get? P=some o):oD X A env bD bX κ' k v s' fl:=by
 obtain⟨e,ob,t,ctx,cause,sup,mem,a,wi,tc,rfl,f1,f2,f3,P,f9,g2,g3,P',g9⟩:=R.h;obtain⟨P1,q1⟩:=P.step x f1 hR;obtain⟨P2,q2⟩:=P'.step x g2 hR;exact⟨e,ob,t,ctx,cause,sup,mem,a,wi,tc,rfl,q1,f2,f3,P1,f9,q2,g3,P2,g9⟩
theorem i7{fl:Value} (fr:Option Addr) (N:bJ X A fe env hd bQ bR bD st ρ κ s) (zi:jq X A env hd bQ bR bD) (R:oD X A env bD ρ κ k v s fl):
  wpAny (M X) A' (setFlight v fr) (λ_ s'=>bJ X A fe env hd bQ bR bD st ρ κ s'/\oD X A env bD ρ κ k v s' (fr.elim .none λf=>rawInt f)) E s:=by
 obtain⟨e,ob,t,ctx,cause,sup,mem,a,wi,tc,rfl,f1,f2,f3,P,f9,g2,g3,P',g9⟩:=R.h;have hsz:3<wi.size:=(Array.getElem?_eq_some_iff.mp g3).1;unfold setFlight;refine aa (gF (x:=Value.ref a) f1 f3 rfl ?_);rw[aD (show(Value.ref a !=Value.none)=true from by simp)]
 refine nH g2 rfl hsz ?_;have TB:∀b,b≠a->(s.heap.update a (Obj.mapFields (·.setIfInBounds 3 (fr.elim .none λf=>rawInt f)))).get? b=s.heap.get? b:=λb hb=>iE _ _ (dF hb);have at_:=cz (Obj.mapFields (·.setIfInBounds 3 (fr.elim .none λf=>rawInt f))) g2 (k8 (iD rfl _));refine⟨bJ.Fm (D:=[a]) N zi (λb hb=> ?_) (λb o hb _ eb=>(TB b λq=>hb (by rw[q];exact Lh _)).trans eb) (λb o QA eb=>⟨o.slots,(TB b λq=>P'.f (q▸QA)).trans eb⟩) rfl rfl,
  ⟨e,ob,t,ctx,cause,sup,mem,a,_,tc,rfl,(TB e (dF g9)).trans f1,f2,f3,P,f9,at_.trans rfl, ?_,P',g9⟩⟩
 ·rw[aA]at hb;subst hb;exact P'
 ·rw[Array.getElem?_setIfInBounds_self_of_lt hsz]
theorem oD.A3 {fl:Value} (R:oD X A env bD ρ κ k v s fl) (h:∀a,Q (.ref a) s):wpAny (M X) A' (field v 1) Q E s:=by
 obtain⟨e,ob,t,ctx,cause,sup,mem,a,wi,tc,rfl,f1,f2,f3,_⟩:=R.h;exact gF (x:=Value.ref a) f1 f3 rfl (h a)
theorem pM{γ:Type} {ku:AS} {Ph:Res β} {r:Res γ} (hT:Top A env) (zi:jq X A env hd bQ bR bD) (N:bJ X A fe env hd bQ bR bD ku ρ κ s) {e:Value} (q:o6 X A fe env hd ρ κ s Ph st e s')
  (hr:∀k,Ph= .exc k->r= .exc k):notedBy (M X) A env (λe s'=>cameBackBy (M X) A env (o6 X A fe env hd bQ bR bD r st) e s') e s':=by
 obtain⟨k,bX,κ',hk,R,N'⟩:=q;obtain⟨f,hf⟩:=N.cfg.env.frame;unfold notedBy;refine ao (lM hT (N.trans N') zi (R.back N.ext.alive)) (λ_ s2 h2=> ?_) λ_ _ z=>z;obtain⟨N2,R2,hn⟩:=h2;have R3:=R2.held hf hn;unfold cameBackBy;refine aa (R3.A3 λa=> ?_);rw[aC (by simp)];refine ao (i7 env.frame N2 zi R3) (λ_ s4 h4=> ?_) λ_ _ z=>z;obtain⟨N4,R4⟩:=h4;rw[hf]at R4;exact⟨k,_,_,hr k hk,R4.FO hf,N4⟩
theorem fE{b:β} {v:Value}:¬o6 X A fe env hd ρ κ s (.ok b) st v s':=λ⟨_,_,_,q,_⟩=>nomatch q
theorem o6.cast {γ:Type} {r':Res γ} {v:Value} (h:o6 X A fe env hd ρ κ s r st v s') (hr:∀k,r= .exc k->r'= .exc k):o6 X A fe env hd ρ κ s r' st v s':=
 let ⟨k,bX,κ',q,x⟩:=h;⟨k,bX,κ',hr k q,x⟩
theorem CZ(hT:Top A env) {test:PySem.Expr} {tF:PM Bool} {oF:PM dk} (ht:aU X A fe env hd bg (isTrue test env (eval test env)) tF BR)
  (hb:aU X A fe env hd bg (execs body env) bF FR) (ho:aU X A fe env hd bg (execs orelse env) oF FR):aU X A fe env hd bg (exec (.While test body orelse pos) env) (whileLoop n tF bF oF) FR:=by
 intro bQ bR l σ bD C H _ r st e;refine wpAny_While ?_;refine codeAny_whileLoop (λm s=>∃ρ κ l σ,bJ X A fe env hd bQ bR bD ⟨l,σ⟩ ρ κ s/\whileLoop m tF bF oF ⟨l,σ⟩=some (r,st)) ?_ n ⟨bQ,bR,l,σ,bJ.refl C H,e⟩;clear e;rintro m s ⟨ρ,κ,l,σ,N,e⟩;cases m with
 |zero=>cases e
 |succ m=>
  unfold whileLoop at e;rcases aH e with⟨b,s1,e1,e2⟩|⟨k,e1,rfl⟩
  ·refine ao (ht ρ κ l σ s N.cfg N.hok trivial _ _ e1) ?_ (λv s' q=>absurd q fE);rintro b' s' ⟨WR,iy,iG,Cm,HW,N1⟩;cases Cm;cases HW;have SX:=N.trans N1;cases b with
   |true=>
    simp only [jM]at e2 ⊢;rcases aH e2 with⟨f,s2,e3,e4⟩|⟨k,e3,rfl⟩
    ·refine ao (hb iy iG s1.loc s1.hp s' N1.cfg N1.hok trivial _ _ e3) ?_ (λv s' q=>absurd q fE);rintro f' s3 ⟨JK,iR,iS,Jr,hf2,N2⟩;cases Jr;have K8:=SX.trans N2;cases f with
     |next=>cases f'<;>first|exact hf2.elim|exact⟨m,dq m,iR,iS,s2.loc,s2.hp,K8,e4⟩
     |cont=>cases f'<;>first|exact hf2.elim|exact⟨m,dq m,iR,iS,s2.loc,s2.hp,K8,e4⟩
     |brk=>
      cases e4;cases f'<;>first|exact hf2.elim|exact⟨.next,iR,iS,rfl,trivial,K8⟩
     |ret x=>
      cases e4;cases f'<;>first|exact hf2.elim|exact⟨.ret x,iR,iS,rfl,hf2,K8⟩
    ·refine ao (hb iy iG s1.loc s1.hp s' N1.cfg N1.hok trivial _ _ e3) ?_ (λv s' q=>pM hT H SX q λk z=>z);rintro f' s3 ⟨JK,iR,iS,Jr,_⟩;cases Jr
   |false=>
    simp only [bU,gH]at e2 ⊢;refine ao (ho iy iG s1.loc s1.hp s' N1.cfg N1.hok trivial _ _ e2) ?_ (λv s' q=>pM hT H SX q λk z=>z);rintro f' s3 ⟨JK,iR,iS,Jr,hf2,N2⟩;exact⟨JK,iR,iS,Jr,hf2,SX.trans N2⟩
  ·refine ao (ht ρ κ l σ s N.cfg N.hok trivial _ _ e1) ?_ (λv s' q=>pM hT H N q λk z=>by cases z;rfl);rintro b' s' ⟨WR,iy,iG,Cm,_⟩;cases Cm
theorem eU{m:PM α} {r:Res α} (e:PM.sure m st=some (r,st')):∃a,r= .ok a/\m st=some (.ok a,st'):=by
 unfold PM.sure at e;cases h:m st with
 |none=>rw[h]at e;cases e
 |some p=>
  obtain⟨p,s'⟩:=p;rw[h]at e;cases p with
  |ok a=>cases e;exact⟨a,rfl,rfl⟩
  |exc k=>cases e
theorem G5{target:PySem.Expr} {aF:AV->PM Unit} {oF:PM dk} (ha:∀x v,aU X A fe env 0 (λρ=>bC ρ x v) (assign target env v) (aF x) UR)
  (hb:aU X A fe env 0 bg (execs body env) bF FR) (ho:aU X A fe env 0 bg (execs orelse env) oF FR) {n:Nat} {l:Loc} {σ:Hp} {it:pk} {I:Addr} {fl:dk} {st:AS} (N:bJ X A fe env 0 bQ bR bD ⟨l,σ⟩ ρ κ s) (hI:n9 X A env ρ κ bD s I it)
  (e:forLoop n aF bF oF it ⟨l,σ⟩=some (.ok fl,st)) (E:Value->Shared->Prop):
  codeAny (M X) A (.forLoop target (.ref I) body orelse env) (λr s'=>match r with| .ok f=>mM X A fe env 0 FR bQ bR bD (.ok fl) st f s'| .error e=>E e s') s:=by
 refine codeAny_forLoop_any (λm s=>∃ρ κ l σ it,bJ X A fe env 0 bQ bR bD ⟨l,σ⟩ ρ κ s/\n9 X A env ρ κ bD s I it/\forLoop m aF bF oF it ⟨l,σ⟩=some (.ok fl,st)) ?_ n ⟨ρ,κ,l,σ,it,N,hI,e⟩;clear e hI N;rintro m s ⟨ρ,κ,l,σ,it,N,hI,e⟩;cases m with
 |zero=>cases e
 |succ m=>
  unfold forLoop at e;rcases aH e with⟨o,s1,e1,e2⟩|⟨k,_,q⟩
  case inr=>cases q
  refine ao (nT N hI e1) ?_ λ_ _ z=>z;intro o' s' ht;cases o with
  |none=>
   obtain⟨rfl,N1⟩:=ht;refine ao (ho ρ κ s1.loc s1.hp s' N1.cfg N1.hok trivial _ _ e2) ?_ (λv s' q=>absurd q fE);rintro f' s3 ⟨JK,iR,iS,Jr,hf2,N2⟩;exact⟨JK,iR,iS,Jr,hf2,N1.trans N2⟩
  |some p=>
   obtain⟨x,tK⟩:=p;obtain⟨v,rfl,hv,N1,QI,o,tn,HQ,ho2,Jl⟩:=ht;rcases aH e2 with⟨⟨⟩,s2,e3,e4⟩|⟨k,_,q⟩
   case inr=>cases q
   rcases aH e4 with⟨f,s3,e5,e6⟩|⟨k,_,q⟩
   case inr=>cases q
   refine letGo HQ ho2 Jl ?_;refine ao (ha x v ρ κ s1.loc s1.hp s' N1.cfg N1.hok hv _ _ e3) ?_ (λv s' q=>absurd q fE);rintro _ s4 ⟨_,iR,iS,_,_,N2⟩;have K8:=N1.trans N2;have KL:=QI.step N1.cfg.rel.iz N2.ext;refine ao (hb iR iS s2.loc s2.hp s4 N2.cfg N2.hok trivial _ _ e5) ?_ (λv s' q=>absurd q fE);rintro f' s5 ⟨JK,pn,qv,Jr,hf2,N3⟩;cases Jr;have Nw:=K8.trans N3;have QH:=KL.step N2.cfg.rel.iz N3.ext;cases f with
   |next=>cases f'<;>first|exact hf2.elim|exact⟨m,dq m,pn,qv,s3.loc,s3.hp,tK,Nw,QH,e6⟩
   |cont=>cases f'<;>first|exact hf2.elim|exact⟨m,dq m,pn,qv,s3.loc,s3.hp,tK,Nw,QH,e6⟩
   |brk=>
    cases e6;cases f'<;>first|exact hf2.elim|exact⟨.next,pn,qv,rfl,trivial,Nw⟩
   |ret x=>
    cases e6;cases f'<;>first|exact hf2.elim|exact⟨.ret x,pn,qv,rfl,hf2,Nw⟩
theorem i6(h:cM iter=false) (x:Value):foldedSetIterable iter env x=Pure.pure x:=by
 cases iter<;>first|rfl|cases h
theorem IH(G:bZ X) {target:PySem.Expr} {iF:PM AV} {aF:AV->PM Unit} {oF:PM dk} (wV:cM iter=false)
  (hi:aU X A fe env 0 bg (eval iter env) iF VR) (ha:∀x v,aU X A fe env 0 (λρ=>bC ρ x v) (assign target env v) (aF x) UR)
  (hb:aU X A fe env 0 bg (execs body env) bF FR) (ho:aU X A fe env 0 bg (execs orelse env) oF FR):
  aU X A fe env 0 bg (exec (.For target iter body orelse pos) env) (do
   let x<-iF
   let it<-rE x
   PM.sure (forLoop n aF bF oF it)) FR:=by
 intro ρ κ l σ s C H _ r st e;rcases aH e with⟨x,s1,e1,e2⟩|⟨k,e1,rfl⟩
 ·refine wpAny_For ?_ (i6 wV);refine ao (hi ρ κ l σ s C H trivial _ _ e1) ?_ (λv s' q=>absurd q fE);rintro v s' ⟨x',iy,iG,xB,Ca,N1⟩;cases xB;rcases aH e2 with⟨it,s2,e3,e4⟩|⟨k,e3,_⟩
  ·obtain⟨rfl,tK,hit,w⟩:=jA (E:=o6 X A fe env 0 ρ κ s r st) G N1.cfg N1.hok Ca (st:=s2) e3;cases hit;refine ao w ?_ λ_ _ z=>z;rintro wv s3 ⟨I,rfl,N2,hI,_⟩;obtain⟨fl,rfl,e5⟩:=eU e4;refine dU (G5 ha hb ho N2 hI e5 (λ_ _=>False)) ?_;rintro(f|f) s4 h4
   ·exact h4.elim
   ·obtain⟨b,bX,κ',h1,h2,h3⟩:=h4;exact⟨b,bX,κ',h1,h2,N1.trans h3⟩
  ·obtain⟨_,tK,hit,_⟩:=jA (E:=λ_ _=>True) G N1.cfg N1.hok Ca e3;cases hit
 ·refine wpAny_For ?_ (i6 wV);refine ao (hi ρ κ l σ s C H trivial _ _ e1) ?_ (λv s' q=>q.cast λk z=>by cases z;rfl);rintro v s' ⟨x',iy,iG,xB,_⟩;cases xB
end
end
section
open PySem.W.X
theorem JL(k:Exc):isSubtype (.type (jk k)) (.type (jk k))=Pure.pure true:=by cases k<;>rw[jt]<;>kernel_rfl
theorem Ha(k:Exc):isSubtype (.type (jk k)) (.type "BaseException")=Pure.pure true:=by cases k<;>rw[jt]<;>kernel_rfl
theorem Ed(k:Exc):isSubtype (.type ((Manifest.find? (jk k)).elim "type" λx=>x.metatype)) (.type "tuple")=Pure.pure false:=by cases k<;>kernel_rfl
theorem iq{m:PM α} {r:Res (Res α)} (e:PM.attempt m st=some (r,st')):∃q,r= .ok q/\m st=some (q,st'):=by
 unfold PM.attempt at e;cases h:m st with
 |none=>rw[h]at e;cases e
 |some p=>
  obtain⟨p,s'⟩:=p;rw[h]at e;cases e;exact⟨p,rfl,rfl⟩
section
variable {X:Bx} {A:Around} {fe:cn} {env:Env} {hd:Nat} {ρ κ bQ bR:List Addr} {bD s s':Shared} {k:Exc} {v:Value}
theorem bJ.unmark {jc:Nat} {e:Option Value} (H:A.handled=none) (N:bJ X (A.mark e) fe env jc ρ κ s st bQ bR s'):bJ X A fe env 0 ρ κ s st bQ bR s':=
 ⟨N.ext,N.cfg.around rfl,⟨λ_=>H,λq=>nomatch q⟩⟩
theorem z6{T:Str} {np hp:Pos} {h:PySem.Stmt} {hF:PM dk} {tF:PM AV} (hT:Top A env)
  (hb:aU X A fe env 0 bg (execs body env) bF FR) (ht:∀e,aU X (A.mark (some (.ref e))) fe env 2 bg (PySem.eval (.Name T np) env) tF VR) (htk:∀st r st',tF st=some (r,st')->∃v,r= .ok v) (hh:∀e,aU X (A.mark (some (.ref e))) fe env 2 bg (execs (h::hs) env) hF FR):
  aU X A fe env 0 bg (exec (.Try body [.ExceptHandler (some (.Name T np)) .none (h::hs) hp] [] [] pos) env) (do
   match<-PM.attempt bF with
   | .ok f=>PM.pure f
   | .exc k=>do
    let tv<-tF
    if tv= .ty (jk k)/\T≠"__debug__" then PM.sure hF else PM.stuck) FR:=by
 intro ρ κ l σ s C H _ r st e;have Oi:=H.none_ rfl;obtain⟨VJ,hf⟩:=C.env.frame;refine wpAny_Try_except ?_;rcases aH e with⟨q,s1,e1,e2⟩|⟨k,e1,_⟩
 case inr=>obtain⟨_,q,_⟩:=iq e1;cases q
 obtain⟨q',hq,e1⟩:=iq e1;cases hq;clear e;cases q with
 |ok f=>
  cases e2;refine ao (hb ρ κ l σ s C H trivial _ _ e1) ?_ (λv s' q=>absurd q fE);rintro f' s' ⟨JK,iy,iG,h1,h2,N⟩;cases h1;cases f' with
  |next=>
   cases f<;>first|exact h2.elim|skip
   exact wpAny_execs_nil ⟨.next,iy,iG,rfl,trivial,N⟩
  |_=>exact⟨f,iy,iG,rfl,h2,N⟩
 |exc k=>
  refine ao (hb ρ κ l σ s C H trivial _ _ e1) (λf' s' ⟨_,_,_,q,_⟩=>nomatch q) ?_;rintro v s' ⟨k',iy,iG,h1,R,N⟩;cases h1;refine ao (lM hT N H R) (λ_ s2 h2=> ?_) λ_ _ z=>z;obtain⟨N2,R2,hn⟩:=h2;have R3:=R2.held hf hn;refine ao (i7 none N2 H R3) (λ_ s4 h4=> ?_) λ_ _ z=>z;obtain⟨N4,R4⟩:=h4;obtain⟨e,ob,t,ctx,cause,sup,mem,a,wi,tc,rfl,f1,f2,f3,P,f9,g2,g3,P',g9⟩:=R4.h;rcases aH e2 with⟨tv,s3,e3,e4⟩|⟨k2,e3,_⟩
  ·by_cases hc:tv= .ty (jk k)/\T≠"__debug__"
   ·simp only [aD hc]at e4;obtain⟨fl,rfl,e5⟩:=eU e4;obtain⟨rfl,_⟩:=hc;refine wpAny_handleBy_builtin (b:=true) (Ha k) (Ed k) (JL k) ?_;have C4:Cfg X (A.mark (some (.ref e))) fe env iy iG s1.loc s1.hp s4:=N4.cfg.around rfl;have H4:jq X (A.mark (some (.ref e))) env 2 iy iG s4:=⟨(λq=>nomatch q),λq=>nomatch q⟩;refine ao (ht e iy iG s1.loc s1.hp s4 C4 H4 trivial _ _ e3) ?_ (λv s' q=>absurd q fE);rintro c s5 ⟨c',iR,iS,h1,h2,N5⟩;cases h1;have Ju:c= .type (jk k):=h2;have WU:=N4.trans (N5.unmark Oi);have R5:=R4.step N5.ext N4.cfg.rel.iz;obtain⟨e',EB,t',ctx',WQ,ZG,Z2,a',Zy,tc',nW,f1',f2',_⟩:=R5.h;cases nW;refine⟨Ju,⟨EB,f1',f2'⟩, ?_⟩;rw[aD rfl];refine ao (i7 none WU H R5) (λ_ s6 h6=> ?_) (λ_ _ z=>z);obtain⟨N6,R6⟩:=h6;have C6:Cfg X (A.mark (some (.ref e))) fe env iR iS s3.loc s3.hp s6:=N6.cfg.around rfl;have H6:jq X (A.mark (some (.ref e))) env 2 iR iS s6:=⟨(λq=>nomatch q),λq=>nomatch q⟩;refine ao (hh e iR iS s3.loc s3.hp s6 C6 H6 trivial _ _ e5) ?_ (λv s' q=>absurd q fE);rintro f' s7 ⟨JK,pn,qv,h1,h2,N7⟩;cases h1;exact⟨fl,pn,qv,rfl,h2,N6.trans (N7.unmark Oi)⟩
   ·simp only [aC hc]at e4;cases e4
  ·obtain⟨_,q⟩:=htk _ _ _ e3;cases q
theorem xX{h:PySem.Stmt} {f0 f1:PM dk} (hT:Top A env)
  (hb:aU X A fe env 0 bg (execs body env) bF FR) (h0:aU X A fe env 0 bg (execs (h::hs) env) f0 FR) (h1:∀e,aU X (A.mark (some (.ref e))) fe env 1 bg (execs (h::hs) env) f1 FR):
  aU X A fe env 0 bg (exec (.Try body [] [] (h::hs) pos) env) (do
   match<-PM.attempt bF with
   | .ok f=>do
    match<-f0 with
    | .next=>PM.pure f
    |_=>PM.stuck
   | .exc k=>if k= .late then PM.stuck else do
    match<-PM.attempt f1 with
    | .ok .next=>PM.raise k
    | .exc .late=>PM.raise .late
    |_=>PM.stuck) FR:=by
 intro ρ κ l σ s C H _ r st e;have Oi:=H.none_ rfl;obtain⟨VJ,hf⟩:=C.env.frame;refine wpAny_Try_finally ?_;rcases aH e with⟨q,s1,e1,e2⟩|⟨k,e1,_⟩
 case inr=>obtain⟨_,q,_⟩:=iq e1;cases q
 obtain⟨q',hq,e1⟩:=iq e1;cases hq;clear e;cases q with
 |ok f=>
  refine ao (hb ρ κ l σ s C H trivial _ _ e1) ?_ (λv s' q=>absurd q fE);rintro f' s' ⟨JK,iy,iG,q1,q2,N⟩;cases q1;have fin:wpAny (M X) A (execs (h::hs) env) (λg s'=>match g with| .next=>mM X A fe env 0 FR ρ κ s r st f' s'|g=>mM X A fe env 0 FR ρ κ s r st g s') (notedBy (M X) A env (cameBackBy (M X) A env (o6 X A fe env 0 ρ κ s r st))) s':=by
   rcases aH e2 with⟨g,s2,e3,e4⟩|⟨k,e3,rfl⟩
   ·refine ao (h0 iy iG s1.loc s1.hp s' N.cfg N.hok trivial _ _ e3) ?_ (λv s' q=>absurd q fE);rintro g' s3 ⟨g'',iR,iS,q3,q4,N2⟩;cases q3;cases g with
    |next=>
     cases e4;cases g'<;>first|exact q4.elim|exact⟨f,iR,iS,rfl,(by cases f'<;>cases f<;>first|exact q2|exact bC.mono N2.ext.sub q2),N.trans N2⟩
    |_=>cases e4
   ·refine ao (h0 iy iG s1.loc s1.hp s' N.cfg N.hok trivial _ _ e3) (λg' s3 ⟨_,_,_,q,_⟩=>nomatch q) (λv s' q=>pM hT H N q λk z=>z)
  cases f' with
  |next=>exact wpAny_execs_nil fin
  |_=>exact fin
 |exc k=>
  by_cases hk:k= .late
  ·simp only [aD hk]at e2;cases e2
  simp only [aC hk]at e2;refine ao (hb ρ κ l σ s C H trivial _ _ e1) (λf' s' ⟨_,_,_,q,_⟩=>nomatch q) ?_;rintro v s' ⟨k',iy,iG,q1,R,N⟩;cases q1;refine ao (lM (E:=λ_ _=>False) hT N H R) (λ_ s2 h2=> ?_) λ_ s2 h2=>h2.elim;obtain⟨N2,R2,hn⟩:=h2;refine⟨?_, ?_⟩
  ·obtain⟨e,_,_,_,rfl,_⟩:=hn;exact ref_ne_byPass e
  refine ao (lM hT N2 H R2) (λ_ s3 h3=> ?_) λ_ _ z=>z;obtain⟨N3,R3,Kt⟩:=h3;have R3':=R3.held hf Kt;refine ao (i7 none N3 H R3') (λ_ s4 h4=> ?_) λ_ _ z=>z;obtain⟨N4,R4⟩:=h4;have R4':=R4;obtain⟨e,ob,t,ctx,cause,sup,mem,a,wi,tc,rfl,g1,g2,g3,P,g9,uI,EH,P',g12⟩:=R4.h;have U8:=g9 Oi hk;subst U8;have C4:Cfg X (A.mark (some (.ref e))) fe env iy iG s1.loc s1.hp s4:=N4.cfg.around rfl;have H4:jq X (A.mark (some (.ref e))) env 1 iy iG s4:=⟨(λq=>nomatch q),λ_=>⟨e,ob,_,rfl,g1,g3,rfl,P.r,P.k,P.z,P.f,P.l⟩⟩;rcases aH e2 with⟨q,s2',e3,e4⟩|⟨k2,e3,_⟩
  case inr=>obtain⟨_,q,_⟩:=iq e3;cases q
  obtain⟨q',hq,e3⟩:=iq e3;cases hq;cases q with
  |ok g=>
   refine ao (h1 e iy iG s1.loc s1.hp s4 C4 H4 trivial _ _ e3) ?_ (λv s' q=>absurd q fE);rintro g' s5 ⟨g'',iR,iS,q3,q4,N5⟩;cases q3;cases g with
   |next=>
    cases e4;cases g'<;>first|exact q4.elim|skip
    have WU:=N4.trans (N5.unmark Oi);have R5:=R4'.step N5.ext N4.cfg.rel.iz;unfold PySem.passOn;refine aa (R5.A3 λa=> ?_);rw[aC (by simp)];refine aa (ao (i7 env.frame WU H R5) (λ_ s6 h6=> ?_) λ_ _ z=>z);obtain⟨N6,R6⟩:=h6;rw[hf]at R6;exact Rp ⟨k,_,_,rfl,R6.FO hf,N6⟩
   |_=>cases e4
  |exc k2=>
   cases k2 with
   |late=>
    cases e4;refine ao (h1 e iy iG s1.loc s1.hp s4 C4 H4 trivial _ _ e3) (λg' s3 ⟨_,_,_,q,_⟩=>nomatch q) ?_;rintro v5 s5 ⟨k5,Zo,Zr,q5,R5,N5⟩;cases q5;unfold notedBy;have Sx:Top (A.mark (some (.ref e))) env:=hT;refine ao (lM Sx N5 H4 R5) (λ_ s6 h6=> ?_) λ_ _ z=>z;obtain⟨N6,R6,UD⟩:=h6;have N6':=N4.trans (N6.unmark Oi);have R7:u4 X A env s4 Zo Zr .late v5 s6:=by
     obtain⟨e,ob,t,ctx,cause,sup,mem,tb,f0,f1,f2,f3,f4,f5,f6,f7,f8,f9,G9,JI⟩:=R6.h;exact⟨e,ob,t,ctx,cause,sup,mem,tb,f0,f1,f2,f3,f4,f5,f6,f7,f8,f9,λ_ q=>absurd rfl q,JI⟩
    have R8:=(R7.back N4.ext.alive).held hf UD;unfold cameBackBy;refine aa (R8.A3 λa=> ?_);rw[aC (by simp)];refine ao (i7 env.frame N6' H R8) (λ_ s9 h9=> ?_) λ_ _ z=>z;obtain⟨N9,R9⟩:=h9;rw[hf]at R9;exact⟨.late,_,_,rfl,R9.FO hf,N9⟩
   |_=>cases e4
end
end
section
open PySem.W.X
abbrev j4 (ifs:List PySem.Expr) (env:Env) (b:Bool):Sem Bool:=forIn ifs b λc r=>if r=true then do let ok<-PySem.isTrue c env (eval c env);pure (ForInStep.yield ok)else pure (ForInStep.yield r)
theorem ri:∀(ifs:List PySem.Expr) (env:Env),j4 ifs env false=pure false
 |[],_=>by unfold j4;rw[eG]
 |c::r,env=>by
  have:=ri r env;unfold j4 at this ⊢;rw[dX];simp only [bU,gH,pure_bind];exact this
theorem zS(c:PySem.Expr) (r:List PySem.Expr) (env:Env):j4 (c::r) env true=(PySem.isTrue c env (eval c env)>>=λok=>j4 r env ok):=by
 unfold j4;rw[dX];simp only [jM,bind_assoc,pure_bind]
def mv (elt:PySem.Expr) (gens:List Comprehension) (scope:Scope) (pos:Pos) (d:Nat) (acc:Value) (env:Env):Sem Unit:=match gens[d]? with
 |some g'=>do
  let x<-eval g'.iter env
  standAt g'.iter.pos
  let x<-if g'.is_async !=0 then foldedIterable g'.iter x else foldedSetIterable g'.iter env x
  let it<-holding [x] (if g'.is_async !=0 then asyncIter x else pyIter x)
  let _<-runOwn (.compStart (.ListComp elt gens scope pos) d it acc env) env
  pure ()
 |none=>do
  let a<-eval elt env
  let _<-call (.builtin "list.append") [acc,a]
  pure ()
section
variable {X:Bx} {A:Around} {fe:cn} {env:Env} {ρ κ bQ bR:List Addr} {bD s s':Shared}
theorem mq{r:Res pk} (e:rD x st=some (r,st')):(∃it,r= .ok it/\(∀n,it≠ .obj n)/\rE x st=some (.ok it,st'))\/(∃k,r= .exc k/\rE x st=some (.exc k,st')):=by
 unfold rD at e;rcases aH e with⟨it,s1,e1,e2⟩|⟨k,e1,rfl⟩
 ·refine .inl ⟨it, ?_⟩;cases it<;>first| (cases e2;exact⟨rfl,(λn q=>nomatch q),e1⟩)| (cases e2)
 ·exact .inr ⟨k,rfl,e1⟩
theorem AA{it:pk} (h:Bk ρ s.heap I it) (hn:∀n,it≠ .obj n) (hQ:Q (.ref I) s):wpAny (M X) A (pyIter (.ref I)) Q E s:=by
 cases it with
 |list n i=>obtain⟨a,_,h⟩:=h;exact Oy h hQ
 |tup n i=>obtain⟨a,_,h⟩:=h;exact wpAny_pyIter_tupleiter h hQ
 |mH a b=>obtain⟨n,h,_⟩:=h;exact wpAny_pyIter_rangeiter h hQ
 |jz n i len ep=>obtain⟨a,_,h⟩:=h;exact wpAny_pyIter_keyiter h hQ
 |gy n i len ep=>obtain⟨a,_,h⟩:=h;exact wpAny_pyIter_valiter h hQ
 |obj n=>exact absurd rfl (hn n)
structure uw (X:Bx) (A:Around) (fe:cn) (env:Env) (C:Cx) (g:Comprehension):Prop where
 asg:∀x v,aU X A fe env 0 (λρ=>bC ρ x v) (assign g.target env v) (cq C g.target fe x) UR
 tests:aU X A fe env 0 bg (j4 g.ifs env true) (jK C g.ifs fe) BR
 iter:aU X A fe env 0 bg (eval g.iter env) (ev C g.iter fe) VR
theorem Eh{d:Nat} {acc:Value} {g:Comprehension} {bF:PM Unit} (hm:∀ρ bX,Sub ρ bX->Pre ρ->Pre bX) (hg:gens[d]? =some g) (has:g.is_async=0) (K:uw X A fe env C g)
  (hb:aU X A fe env 0 Pre (mv elt gens scope pos (d+1) acc env) bF UR) {n:Nat} {l:Loc} {σ:Hp} {it:pk} {I:Addr} {st:AS} (N:bJ X A fe env 0 bQ bR bD ⟨l,σ⟩ ρ κ s) (hI:n9 X A env ρ κ bD s I it) (hP:Pre ρ)
  (e:compLoop n (λv=>cq C g.target fe v) (jK C g.ifs fe) bF it ⟨l,σ⟩=some (.ok (),st)) (E:Value->Shared->Prop):
  codeAny (M X) A (.compLoop (.ListComp elt gens scope pos) d (.ref I) acc env) (λr s'=>match r with| .ok _=>mM X A fe env 0 (λρ _ _=>Pre ρ) bQ bR bD (.ok ()) st () s'| .error e=>E e s') s:=by
 refine codeAny_loop rfl (λm s=>∃ρ κ l σ it,bJ X A fe env 0 bQ bR bD ⟨l,σ⟩ ρ κ s/\n9 X A env ρ κ bD s I it/\Pre ρ/\compLoop m (λv=>cq C g.target fe v) (jK C g.ifs fe) bF it ⟨l,σ⟩=some (.ok (),st)) ?_ n ⟨ρ,κ,l,σ,it,N,hI,hP,e⟩;clear e hI N hP;rintro m s ⟨ρ,κ,l,σ,it,N,hI,hP,e⟩;show wpAny _ A ((compTurn (.ListComp elt gens scope pos) d (.ref I) acc env).onRaise (λx=>do noteFrame x env;theTreesLotGoes x)) _ _ s;refine wpAny_noted ?_;cases m with
 |zero=>cases e
 |succ m=>
  unfold compLoop at e;rcases aH e with⟨o,s1,e1,e2⟩|⟨k,_,q⟩
  case inr=>cases q
  unfold compTurn;simp only [hg,has];refine aa (c7 ?_);refine aa (ao (nT N hI e1) ?_ λ_ _ z=>z);intro o' s' ht;cases o with
  |none=>
   obtain⟨rfl,N1⟩:=ht;cases e2;exact ae ⟨(),_,_,rfl,hP,N1⟩
  |some p=>
   obtain⟨x,tK⟩:=p;obtain⟨v,rfl,hv,N1,QI,o,tn,HQ,ho2,Jl⟩:=ht;rcases aH e2 with⟨⟨⟩,s2,e3,e4⟩|⟨k,_,q⟩
   case inr=>cases q
   rcases aH e4 with⟨b,s3,e5,e6⟩|⟨k,_,q⟩
   case inr=>cases q
   refine aa (letGo HQ ho2 Jl ?_);refine aa (ao (K.asg x v ρ κ s1.loc s1.hp s' N1.cfg N1.hok hv _ _ e3) ?_ (λv s' q=>absurd q fE));rintro _ s4 ⟨_,iR,iS,_,_,N2⟩;have K8:=N1.trans N2;have KL:=QI.step N1.cfg.rel.iz N2.ext;have Vp:=hm _ _ N2.ext.sub hP;refine aa (ao (K.tests iR iS s2.loc s2.hp s4 N2.cfg N2.hok trivial _ _ e5) ?_ (λv s' q=>absurd q fE));rintro b' s5 ⟨WR,pn,qv,Cm,HW,N3⟩;cases Cm;cases HW;have Nw:=K8.trans N3;have QH:=KL.step N2.cfg.rel.iz N3.ext;have Vo:=hm _ _ N3.ext.sub Vp;cases b with
   |false=>
    have e7:(PM.pure ()>>=λ_:Unit=>compLoop m (λv=>cq C g.target fe v) (jK C g.ifs fe) bF tK) s3=some (.ok (),st):=e6;rcases aH e7 with⟨⟨⟩,s6,e7,e8⟩|⟨k,_,q⟩
    case inr=>cases q
    cases e7;exact ae ⟨rfl,m,dq m,pn,qv,_,_,tK,Nw,QH,Vo,e8⟩
   |true=>
    have e7:(bF>>=λ_:Unit=>compLoop m (λv=>cq C g.target fe v) (jK C g.ifs fe) bF tK) s3=some (.ok (),st):=e6;rcases aH e7 with⟨⟨⟩,s6,e7,e8⟩|⟨k,_,q⟩
    case inr=>cases q
    simp only [jM];have go:wpAny (M X) A (mv elt gens scope pos (d+1) acc env>>=λ_=>again (.compLoop (.ListComp elt gens scope pos) d (.ref I) acc env)) (λfin s'=>match fin with
      | .done f=>(match(Except.ok f:Result)with| .ok _=>mM X A fe env 0 (λρ _ _=>Pre ρ) bQ bR bD (.ok ()) st () s'| .error e=>E e s')
      | .again c'=>c'= .compLoop (.ListComp elt gens scope pos) d (.ref I) acc env/\∃m',m'<m+1/\∃ρ κ l σ it,bJ X A fe env 0 bQ bR bD ⟨l,σ⟩ ρ κ s'/\n9 X A env ρ κ bD s' I it/\Pre ρ/\compLoop m' (λv=>cq C g.target fe v) (jK C g.ifs fe) bF it ⟨l,σ⟩=some (.ok (),st))
      (notedBy (M X) A env λe s'=>E e s') s5:=by
     refine aa (ao (hb pn qv s3.loc s3.hp s5 N3.cfg N3.hok Vo _ _ e7) ?_ (λv s' q=>absurd q fE));rintro _ s7 ⟨_,Zq,Zt,_,_,N4⟩;exact ae ⟨rfl,m,dq m,Zq,Zt,_,_,tK,Nw.trans N4,QH.step N3.cfg.rel.iz N4.ext,hm _ _ N4.ext.sub Vo,e8⟩
    unfold mv at go;cases Sn:gens[d+1]? with
    |none=>
     simp only [Sn,bind_assoc,pure_bind]at go ⊢;refine ao go (λfin s' h=> ?_) λ_ _ z=>z;cases fin<;>exact h
    |some g'=>
     simp only [Sn,bind_assoc,pure_bind]at go ⊢;cases ha:(g'.is_async !=0)<;>simp only [ha,jM,bU,gH,bind_assoc,pure_bind]at go ⊢ <;>refine ao go (λfin s' h=> ?_) λ_ _ z=>z
     all_goals (cases fin<;>exact h)
end
end
section
open PySem.W.X
section
variable {X:Bx} {A:Around} {fe:cn} {env:Env} {ρ κ bQ bR:List Addr} {bD s s':Shared}
theorem ub{d:Nat} {acc:Value} {g:Comprehension} {bF:PM Unit} (hm:∀ρ bX,Sub ρ bX->Pre ρ->Pre bX) (hg:gens[d]? =some g) (has:g.is_async=0) (K:uw X A fe env C g)
  (hb:aU X A fe env 0 Pre (mv elt gens scope pos (d+1) acc env) bF UR) {n:Nat} {l:Loc} {σ:Hp} {it:pk} {I:Addr} {st:AS} (N:bJ X A fe env 0 bQ bR bD ⟨l,σ⟩ ρ κ s) (hI:n9 X A env ρ κ bD s I it) (hP:Pre ρ) (hn:∀n,it≠ .obj n)
  (e:compLoop n (λv=>cq C g.target fe v) (jK C g.ifs fe) bF it ⟨l,σ⟩=some (.ok (),st)) (E:Value->Shared->Prop):
  codeAny (M X) A (.compStart (.ListComp elt gens scope pos) d (.ref I) acc env) (λr s'=>match r with| .ok _=>mM X A fe env 0 (λρ _ _=>Pre ρ) bQ bR bD (.ok ()) st () s'| .error e=>E e s') s:=by
 have L:=Eh hm hg has K hb N hI hP e E;refine Eu ?_;show wpAny _ A ((compStart (.ListComp elt gens scope pos) d (.ref I) acc env).onRaise (λx=>do noteFrame x env;standAt theWindowsPlace)) _ _ s;refine wpAny_notedAt ?_;have hc:clausesOf (.ListComp elt gens scope pos)=gens:=rfl;have go:wpAny (M X) A (do
   if(<-ask).params.followText "comprehension-iter-twice" then return<-again (.compLoop (.ListComp elt gens scope pos) d (.ref I) acc env)
   rule "comprehension.iter-twice"
   if let some g:=(clausesOf (.ListComp elt gens scope pos))[d]? then standAt g.iter.pos
   again (.compLoop (.ListComp elt gens scope pos) d (<-pyIter (.ref I)) acc env)) (λfin s'=>match fin with
    | .done f=>(match(Except.ok f:Result)with| .ok _=>mM X A fe env 0 (λρ _ _=>Pre ρ) bQ bR bD (.ok ()) st () s'| .error e=>E e s')
    | .again c'=>c'.quiet=true/\codeAny (M X) A c' (λr s'=>match r with| .ok _=>mM X A fe env 0 (λρ _ _=>Pre ρ) bQ bR bD (.ok ()) st () s'| .error e=>E e s') s') (notedBy (M X) A env λe s'=>E e s') s:=by
  refine aa (ql (wpAny_ite ?_));split
  ·first
    |exact aa (ae (ae (And.intro rfl L)))
    |exact ae (And.intro rfl L)
  ·simp only [hc,hg];refine aa (jV ?_);refine aa (c7 ?_);exact aa (AA hI.at_ hn (ae (And.intro rfl L)))
 unfold compStart;simp only [hc,hg,has,Option.elim];simp only [hc,hg]at go;exact go
theorem y7(G:bZ X) {C:Cx} {elt:PySem.Expr} {gens:List Comprehension} {scope:Scope} {pos:Pos} {acc:Value} {eF:PM Unit} {Pre:List Addr->Prop} (hm:∀ρ bX,Sub ρ bX->Pre ρ->Pre bX)
  (he:aU X A fe env 0 Pre (do
   let a<-eval elt env
   let _<-call (.builtin "list.append") [acc,a]
   pure ()) eF UR):∀(gs pre:List Comprehension) (_:gens=pre++gs) (_:∀g∈gs,uw X A fe env C g),aU X A fe env 0 Pre (mv elt gens scope pos pre.length acc env) (mw C gs fe eF) UR
 |[],pre,hg,_=>by
  have:gens[pre.length]? =none:=by rw[hg,aX];simp
  unfold mv mw;rw[this];exact he
 |⟨t,iter,ifs,as⟩::gs,pre,hg,K=>by
  have Cg:gens[pre.length]? =some ⟨t,iter,ifs,as⟩:=by rw[hg];simp
  have K0:=K _ (aj ..);have ih:=y7 (gens:=gens) (scope:=scope) (pos:=pos) (acc:=acc) G hm he gs (pre++[⟨t,iter,ifs,as⟩]) (by rw[hg];simp) λg h=>K g (ah _ h);rw[af]at ih;intro ρ κ l σ s Cf H hP r st e;unfold mv;rw[Cg];unfold mw at e;have k_tabat:(cM iter||as !=0||C.hd !=0)=false:=by
   cases hb:(cM iter||as !=0||C.hd !=0)with
   |false=>rfl
   |true=>rw[hb]at e;cases e
  rw[k_tabat,aC bL]at e;simp only [Bool.or_eq_false_iff,u6]at k_tabat;obtain⟨⟨wV,rfl⟩,_⟩:=k_tabat;rcases aH e with⟨x,s1,e1,e2⟩|⟨k,e1,rfl⟩
  ·refine aa (ao (K0.iter ρ κ l σ s Cf H trivial _ _ e1) ?_ (λv s' q=>absurd q fE));rintro v s' ⟨x',iy,iG,xB,Ca,N1⟩;cases xB;refine aa (c7 ?_);rw[aC (show ¬(((0:Int) !=0)=true)from bL)];refine aa (bo (i6 wV _) ?_);rcases aH e2 with⟨it,s2,e3,e4⟩|⟨k,e3,_⟩
   ·rcases mq e3 with⟨tK,hit,hn,He⟩|⟨k,hk,_⟩
    case inr=>cases hk
    cases hit;obtain⟨rfl,tK,hit,w⟩:=jA (E:=o6 X A fe env 0 ρ κ s r st) G N1.cfg N1.hok Ca (st:=s2) He;cases hit;refine aa (aQ (ao w ?_ λ_ _ z=>z));rintro wv s3 ⟨I,rfl,N2,hI,_⟩;obtain⟨⟨⟩,rfl,e5⟩:=eU e4;have Vp:=hm _ _ (N1.ext.sub.trans N2.ext.sub) hP;refine aa (wpAny_runOwn (dU (ub hm Cg rfl K0 ih N2 hI Vp hn e5 (λ_ _=>False)) ?_));rintro(f|f) s4 h4
    ·exact h4.elim
    ·obtain⟨b,bX,κ',h1,h2,h3⟩:=h4;exact ae ⟨b,bX,κ',h1,trivial,N1.trans h3⟩
   ·rcases mq e3 with⟨tK,hit,_⟩|⟨k',hk,He⟩
    ·cases hit
    ·obtain⟨_,tK,hit,_⟩:=jA (E:=λ_ _=>True) G N1.cfg N1.hok Ca He;cases hit
  ·refine aa (ao (K0.iter ρ κ l σ s Cf H trivial _ _ e1) ?_ (λv s' q=>q.cast λk z=>by cases z;rfl));rintro v s' ⟨x',iy,iG,xB,_⟩;cases xB
end
end
section
open PySem.W.X
def cQ (scope:Scope) (env:Env):Scope:=
 {scope with names:=scope.names.map fun(n,k)=>if(k== .free&&env.scope.kind== .function&&env.kindOf n==some .cell)=true then(n,.cell)else(n,k)}
theorem ry(g:Str->NameKind->NameKind) (f:Str×NameKind->Str×NameKind) (hf:∀n k,f (n,k)=(n,g n k)) (x:Str):∀l:List (Str×NameKind),(l.map f).lookup x=(l.lookup x).map (g x)
 |[]=>rfl
 | (n,k)::r=>by
  rw[aS,hf,az,az];cases hb:x==n with
  |true=>rw[eq_of_beq hb];rfl
  |false=>exact ry g f hf x r
theorem kG(scope:Scope) (env:Env) (x:Str):(cQ scope env).names.lookup x=(scope.names.lookup x).map λk=>if(k== .free&&env.scope.kind== .function&&env.kindOf x==some .cell)=true then .cell else k:=by
 unfold cQ;refine ry (λx k=>if(k== .free&&env.scope.kind== .function&&env.kindOf x==some .cell)=true then .cell else k) _ (λn k=> ?_) x scope.names;dsimp only;split<;>rfl
section
variable {M:Model} {A:Around} {E:Value->Shared->Prop} {s:Shared} {env:Env}
def qk (M:Model) (A:Around) (E:Value->Shared->Prop) (env:Env) (e:PySem.Expr) (scope:Scope) (oO first:Sem Value) (K:Value->Addr->Shared->Prop) (s:Shared):Prop:=
 wpAny M A first (λx s₁=>wpAny M A (pyIter x) (λit s₂=>wpAny M A oO (λacc CV=>∃rc,closureFor scope env=pure rc/\
   wpAny M A (newFunctionEnv scope env.globals rc [] env.qual none .none (some env)) (λcenv LO=>
    codeAny M A (.compStart e 0 it acc {cenv with scope:=cQ scope env}) (λr s'=>match r with| .ok _=>K acc cenv.locals s'| .error _=>False) LO) E CV) E s₂) E s₁) E s
theorem qe{e:PySem.Expr} {pos:Pos} {oO first:Sem Value} {g:Comprehension}
  (w0:clausesOf e=g::gs) (hs:∀x,foldedSetIterable g.iter env x=pure x) (fw:scope.kind= .function) (nA:iT scope=true)
  (h:qk M A E env e scope oO first (λacc L s'=>∃m,s'.heap.Ns L m/\∀h',Heap.SameBut L s'.heap h'->Q acc {s' with heap:=h'}) s):
  wpAny M A (comprehension e scope env pos oO false first) Q E s:=by
 unfold comprehension;rw[w0];refine aa (ao h (λx s₁ fF=>aa (c7 (aa (bo (hs x) (aa (aQ (ao fF (λit s₂ h₂=>
  wpAny_standIf (aa (ao h₂ (λacc CV wR=> ?_) λ_ _ h'=>h')))
   λ_ _ h'=>h'))))))) λ_ _ h'=>h')
 obtain⟨rc,ML,wR⟩:=wR;rw[ML];refine aa (ae (aa (ao wR (λcenv LO My=> ?_) λ_ _ h'=>h')));dsimp only;have hv:∀x∈(scope.names.filter λx=>(x.2== .local||x.2== .cell)&&x.1 !=(".0":Str)).reverse,x.2= .local->
   Env.kindOf {cenv with scope:=cQ scope env} x.1=some .local:=λx hx hl=>by
  have hm:=(gx.mp (List.mem_reverse.mp hx)).1;have hp:=ee.mp nA x hm;rw[hl]at hp;have hp:scope.names.lookup x.1=some .local:=by simpa using hp
  show(cQ scope env).names.lookup x.1=some .local
  rw[kG,hp];rfl
 refine aQ (aa (gR (aQ (wpAny_run (dU My λr s' hr=> ?_)))));cases r with
 |ok f=>
  obtain⟨m,hn,hr⟩:=hr;exact aa (aQ (wpAny_comp_letGo (cenv:={cenv with scope:=cQ scope env}) (show(cQ scope env).kind= .function from fw) _ s' m hv hn λh' m' _ tR=>ae (hr h' tR)))
 |error x=>exact hr.elim
theorem kY{e:PySem.Expr} {pos:Pos} {oO first:Sem Value} {g:Comprehension} {u:Value->Sem Unit}
  (w0:clausesOf e=g::gs) (hs:∀x,foldedSetIterable g.iter env x=pure x) (fw:scope.kind= .function) (nA:iT scope=true)
  (h:qk M A E env e scope oO first (λacc L s'=>wpAny M A (u acc) (λ_ HP=>∃m,HP.heap.Ns L m/\∀h',Heap.SameBut L HP.heap h'->Q .none {HP with heap:=h'}) E s') s):
  wpAny M A (comprehension e scope env pos oO false first (some u)) Q E s:=by
 unfold comprehension;rw[w0];refine aa (ao h (λx s₁ fF=>aa (c7 (aa (bo (hs x) (aa (aQ (ao fF (λit s₂ h₂=>
  wpAny_standIf (aa (ao h₂ (λacc CV wR=> ?_) λ_ _ h'=>h')))
   λ_ _ h'=>h'))))))) λ_ _ h'=>h')
 obtain⟨rc,ML,wR⟩:=wR;rw[ML];refine aa (ae (aa (ao wR (λcenv LO My=> ?_) λ_ _ h'=>h')));dsimp only;have hv:∀x∈(scope.names.filter λx=>(x.2== .local||x.2== .cell)&&x.1 !=(".0":Str)).reverse,x.2= .local->
   Env.kindOf {cenv with scope:=cQ scope env} x.1=some .local:=λx hx hl=>by
  have hm:=(gx.mp (List.mem_reverse.mp hx)).1;have hp:=ee.mp nA x hm;rw[hl]at hp;have hp:scope.names.lookup x.1=some .local:=by simpa using hp
  show(cQ scope env).names.lookup x.1=some .local
  rw[kG,hp];rfl
 have nW:∀x∈(scope.names.filter λx=>(x.2== .local||x.2== .cell)&&x.1 !=(".0":Str)).reverse.drop 1++(scope.names.filter λx=>(x.2== .local||x.2== .cell)&&x.1 !=(".0":Str)).reverse.take 1,
   x.2= .local->Env.kindOf {cenv with scope:=cQ scope env} x.1=some .local:=λx hx hl=>by
  rcases au.mp hx with h1|h1
  ·exact hv x (gI h1) hl
  ·exact hv x (List.mem_of_mem_take h1) hl
 refine aQ (aa (gR (aQ (wpAny_run (dU My λr s' hr=> ?_)))));cases r with
 |ok f=>
  refine aa (jV (aa (aQ (ao hr (λ_ HP pj=> ?_) λ_ _ h'=>h'))));obtain⟨m,hn,pj⟩:=pj;exact aa (wpAny_comp_letGo (cenv:={cenv with scope:=cQ scope env}) (show(cQ scope env).kind= .function from fw) _ HP m nW hn λh' m' _ tR=>ae (pj h' tR))
 |error x=>exact hr.elim
end
section
variable {X:Bx} {A:Around} {fe:cn} {env:Env} {ρ κ bQ bR:List Addr} {bD s s':Shared}
theorem Ext.keepsAll {S3:List Addr} {L':Addr} (x:Ext X Fs L ρ κ s bX κ' s') (k:∀b o,s.heap.get? b=some o->s'.heap.get? b=some o):Ext X S3 L' ρ κ s bX κ' s':=
 ⟨x.sub,x.uL,x.pO,x.qI,λb o e=>⟨o,k b o e⟩,λb o e _ _ _=>⟨⟨o.slots,k b o e⟩,λ_=>k b o e⟩⟩
theorem Ext.drop (x:Ext X (L::Fs) L ρ κ s bX κ' s'):Ext X Fs L ρ κ s bX κ' s':=
 ⟨x.sub,x.uL,x.pO,x.qI,x.alive,λb o e h1 h2 h3=>let ⟨p,q⟩:=x.fr b o e h1 h2 h3;⟨p,λhf=>q λz=>(aK.mp z).elim h2 hf⟩⟩
theorem Ext.sameBut {HP:Shared} (x:Ext X Fs L ρ κ s bX κ' s') (hL:s.heap.get? L=none) (hs:∀b,b≠L->HP.heap.get? b=s'.heap.get? b):Ext X Fs L ρ κ s bX κ' HP:=by
 have ne:∀b o,s.heap.get? b=some o->b≠L:=λb o e q=>by rw[q,hL]at e;cases e
 refine⟨x.sub,x.uL,x.pO,x.qI,λb o e=> ?_,λb o e h1 h2 h3=> ?_⟩
 ·obtain⟨o',e'⟩:=x.alive b o e;exact⟨o',(hs b (ne b o e)).trans e'⟩
 ·obtain⟨⟨sl,p⟩,q⟩:=x.fr b o e h1 h2 h3;exact⟨⟨sl,(hs b h2).trans p⟩,λhf=>(hs b h2).trans (q hf)⟩
theorem Cfg.II {sc:Scope} {Tv:Scope} {cs:List (Str×Nat)} (C:Cfg X A ⟨Tv,cs,none⟩ env ρ κ l σ s) (hk:sc.kind= .function) (hn:∀x,CE (Tv.names.lookup x) (sc.names.lookup x)):Cfg X A ⟨Tv,cs,none⟩ {env with scope:=sc} ρ κ l σ s:=
 ⟨C.rel,C.ns,C.lr,C.lk,C.l0,⟨hk,hn,C.env.cells,C.env.glob,C.env.bu,C.env.frame,λc q=>nomatch q⟩,C.oq⟩
theorem bJ.Kc (N:bJ X A fe env 0 bQ bR bD st ρ κ s) (P:Apart X A env ρ κ bD a) (hk:∀b o,b≠a->s.heap.get? b=some o->s'.heap.get? b=some o) (hg:s'.gens=s.gens) (ho:s'.os=s.os):bJ X A fe env 0 bQ bR bD st ρ κ s':=
 N.kQ ⟨P.oZ,P.r,P.k,P.z,P.f,P.l⟩ hk hg ho
theorem qR(G:bZ X) {t:PySem.Expr} {ifs:List PySem.Expr} (fw:scope.kind= .function)
  (hi:aU X A fe env 0 bg (eval iter env) (ev C iter fe) VR) (hg:∀ir bE,∀g∈(⟨t,iter,ifs,0⟩:Comprehension)::gs,uw X A ir bE C g) (he:∀ir bE,aU X A ir bE 0 bg (eval elt bE) (ev C elt ir) VR)
  {l:Loc} {σ:Hp} (Cf:Cfg X A fe env ρ κ l σ s) (H:jq X A env 0 ρ κ s) {r:Res AV} {st:AS} (e:(do
   let x<-ev C iter fe
   let it<-rD x
   let acc<-PM.alloc (.list [])
   let cl<-PM.b8 (qh scope.names fe)
   let cells<-dJ scope.names cl
   PM.within [] (compLoop C.fuel (λv=>cq C t ⟨scope,cells,.none⟩ v) (jK C ifs ⟨scope,cells,.none⟩)
    (mw C gs ⟨scope,cells,.none⟩ (do
     let v<-ev C elt ⟨scope,cells,.none⟩
     sP acc v)) it)
   PM.pure (.ref acc):PM AV) ⟨l,σ⟩=some (r,st)) {K:Value->Addr->Shared->Prop} {E:Value->Shared->Prop} (hE:∀v s',o6 X A fe env 0 ρ κ s r st v s'->E v s')
  (hK:∀n acc L bX κ' s',r= .ok (.ref n)->bC bX (.ref n) acc->bJ X A fe env 0 ρ κ s st bX κ' s'->Apart X A env bX κ' s L->(∃m,s'.heap.Ns L m)->K acc L s'):
  qk (M X) A E env (.ListComp elt (⟨t,iter,ifs,0⟩::gs) scope pos) scope (newList []) (eval iter env) K s:=by
 unfold qk;rcases aH e with⟨x,s1,e1,e2⟩|⟨k,e1,rfl⟩
 case inr=>
  refine ao (hi ρ κ l σ s Cf H trivial _ _ e1) ?_ (λv s' q=>hE _ _ (q.cast λk z=>by cases z;rfl));rintro v s' ⟨x',iy,iG,xB,_⟩;cases xB
 refine ao (hi ρ κ l σ s Cf H trivial _ _ e1) ?_ (λv s' q=>absurd q fE);rintro v s' ⟨x',iy,iG,xB,Ca,N1⟩;cases xB;rcases aH e2 with⟨it,s2,e3,e4⟩|⟨k,e3,_⟩
 case inr=>
  rcases mq e3 with⟨tK,hit,_⟩|⟨k',hk,He⟩
  ·cases hit
  ·obtain⟨_,tK,hit,_⟩:=jA (E:=λ_ _=>True) G N1.cfg N1.hok Ca He;cases hit
 rcases mq e3 with⟨tK,hit,hn,He⟩|⟨k,hk,_⟩
 case inr=>cases hk
 cases hit;obtain⟨rfl,tK,hit,w⟩:=jA (E:=E) G N1.cfg N1.hok Ca (st:=s2) He;cases hit;refine ao w ?_ λ_ _ z=>z;clear w e e1 e2 e3;rintro wv s3 ⟨I,rfl,N2,hI,PD⟩;refine o9 ?_ (by simp);have D3:s3.heap.get? s3.heap.objs.size=none:=et (aJ _);have N3:=bJ.push (t:=s3.toks) (o:= .list []) (ob:=gk [] 0) N2.cfg N2.hok rfl λeo=>⟨[],0,eo,trivial,by simp⟩
 replace e4:=bY e4
 obtain⟨cl,w0,e5⟩:=jF e4;clear e4;obtain⟨rc,ML,Ol⟩:=Cv N3.cfg.env w0;refine⟨rc,ML, ?_⟩;rcases aH e5 with⟨cells,s5,e6,e7⟩|⟨k',e6,_⟩
 case inr=>obtain⟨_,q,_⟩:=ew e6;cases q
 rcases aH e7 with⟨⟨⟩,s7,e8,e9⟩|⟨k',e8,_⟩
 case inr=>obtain⟨_,_,_,q,_⟩:=iY e8;cases q
 cases e9;obtain⟨⟨⟩,s9,e10,_,rfl⟩:=iY e8;obtain⟨cl',Vc,f_list⟩:=ew e6;cases Vc;clear e5 e7 e8;rw[show env.globals=mainGlobals from N3.cfg.env.glob]
 refine qP (lP:=none) (around:=some env) (bs:=[]) N3.cfg N3.hok fw N3.cfg.env.bu (λo q=>by cases q;exact N3.cfg.env.frame) (λc q=>nomatch q) Ol (trivial) (m5:=⟨[],s5.hp⟩) e6 rfl λbE bX κ' s4 hE C4 H4 W0 Yu=> ?_;have hnm:∀x,CE (scope.names.lookup x) ((cQ scope env).names.lookup x):=λx=>by
  rw[kG];cases hl:scope.names.lookup x with
  |none=>exact⟨.inl rfl⟩
  |some k=>
   show CE (some k) (some (if _ then _ else _));split
   ·rename_i hc;simp only [cG,gT]at hc;exact⟨.inr ⟨.inl (by rw[hc.1.1]),.inr rfl⟩⟩
   ·exact⟨.inl rfl⟩
 have C5:=C4.II (sc:=cQ scope env) fw hnm;have H5:jq X A {bE with scope:=cQ scope env} 0 bX κ' s4:=⟨H4.none_,λq=>nomatch q⟩;have Kk:∀b o,s'.heap.get? b=some o->(s3.heap.push (gk [] 0)).get? b=some o:=λb o e=>aB _ (PD b o e);have QF:s'.heap.get? bE.locals=none:=by
  cases q:s'.heap.get? bE.locals with
  |none=>rfl
  |some o=>
   have:=Kk _ _ q;rw[show(s3.heap.push (gk [] 0)).get? bE.locals=none from Yu]at this
   cases this
 have E24:Ext X (bE.locals::b7 A) bE.locals iy iG s' (iy++[s3.heap.objs.size]) iG {s3 with heap:=s3.heap.push (gk [] 0),toks:=s3.toks}:=(N2.ext.trans N3.ext).keepsAll Kk;have N5:bJ X A ⟨scope,cells,none⟩ {bE with scope:=cQ scope env} 0 iy iG s' ⟨[],s5.hp⟩ bX κ' s4:=⟨(E24.trans W0).drop,C5,H5⟩;obtain⟨oI,Uz⟩:∃o,s3.heap.get? I=some o:=by
  rcases hI.at_.there with⟨n,q⟩|q
  ·exact absurd q (hn n)
  ·exact q
 have QG:o7 X A env iy iG s' I:=hI.out.elim (λ⟨n,q⟩=>absurd q (hn n)) id;have hI4:n9 X A {bE with scope:=cQ scope env} (iy++[s3.heap.objs.size]) iG s' {s3 with heap:=s3.heap.push (gk [] 0),toks:=s3.toks} I it:=by
  refine⟨hI.at_.keep (Sub.append _ _) (.inr λo e=>aB _ e),.inr ⟨QG.oZ,λq=> ?_,QG.k,QG.z,QG.f,λq=> ?_⟩⟩
  ·rcases au.mp q with q|q
   ·exact QG.r q
   ·rw[aA]at q;rw[q,D3]at Uz;cases Uz
  ·have q1:I=bE.locals:=q;have:=aB (gk [] 0) Uz;rw[q1,show(s3.heap.push (gk [] 0)).get? bE.locals=none from Yu]at this
   cases this
 have hI5:n9 X A {bE with scope:=cQ scope env} bX κ' s' s4 I it:=hI4.step N3.cfg.rel.iz W0.drop;have yO:(iy++[s3.heap.objs.size])[s1.hp.length]? =some s3.heap.objs.size:=N2.cfg.newest;have hP5:bC bX (.ref s1.hp.length) (.ref s3.heap.objs.size):=⟨_,W0.sub _ _ yO,rfl⟩;have hm:∀ρ bX:List Addr,Sub ρ bX->bC ρ (.ref s1.hp.length) (.ref s3.heap.objs.size)->bC bX (.ref s1.hp.length) (.ref s3.heap.objs.size):=λ_ _ x y=>y.mono x;have emit:aU X A ⟨scope,cells,none⟩ {bE with scope:=cQ scope env} 0 (λρ=>bC ρ (.ref s1.hp.length) (.ref s3.heap.objs.size)) (do
   let a<-eval elt {bE with scope:=cQ scope env}
   let _<-call (.builtin "list.append") [.ref s3.heap.objs.size,a]
   pure ()) (do
    let v<-ev C elt ⟨scope,cells,.none⟩
    sP s1.hp.length v) UR:=by
  refine aU.bind hm ((he _ _).pre λ_ _=>trivial) λa b=> ?_;unfold sP;refine aU.bind (R:=VR) (λ_ _ x y=>⟨y.1.mono x,y.2.mono x⟩) ?_ λ_ _=>aU.pure λ_ _=>trivial;exact(qD G (λ_ _=>PM.stuck) (.lst "append") rfl (.ref s1.hp.length) [b] (.ref s3.heap.objs.size) [a]).pre λρ h=>⟨h.1,h.2,trivial⟩
 have body:=y7 (pos:=pos) (scope:=scope) (gens:=⟨t,iter,ifs,0⟩::gs) G hm emit gs [⟨t,iter,ifs,0⟩] rfl λg h=>hg _ _ g (ah _ h);have K0:=hg ⟨scope,cells,none⟩ {bE with scope:=cQ scope env} _ (aj ..);refine dU (ub hm (d:=0) rfl rfl K0 body N5 hI5 hP5 hn e10 (λ_ _=>False)) ?_;rintro(f|f) s6 h6
 ·exact h6.elim
 obtain⟨_,Xi,Xj,_,P6,N6⟩:=h6;obtain⟨m6,UD,_⟩:=N6.cfg.ns;have R6:=N6.cfg.rel;have E7:Ext X (bE.locals::b7 A) bE.locals iy iG s' Xi Xj s6:=N6.ext.weaken λb hb=>ah _ hb;have B:=bJ.back N1.cfg N1.hok QF E7 R6;have hl:s5.loc=s1.loc:=f_list;have f1:=N1.cfg.fresh QF;refine hK s1.hp.length _ bE.locals Xi Xj s6 rfl P6 ?_ ⟨?_,N6.cfg.lr,N6.cfg.lk,N6.cfg.l0,f1.2.2.2.1,f1.2.2.2.2⟩ ⟨m6,UD⟩
 ·rw[hl];exact N1.trans B
 ·cases q:s.heap.get? bE.locals with
  |none=>rfl
  |some o=>obtain⟨o',e'⟩:=N1.ext.alive _ o q;rw[QF]at e';cases e'
theorem wz(G:bZ X) {t:PySem.Expr} {ifs:List PySem.Expr} {as:Int} (wV:cM iter=false) (has:as=0) (fw:scope.kind= .function) (nA:iT scope=true)
  (hi:aU X A fe env 0 bg (eval iter env) (ev C iter fe) VR) (hg:∀ir bE,∀g∈(⟨t,iter,ifs,as⟩:Comprehension)::gs,uw X A ir bE C g) (he:∀ir bE,aU X A ir bE 0 bg (eval elt bE) (ev C elt ir) VR):
  aU X A fe env 0 bg (eval (.ListComp elt (⟨t,iter,ifs,as⟩::gs) scope pos) env) (do
   let x<-ev C iter fe
   let it<-rD x
   let acc<-PM.alloc (.list [])
   let cl<-PM.b8 (qh scope.names fe)
   let cells<-dJ scope.names cl
   PM.within [] (compLoop C.fuel (λv=>cq C t ⟨scope,cells,.none⟩ v) (jK C ifs ⟨scope,cells,.none⟩)
    (mw C gs ⟨scope,cells,.none⟩ (do
     let v<-ev C elt ⟨scope,cells,.none⟩
     sP acc v)) it)
   PM.pure (.ref acc)) VR:=by
 subst has;intro ρ κ l σ s Cf H _ r st e;rw[eval_ListComp];refine qe rfl (i6 wV) fw nA (qR G fw hi hg he Cf H e (λ_ _ z=>z) λn acc L bX κ' s' hr hv N Ap ⟨m,hm⟩=>⟨m,hm,λh' tR=>⟨.ref n,bX,κ',hr,hv, ?_⟩⟩);exact N.Kc Ap (λb o hb e=>(tR.2 b hb).trans e) rfl rfl
theorem qE(G:bZ X) {t:PySem.Expr} {ifs:List PySem.Expr} {as:Int} {pos':Pos} {u:Value->Sem Unit} {uF:AV->PM Unit} (wV:cM iter=false) (has:as=0) (fw:scope.kind= .function) (nA:iT scope=true)
  (hi:aU X A fe env 0 bg (eval iter env) (ev C iter fe) VR) (hg:∀ir bE,∀g∈(⟨t,iter,ifs,as⟩:Comprehension)::gs,uw X A ir bE C g) (he:∀ir bE,aU X A ir bE 0 bg (eval elt bE) (ev C elt ir) VR)
  (hu:∀x v,aU X A fe env 0 (λρ=>bC ρ x v) (u v) (uF x) UR):
  aU X A fe env 0 bg (comprehension (.ListComp elt (⟨t,iter,ifs,as⟩::gs) scope pos) scope env pos' (newList []) false (eval iter env) (some u)) ((do
   let x<-ev C iter fe
   let it<-rD x
   let acc<-PM.alloc (.list [])
   let cl<-PM.b8 (qh scope.names fe)
   let cells<-dJ scope.names cl
   PM.within [] (compLoop C.fuel (λv=>cq C t ⟨scope,cells,.none⟩ v) (jK C ifs ⟨scope,cells,.none⟩)
    (mw C gs ⟨scope,cells,.none⟩ (do
     let v<-ev C elt ⟨scope,cells,.none⟩
     sP acc v)) it)
   PM.pure (.ref acc):PM AV)>>=uF) (λ_ _ _=>True):=by
 subst has;intro ρ κ l σ s Cf H _ r st e;rcases aH e with⟨x,s1,e1,e2⟩|⟨k,e1,rfl⟩
 ·refine kY rfl (i6 wV) fw nA (qR G fw hi hg he Cf H e1 (λv s' q=>absurd q fE) λn acc L bX κ' s' hr hv N Ap ⟨m,hm⟩=> ?_);cases hr;refine ao (hu _ _ bX κ' s1.loc s1.hp s' N.cfg N.hok hv _ _ e2) ?_ ?_
  ·rintro _ s2 ⟨b,iR,iS,hb,_,N2⟩;have Oh:=hm;obtain⟨o,es,ep,e0,r0⟩:=hm;obtain⟨Y8,KP⟩:=Ap.step N2.ext e0 N.cfg.rel.iz;exact⟨m,⟨o,es,ep,KP,r0⟩,λh' tR=>⟨b,iR,iS,hb,trivial,(N.trans N2).Kc Y8 (λb o hb e=>(tR.2 b hb).trans e) rfl rfl⟩⟩
  ·rintro v s2 ⟨k,iR,iS,hb,R,N2⟩;exact⟨k,iR,iS,hb,R.back N.ext.alive,N.trans N2⟩
 ·exact kY rfl (i6 wV) fw nA (qR G fw hi hg he Cf H e1 (λv s' q=>q.cast λk z=>by cases z;rfl) λn acc L bX κ' s' hr=>nomatch hr)
end
end
section
open PySem.W.X
section
variable {prog:PySem.Program} {w:World} {A:Around} {E:Value->Shared->Prop} {s:Shared}
theorem uY{Q:List Value->Shared->Prop} {r:Addr} {a b c:Int} {t u v:Tok} (hh:A.handled=none) (hr:IsRange s.heap r a b c t u v) (MJ:Builtin.Range.small a b c=true)
  (hn:Builtin.Range.rangeSize a b c=n) (hlen:n<=2 ^ 24)
  (hQ:∀h' tk acc,(∀b o,s.heap.get? b=some o->h'.get? b=some o)->ItemsOf (λi v=>∃t,v= .int (a+i*c) t) acc n->Q acc.toList {s with heap:=h',toks:=tk}):
  wpAny (model prog w) A (collect (.ref r)) Q E s:=by
 unfold collect;refine aa (wpAny_runValue (mD PySem.F.entry_proto_collect ?_));rw[RA PySem.F.plain_proto_collect _];show wpAny _ A.in1 (newList []>>=λl=>again (.builtin "list.__iadd__" ⟨[l,.ref r],[]⟩)) _ _ s;refine aa (gB ?_);refine ae ⟨plainId_quiet PySem.F.plain_list_iadd _,mD PySem.F.entry_list_iadd ?_⟩;rw[RA PySem.F.plain_list_iadd _];show wpAny _ A.in1 (Builtin.List.listExtendWith (.ref s.heap.objs.size) (.ref r) (.ref s.heap.objs.size)) _ _ _;have hS:(s.heap.push {cls:= .type "list",data:= .seq ([]:List Value).toArray}).get? s.heap.objs.size=some {cls:= .type "list",data:= .seq #[] 0}:=aZ _ rfl;have fin:∀(r:Result) (s':Shared),(∃h' tk acc c',r= .ok (.ret (.ref s.heap.objs.size))/\s'={s with heap:=h',toks:=tk}/\(∀b o,s.heap.get? b=some o->h'.get? b=some o)/\
   h'.get? s.heap.objs.size=some {cls:= .type "list",dict:=none,data:= .seq acc c',slots:= #[]}/\ItemsOf (λi v=>∃t,v= .int (a+i*c) t) acc n)->
   (match r with
    | .ok (.ret v)=>wpAny (model prog w) A (match v with
      | .ref a=>do
       match(<-load a).data with
        | .seq xs _=>pure xs.toList
        |_=>unsupported "internal:collect"
      |_=>unsupported "internal:collect") Q E s'
    | .ok _=>False
    | .error e=>E e s'):=by
  rintro r s' ⟨h',tk,acc,c',rfl,rfl,k,e,yO⟩;show wpAny _ A (load s.heap.objs.size>>=_) _ _ _;refine aa (dZ e ?_);exact ae (hQ h' tk acc k yO)
 refine ao (wpAny_extend_range (R:=λr s'=>∃h' tk acc c',r= .ok (.ret (.ref s.heap.objs.size))/\s'={s with heap:=h',toks:=tk}/\(∀b o,s.heap.get? b=some o->h'.get? b=some o)/\
   h'.get? s.heap.objs.size=some {cls:= .type "list",dict:=none,data:= .seq acc c',slots:= #[]}/\ItemsOf (λi v=>∃t,v= .int (a+i*c) t) acc n) (s:={s with heap:=s.heap.push {cls:= .type "list",data:= .seq ([]:List Value).toArray}}) hh (aB _ hr) MJ hn hlen _ _ 0 hS λh' tk acc c' hk Sy yO=>
   ⟨h',tk,acc,c',rfl,rfl,λb o e=>hk b o (dW (dY e)) (aB _ e),Sy,yO⟩) (λfl s' h=> ?_) λe s' h=> ?_
 ·cases fl with
  |done f=>exact fin _ _ h
  |again c'=>exact⟨h.1,dU h.2 fin⟩
 ·obtain⟨_,_,_,_,q,_⟩:=h;cases q
theorem nf{T id:String} {Q:Bool->Shared->Prop} (hT:s.TypeIs v T) (hs:Slot T "__iter__" id) (h:Q false s):wpAny (model prog w) A (notIterableAtAll v) Q E s:=by
 unfold notIterableAtAll;refine aa (dQ hT hs.lookup ?_);rw[aD (show(some (Value.builtin id)).isSome=true from rfl)]
 exact ae h
end
theorem mI:∀(n:Nat) (a:Int),(intsFrom a n).length=n
 |0,_=>rfl
 |n+1,a=>by unfold intsFrom;rw[aq,mI n]
theorem rF{ρ:List Addr}:∀(vs:List Value) (a:Int),(∀(j:Nat) v,vs[j]? =some v->∃t,v=Value.int (a+j) t)->bp ρ (intsFrom a vs.length) vs
 |[],_,_=>trivial
 |v::vs,a,h=>by
  refine⟨?_,rF vs (a+1) λj u hj=> ?_⟩
  ·obtain⟨t,ht⟩:=h 0 v rfl;exact⟨t,by rw[ht];simp⟩
  ·obtain⟨t,ht⟩:=h (j+1) u (by rw[d8];exact hj);exact⟨t,by rw[ht];congr 1;omega⟩
section
variable {X:Bx} {A:Around} {fe:cn} {env:Env} {hd:Nat}
theorem ez{r:Res (List AV)} (e:eA x st=some (r,st')):∃xs,r= .ok xs/\st'=st/\∃n o,x= .ref n/\st.hp[n]? =some o/\(o= .list xs\/o= .tuple xs\/∃a b,o= .mH a b/\(a.natAbs<1000/\b.natAbs<1000)/\xs=intsFrom a (b-a).toNat):=by
 unfold eA at e;cases x with
 |ref n=>
  obtain⟨o,ho,e'⟩:=bI e;cases o with
  |list xs=>cases e';exact⟨xs,rfl,rfl,n,_,rfl,ho,.inl rfl⟩
  |tuple xs=>cases e';exact⟨xs,rfl,rfl,n,_,rfl,ho,.inr (.inl rfl)⟩
  |mH a b=>
   by_cases h:a.natAbs<1000/\b.natAbs<1000
   ·simp only [aD h]at e';cases e';exact⟨_,rfl,rfl,n,_,rfl,ho,.inr (.inr ⟨a,b,rfl,h,rfl⟩)⟩
   ·simp only [aC h]at e';cases e'
  |_=>cases e'
 |_=>cases e
theorem xR{i j:Int} (hs:i.natAbs<1000/\j.natAbs<1000):Builtin.Range.rangeSize i j 1=((j-i).toNat:Nat)/\Builtin.Range.small i j 1=true/\(j-i).toNat<=2 ^ 24:=by
 have hsz:Builtin.Range.rangeSize i j 1=if i<j then j-i else 0:=by
  unfold Builtin.Range.rangeSize;rw[aD (by decide)];split
  ·rw[Int.ediv_one];omega
  ·rfl
 have h1:=hs.1;have h2:=hs.2;refine⟨?_, ?_,by omega⟩
 ·rw[hsz];split<;>omega
 ·unfold Builtin.Range.small;rw[hsz];unfold Builtin.Range.rangeFitsLong;simp only [cG,iQ,eC];have e1:(1:Int)>0:=by decide
  rw[aD e1];simp only [cG,eC];split<;>refine⟨⟨⟨⟨⟨?_, ?_⟩, ?_, ?_⟩, ?_, ?_⟩, ?_, ?_⟩,.inr ⟨?_, ?_⟩⟩<;>omega
theorem my{E:Value->Shared->Prop} {Q:List Value->Shared->Prop} (hh:A'.handled=none) (C:Cfg X A fe env ρ κ l σ s) (hv:bC ρ x v) (e:eA x ⟨l,σ⟩=some (.ok xs,st))
  (hQ:∀vs h' tk,bp ρ xs vs->xs.length<=20000->(∀b o,s.heap.get? b=some o->h'.get? b=some o)->Q vs {s with heap:=h',toks:=tk}):wpAny (M X) A' (collect v) Q E s:=by
 obtain⟨EY,hx,rfl,n,o,rfl,ho,hk⟩:=ez e;cases hx;obtain⟨a,ha,rfl⟩:=hv;have O:=C.rel.objs n o a ho ha;rcases hk with rfl|rfl|⟨i,j,rfl,hs,rfl⟩
 ·obtain⟨vs,m,eo,rv,hl⟩:=O;exact Zf a (.inl rfl) eo rfl rfl (λh' hk=>hQ _ h' s.toks rv hl hk) (by rw[aO,<-rv.length];have:=b9;omega)
 ·obtain⟨vs,m,eo,rv,hl⟩:=O;exact Zf a (.inr rfl) eo rfl rfl (λh' hk=>hQ _ h' s.toks rv hl hk) (by rw[aO,<-rv.length];have:=b9;omega)
 ·obtain⟨t,u,v,hr⟩:=O;obtain⟨h1,h2,h3⟩:=xR hs;refine uY hh hr h2 h1 h3 λh' tk acc hk yO=>hQ _ h' tk ?_ ?_ hk
  ·have hz:acc.toList.length=(j-i).toNat:=by rw[jC,yO.1]
   rw[<-hz];refine rF _ _ λp v hp=> ?_;obtain⟨t,ht⟩:=yO.2 p v (by rw[<-r6];exact hp);exact⟨t,by rw[ht,Int.mul_one]⟩
  ·rw[mI];omega
theorem pN{Q:Bool->Shared->Prop} (C:Cfg X A fe env ρ κ l σ s) (hv:bC ρ x v) (e:eA x ⟨l,σ⟩=some (.ok xs,st))
  (hQ:Q false s):wpAny (M X) A' (notIterableAtAll v) Q E s:=by
 obtain⟨EY,hx,rfl,n,o,rfl,ho,hk⟩:=ez e;cases hx;obtain⟨a,ha,rfl⟩:=hv;have O:=C.rel.objs n o a ho ha;rcases hk with rfl|rfl|⟨i,j,rfl,hs,rfl⟩
 ·obtain⟨vs,m,eo,rv,hl⟩:=O;exact nf ⟨_,eo,rfl⟩ slot_list_iter hQ
 ·obtain⟨vs,m,eo,rv,hl⟩:=O;exact nf ⟨_,eo,rfl⟩ PySem.F.slot_tuple_iter hQ
 ·obtain⟨t,u,v,hr⟩:=O;exact nf ⟨_,hr,rfl⟩ PySem.F.slot_range_iter hQ
theorem yb(x:AV) (v:Value):aU X A fe env 0 (λρ=>bC ρ x v) (collect v) (eA x) Ov:=by
 intro ρ κ l σ s C H hv r st e;obtain⟨xs,rfl,rfl,_⟩:=ez e;exact my (H.none_ rfl) C hv e λvs h' tk h1 _ h2=>⟨xs,ρ,κ,rfl,h1,bJ.keep C H (Kp.of h2 rfl rfl)⟩
theorem NY(x:AV) (v:Value) {c:PM (List AV)} {R:List Addr->List Value->List AV->Prop} {f:Bool->Sem (List Value)} (h:aU X A fe env 0 (λρ=>bC ρ x v) (f false) (eA x>>=λ_=>c) R):aU X A fe env 0 (λρ=>bC ρ x v) (notIterableAtAll v>>=f) (eA x>>=λ_=>c) R:=by
 intro ρ κ l σ s C H hv r st e;rcases aH e with⟨xs,s1,e1,e2⟩|⟨k,e1,_⟩
 ·exact aa (pN C hv e1 (h ρ κ l σ s C H hv r st e))
 ·obtain⟨_,q,_⟩:=ez e1;cases q
end
end
section
open PySem.W.X
section
variable {M:Model} {A:Around} {E:Value->Shared->Prop} {s:Shared}
theorem mz{first:List Value} {args:List (Bool×Sem Value)}
  (h:wpAny M A (evalArgs f true args []) (λa s₁=>a.kw=[]/\(∀Q':Keeper->Shared->Prop,(∀k,Q' k s₁)->wpAny M A (keeperOf f) Q' E s₁)/\wpAny M A (call f (first++a.pos) []) Q E s₁) E s):wpAny M A (callWith pos f first args []) Q E s:=by
 unfold callWith;refine aa (aQ (ao h (λa s₁ fF=> ?_) λ_ _ z=>z));obtain⟨h1,h2,h3⟩:=fF;obtain⟨ps,kw⟩:=a;simp only at h1 h3
 subst h1;refine aa (c7 ?_);have op:∀vs:List Value,wpAny M A (operate vs (call f (first++ps) [])) Q E s₁:=λvs=>by
  unfold operate;exact aa (aQ (ao h3 (λv s2 q=>aa (wa (ae q))) λ_ _ z=>z))
 have mk:∀m:Value,wpAny M A (callMarked m f (first++ps) []) Q E s₁:=λm=>by
  unfold callMarked;exact PySem.Calls.wpAny_keep h3
 have fin:∀t:Sem Value,wpAny M A t Q E s₁->wpAny M A (t>>=λr=>(holding [r] PySem.point)>>=λ_=>pure r) Q E s₁:=λt ht=>
  aa (ao ht (λr s2 q=>aa (aQ (CG (ae q)))) λ_ _ z=>z)
 refine aa (h2 _ λk=> ?_);dsimp only;generalize (args.any (·.1)|| ([]:List (Option Str×Sem Value)).any (·.1.isNone))=st;cases k<;>cases st<;>dsimp only<;>first|exact fin _ h3|exact fin _ (mk _)|exact fin _ (op _)| (split<;>first|exact fin _ h3|exact fin _ (mk _))
end
section
variable {M:Model} {A:Around} {E:Value->Shared->Prop} {s:Shared}
theorem Eo{x:Sem Value} {Q:Args->Shared->Prop} (h:wpAny M A x (λv s₁=>wpAny M A (notIterableAtAll v) (λb s₂=>b=false/\wpAny M A (collect v) (λps CV=>Q ⟨ps,[]⟩ CV) E s₂) E s₁) E s):
  wpAny M A (evalArgs f true [(true,x)] []) Q E s:=by
 unfold evalArgs;dsimp only;refine aa (ao h (λv s₁ fF=> ?_) λ_ _ z=>z);refine aa (ae ?_);dsimp only;refine aQ ?_;rw[aD (show([]:List (Option Str×Sem Value)).all (·.1.isSome)=true from rfl)]
 refine aa (ae ?_);refine aa (aa (ao fF (λb s₂ h₂=> ?_) λ_ _ z=>z));obtain⟨rfl,h₂⟩:=h₂;rw[aC bL];exact aQ (ao h₂ (λps CV wR=>ae wR) λ_ _ z=>z)
theorem En{args:List (Bool×Sem Value)} (hn:∀x,args≠[(true,x)]) {Q:Args->Shared->Prop} (h:wpAny M A (spliced args) (λps s₁=>Q ⟨ps,[]⟩ s₁) E s):
  wpAny M A (evalArgs f true args []) Q E s:=by
 have go:wpAny M A (do
   let p<-spliced args
   holding (p++([]:List Value)) (pure (⟨p,[]⟩:Args))) Q E s:=aa (ao h (λv s₁ fF=>aQ (ae fF)) λ_ _ z=>z)
 unfold evalArgs
 match args,hn with
 |[],_=>exact go
 |[(false,x)],_=>exact go
 |[(true,x)],hn=>exact absurd rfl (hn x)
 | (true,_)::_::_,_=>exact go
 | (false,_)::_::_,_=>exact go
end
section
variable {X:Bx} {A:Around} {fe:cn} {env:Env} {hd:Nat}
theorem iJ{x:PySem.Expr} (h:cC x=false) (r:List PySem.Expr) (env:Env):starEach (x::r) env=(false,eval x env)::starEach r env:=by
 cases x<;>first|rfl|cases h
theorem ky{x:PySem.Expr} (h:cC x=true):∃y p,x= .Starred y p:=by
 cases x<;>first|exact⟨_,_,rfl⟩|exact nomatch h
theorem jN(env:Env):∀args:List PySem.Expr,(starEach args env).length=args.length
 |[]=>rfl
 |x::r=>by
  by_cases h:cC x=true
  ·obtain⟨y,p,rfl⟩:=ky h;show(starEach r env).length+1=r.length+1
   rw[jN env r]
  ·rw[iJ (by simpa using h),aq,jN env r,aq]
theorem Hb(C:Cx) {x:PySem.Expr} (h:cC x=false) (r:List PySem.Expr) (fe:cn):qu C (x::r) fe=(do
  let v<-ev C x fe
  let rest<-qu C r fe
  PM.pure (v::rest)):=by
 rw[qu.eq_3];intro y p q;subst q;cases h
theorem kW{C:Cx} (hC:C.hd=hd) (pos:Pos):∀(args:List PySem.Expr) (_:∀x∈args,∀y,(y=x\/∃p,x= .Starred y p)->aU X A fe env hd bg (eval y env) (ev C y fe) VR),aU X A fe env hd bg (spliced (backTo pos (starEach args env))) (qu C args fe) Ov
 |[],_=>by
  show aU X A fe env hd bg (pure []) (qu C [] fe) Ov;unfold qu;exact aU.pure λ_ _=>trivial
 |x::r,h=>by
  have ih:=kW hC pos r λy hy=>h y (ah _ hy);by_cases hs:cC x=true
  ·cases x<;>first|cases hs|skip
   rename_i y p;have hy:=h _ (aj ..) y (.inr ⟨p,rfl⟩);show aU X A fe env hd bg (spliced ((true,do let v<-eval y env;standAt pos;pure v)::backTo pos (starEach r env))) _ _;unfold spliced qu;rw[hC];by_cases h0:hd=0
   ·subst h0;rw[aC (show ¬((0:Nat) !=0)=true from bL)]
    refine aU.of_eq (t':=eval y env>>=λv=>standAt pos>>=λ_=>do
     if<-notIterableAtAll v then
      rule "star.not-iterable";raiseError "TypeError" s!"Value after * must be an iterable, not {<- typeNameOf v}"
     let here<-collect v
     return here++(<-holding here (spliced (backTo pos (starEach r env))))) (by simp only [jM,bind_assoc,pure_bind]) ?_
    refine aU.bind (λ_ _ _ _=>trivial) hy λv x=>aU.d5 ?_;refine aU.intro λρ κ l σ s Cf H hv rr st e=> ?_;rcases aH e with⟨xs,s1,e1,e2⟩|⟨k,e1,_⟩
    case inr=>obtain⟨_,q,_⟩:=ez e1;cases q
    refine aa (pN Cf hv.2 e1 ?_);rw[aC bL];have t2:=aU.bind (Pre:=λρ=>bC ρ x v) (R':=Ov) (λ_ _ s q=>q.mono s) (yb (X:=X) (A:=A) (fe:=fe) (env:=env) x v) (f:=λhere=>do return here++(<-holding here (spliced (backTo pos (starEach r env))))) (g:=λhere=>do
     let rest<-qu C r fe
     PM.pure (here++rest)) λvs xs=>aU.bind (R:=Ov) (λ_ _ s q=>⟨q.1.mono s,q.2.mono s⟩) ((ih.pre λ_ _=>trivial).holding) λws ys=>aU.pure λρ q=>q.1.2.append q.2
    exact t2 ρ κ l σ s Cf H hv.2 rr st e
   ·rw[aD (by simpa using h0)];exact aU.stuck
  ·have tR:cC x=false:=by simpa using hs
   rw[iJ tR,Hb C tR];show aU X A fe env hd bg (spliced ((false,eval x env)::backTo pos (starEach r env))) _ _;unfold spliced;refine aU.of_eq (t':=eval x env>>=λv=>do return v::(<-holding [v] (spliced (backTo pos (starEach r env))))) (by simp [bind_assoc,pure_bind]) ?_;refine aU.bind (λ_ _ _ _=>trivial) (h x (aj ..) x (.inl rfl)) λv y=> ?_;exact aU.bind (R:=Ov) (λ_ _ s q=>⟨trivial,q.2.mono s⟩) ((ih.pre λ_ _=>trivial).holding) λws ys=>aU.pure λρ q=>⟨q.1.2,q.2⟩
structure o8 (X:Bx) (A:Around) (fe:cn) (env:Env) (cf:ux):Prop where
 call:∀f xs v vs,aU X A fe env 0 (λρ=>bC ρ f v/\bp ρ xs vs) (PySem.call v vs) (cf f xs) VR
 keep:∀f xs v ρ κ l σ s r st,Cfg X A fe env ρ κ l σ s->bC ρ f v->cf f xs ⟨l,σ⟩=some (r,st)->∀(Q:Keeper->Shared->Prop) E,(∀k,Q k s)->wpAny (M X) A (keeperOf v) Q E s
abbrev Rn:List Addr->Args->List AV->Prop:=λρ a xs=>a.kw=[]/\bp ρ xs a.pos
theorem ik(hC:C.hd=hd) (f:Value) (pos:Pos) (args:List PySem.Expr) (h:∀x∈args,∀y,(y=x\/∃p,x= .Starred y p)->aU X A fe env hd bg (eval y env) (ev C y fe) VR):
  aU X A fe env hd bg (evalArgs f true (backTo pos (starEach args env)) []) (qu C args fe) Rn:=by
 have S:=kW hC pos args h;intro ρ κ l σ s Cf H P r st e;by_cases hl:∃y p,args=[.Starred y p]
 ·obtain⟨y,p,rfl⟩:=hl;have hy:=h _ (aj ..) y (.inr ⟨p,rfl⟩);rw[qu.eq_2]at e;by_cases h0:C.hd=0
  case neg=>rw[aD (by simpa using h0)]at e;cases e
  rw[h0,aC (show ¬((0:Nat) !=0)=true from bL)]at e
  have GQ:hd=0:=hC.symm.trans h0;subst GQ;show wpAny (M X) A (evalArgs f true [(true,do let v<-eval y env;standAt pos;pure v)] []) _ _ s;refine Eo ?_;rcases aH e with⟨x,s1,e1,e2⟩|⟨k,e1,rfl⟩
  ·refine aa (ao (hy ρ κ l σ s Cf H P _ _ e1) ?_ λv s' q=>absurd q fE);rintro v s' ⟨x',iy,iG,xB,Ca,N1⟩;cases xB;refine aa (c7 (ae ?_));rcases aH e2 with⟨xs,s2,e3,e4⟩|⟨k,e3,_⟩
   case inr=>obtain⟨_,q,_⟩:=ez e3;cases q
   obtain⟨_,_,q,_⟩:=ez e3;subst q;rw[qu.eq_1]at e4;cases e4;refine pN N1.cfg Ca e3 ⟨rfl, ?_⟩;refine my (H.none_ rfl) N1.cfg Ca e3 λvs h' tk q1 _ q2=>⟨xs++[],iy,iG,rfl,⟨rfl,by rw[aX];exact q1⟩,N1.trans (bJ.keep N1.cfg N1.hok (Kp.of q2 rfl rfl))⟩
  ·refine aa (ao (hy ρ κ l σ s Cf H P _ _ e1) ?_ λv s' q=>q.cast λk z=>by cases z;rfl);rintro v s' ⟨x',iy,iG,xB,_⟩;cases xB
 ·refine En (λx q=>hl ?_) ?_
  ·match args,q with
   |[y],q=>
    by_cases hs:cC y=true
    ·obtain⟨z,p,rfl⟩:=ky hs;exact⟨_,_,rfl⟩
    ·rw[iJ (by simpa using hs)]at q;cases q
   |y::z::r,q=>
    exfalso
    have:(backTo pos (starEach (y::z::r) env)).length=1:=by rw[q];rfl
    unfold backTo at this;rw[aG,jN]at this;simp at this
  ·refine ao (S ρ κ l σ s Cf H P r st e) ?_ λ_ _ z=>z;rintro vs s1 ⟨xs,iy,iG,h1,h2,N⟩;exact⟨xs,iy,iG,h1,⟨rfl,h2⟩,N⟩
end
end
section
open PySem.W.X
theorem Eb:fastLookup "function" "__get__"=some (some (.builtin "function.__get__")):=by kernel_rfl
theorem G6:fastLookup "function" "__set__"=some none:=by kernel_rfl
theorem G7:fastLookup "function" "__delete__"=some none:=by kernel_rfl
theorem w8{func:PySem.Expr} (h:∀o n p,func≠ .Attribute o n p) (args:List PySem.Expr) (pos:Pos) (env:Env):
  eval (.Call func args [] pos) env=(eval func env>>=λf=>callWith pos f [] (backTo pos (starEach args env)) []):=by
 cases func<;>first|rfl|exact absurd rfl (h _ _ _)
theorem zf{o:PySem.Expr} (h:j6 o=false) (attr:Str) (env:Env) (t:Sem Value):attributeBase o attr env t=t:=by
 unfold attributeBase;split
 ·cases h
 ·rfl
section
variable {X:Bx} {A:Around} {fe:cn} {env:Env} {hd:Nat}
theorem El(ok:o8 X A fe env C.lv.call) {fv:AV} (hC:C.hd=0) (h:∀x∈args,∀y,(y=x\/∃p,x= .Starred y p)->aU X A fe env 0 bg (eval y env) (ev C y fe) VR):
  aU X A fe env 0 (λρ=>bC ρ fv f) (callWith pos f [] (backTo pos (starEach args env)) []) (do
   let vs<-qu C args fe
   C.lv.call fv vs) VR:=by
 intro ρ κ l σ s Cf H hv r st e;refine mz ?_;rcases aH e with⟨xs,s1,e1,e2⟩|⟨k,e1,rfl⟩
 ·refine ao (ik hC f pos args h ρ κ l σ s Cf H trivial _ _ e1) ?_ λv s' q=>absurd q fE;rintro a uO ⟨EY,iy,iG,h1,⟨Qh,h2⟩,N1⟩;cases h1;have hv1:=hv.mono N1.ext.sub;refine⟨Qh,λQ' M1=>ok.keep fv xs f iy iG s1.loc s1.hp uO r st N1.cfg hv1 e2 Q' _ M1, ?_⟩;rw[eN];refine ao (ok.call fv xs f a.pos iy iG s1.loc s1.hp uO N1.cfg N1.hok ⟨hv1,h2⟩ _ _ e2) ?_ ?_
  ·rintro v s2 ⟨y,iR,iS,q1,q2,N2⟩;exact⟨y,iR,iS,q1,q2,N1.trans N2⟩
  ·rintro v s2 ⟨y,iR,iS,q1,q2,N2⟩;exact⟨y,iR,iS,q1,q2.back N1.ext.alive,N1.trans N2⟩
 ·refine ao (ik hC f pos args h ρ κ l σ s Cf H trivial _ _ e1) ?_ λv s' q=>q.cast λk z=>by cases z;rfl
  rintro a uO ⟨EY,iy,iG,h1,_⟩;cases h1
theorem FK(ok:o8 X A fe env C.lv.call) {func:PySem.Expr} (hC:C.hd=0) (Og:∀o n p,func≠ .Attribute o n p) (hf:aU X A fe env 0 bg (eval func env) (ev C func fe) VR)
  (h:∀x∈args,∀y,(y=x\/∃p,x= .Starred y p)->aU X A fe env 0 bg (eval y env) (ev C y fe) VR):
  aU X A fe env 0 bg (eval (.Call func args [] pos) env) (do
   let fv<-ev C func fe
   let vs<-qu C args fe
   C.lv.call fv vs) VR:=by
 rw[w8 Og];exact aU.bind (λ_ _ _ _=>trivial) hf λv x=>(El ok hC h).pre λρ q=>q.2
theorem aU.sure {α β:Type} {Pre:List Addr->Prop} {t:Sem α} {c:PM β} {R:List Addr->α->β->Prop} (h:aU X A fe env hd Pre t c R):aU X A fe env hd Pre t (PM.sure c) R:=by
 intro ρ κ l σ s Cf H P r st e;obtain⟨a,rfl,e'⟩:=eU e;exact h ρ κ l σ s Cf H P _ _ e'
theorem Ag(G:bZ X) {m:Meth} {ov:Value} {ox:AV} (hC:C.hd=hd) (ok:hd=0->o8 X A fe env C.lv.call)
  (h:∀x∈args,∀y,(y=x\/∃p,x= .Starred y p)->aU X A fe env hd bg (eval y env) (ev C y fe) VR):
  aU X A fe env hd (λρ=>bC ρ ox ov) (callWith pos (mn m) [ov] (backTo pos (starEach args env)) []) (do
   let vs<-qu C args fe
   if C.hd=0 then PM.sure (gh C.lv.call m ox vs)else PM.sure (gh (λ_ _=>PM.stuck) m ox vs)) VR:=by
 intro ρ κ l σ s Cf H hv r st e;refine mz ?_;rcases aH e with⟨xs,s1,e1,e2⟩|⟨k,e1,rfl⟩
 ·refine ao (ik hC (mn m) pos args h ρ κ l σ s Cf H trivial _ _ e1) ?_ λv s' q=>absurd q fE;rintro a uO ⟨EY,iy,iG,h1,⟨Qh,h2⟩,N1⟩;cases h1;have hv1:=hv.mono N1.ext.sub;have go:(∀Q':Keeper->Shared->Prop,(∀k,Q' k uO)->wpAny (M X) A (keeperOf (mn m)) Q' (o6 X A fe env hd ρ κ s r st) uO)/\wpAny (M X) A (call (mn m) (ov::a.pos) []) (mM X A fe env hd VR iy iG uO r st) (o6 X A fe env hd iy iG uO r st) uO:=by
   cases hm:m.own? with
   |false=>
    refine⟨λQ' M1=> ?_, ?_⟩
    ·cases m with
     |own f=>cases hm
     |_=>exact ae (M1 _)
    ·split at e2
     ·obtain⟨y,rfl,e3⟩:=eU e2;exact qD G C.lv.call m hm ox xs ov a.pos iy iG s1.loc s1.hp uO N1.cfg N1.hok ⟨hv1,h2⟩ _ _ e3
     ·obtain⟨y,rfl,e3⟩:=eU e2;exact qD G (λ_ _=>PM.stuck) m hm ox xs ov a.pos iy iG s1.loc s1.hp uO N1.cfg N1.hok ⟨hv1,h2⟩ _ _ e3
   |true=>
    cases m with
    |own f=>
     split at e2
     ·rename_i h0;have GQ:hd=0:=hC.symm.trans h0;subst GQ;obtain⟨y,rfl,e3⟩:=eU e2;have e4:C.lv.call (.base f) (ox::xs) s1=some (.ok y,st):=e3;exact⟨λQ' M1=>(ok rfl).keep (.base f) (ox::xs) (.ref f) iy iG s1.loc s1.hp uO _ _ N1.cfg rfl e4 Q' _ M1,(ok rfl).call (.base f) (ox::xs) (.ref f) (ov::a.pos) iy iG s1.loc s1.hp uO N1.cfg N1.hok ⟨rfl,hv1,h2⟩ _ _ e4⟩
     ·obtain⟨y,rfl,e3⟩:=eU e2;cases e3
    |_=>cases hm
  refine⟨Qh,go.1, ?_⟩;show wpAny (M X) A (call (mn m) (ov::a.pos) []) _ _ uO;refine ao go.2 ?_ ?_
  ·rintro v s2 ⟨y,iR,iS,q1,q2,N2⟩;exact⟨y,iR,iS,q1,q2,N1.trans N2⟩
  ·rintro v s2 ⟨y,iR,iS,q1,q2,N2⟩;exact⟨y,iR,iS,q1,q2.back N1.ext.alive,N1.trans N2⟩
 ·refine ao (ik hC (mn m) pos args h ρ κ l σ s Cf H trivial _ _ e1) ?_ λv s' q=>q.cast λk z=>by cases z;rfl
  rintro a uO ⟨EY,iy,iG,h1,_⟩;cases h1
end
end
section
open PySem.W.X
section
variable {X:Bx} {A:Around} {fe:cn} {env:Env} {hd:Nat}
theorem Ah{P:Prog} {f:Addr} (e:ly P x nm st=some (.ok (.own f),st')):
  st'=st/\∃n c d m ci,x= .ref n/\st.hp[n]? =some (.inst c d)/\st.hp[d]? =some (.ns m)/\m.lookup nm=none/\P.clss c=some ci/\ci.meths.lookup nm=some f:=by
 unfold ly at e;cases x with
 |ref n=>
  obtain⟨o,ho,e2⟩:=bI e;clear e;cases o with
  |list xs=>
   dsimp only at e2;split at e2; · cases e2
   split at e2; · cases e2
   split at e2; · cases e2
   split at e2; · cases e2
   split at e2<;>cases e2
  |dict es ep=>
   dsimp only at e2;split at e2; · cases e2
   split at e2<;>cases e2
  |set xs=>
   dsimp only at e2;split at e2<;>cases e2
  |inst c d=>
   obtain⟨o2,ho2,e3⟩:=bI e2;clear e2;cases o2 with
   |ns m=>
    dsimp only at e3;cases hl:m.lookup nm with
    |some v=>rw[hl]at e3;cases e3
    |none=>
     rw[hl]at e3;cases hc:P.clss c with
     |none=>simp only [hc]at e3;cases e3
     |some ci=>
      simp only [hc]at e3;cases hm:ci.meths.lookup nm with
      |none=>simp only [hm]at e3;cases e3
      |some g=>
       simp only [hm]at e3;cases e3;exact⟨rfl,n,c,d,m,ci,rfl,ho,ho2,hl,hc,hm⟩
   |_=>cases e3
  |_=>cases e2
 |_=>cases e
theorem vF{P:Prog} {r:Res Meth} (e:ly P x nm st=some (r,st')):(∃m,r= .ok m)/\st'=st:=by
 unfold ly at e;cases x with
 |ref n=>
  obtain⟨o,ho,e2⟩:=bI e;clear e;cases o with
  |list xs=>
   dsimp only at e2;split at e2; · cases e2;exact⟨⟨_,rfl⟩,rfl⟩
   split at e2; · cases e2;exact⟨⟨_,rfl⟩,rfl⟩
   split at e2; · cases e2;exact⟨⟨_,rfl⟩,rfl⟩
   split at e2; · cases e2;exact⟨⟨_,rfl⟩,rfl⟩
   split at e2
   ·cases e2;exact⟨⟨_,rfl⟩,rfl⟩
   ·cases e2
  |dict es ep=>
   dsimp only at e2;split at e2; · cases e2;exact⟨⟨_,rfl⟩,rfl⟩
   split at e2
   ·cases e2;exact⟨⟨_,rfl⟩,rfl⟩
   ·cases e2
  |set xs=>
   dsimp only at e2;split at e2
   ·cases e2;exact⟨⟨_,rfl⟩,rfl⟩
   ·cases e2
  |inst c d=>
   obtain⟨o2,ho2,e3⟩:=bI e2;clear e2;cases o2 with
   |ns m=>
    dsimp only at e3;cases hl:m.lookup nm with
    |some v=>rw[hl]at e3;cases e3
    |none=>
     rw[hl]at e3;cases hc:P.clss c with
     |none=>simp only [hc]at e3;cases e3
     |some ci=>
      simp only [hc]at e3;cases hm:ci.meths.lookup nm with
      |none=>simp only [hm]at e3;cases e3
      |some g=>
       simp only [hm]at e3;cases e3;exact⟨⟨_,rfl⟩,rfl⟩
   |_=>cases e3
  |_=>cases e2
 |_=>cases e
theorem D0(G:bZ X) {A':Around} {ex:Bool} {n d f:Addr} {m:List (Str×AV)} {ci:k7} {E:Value->Shared->Prop} (C:Cfg X A fe env ρ κ l σ s) (ho:σ[n]? =some (.inst c d)) (jc:σ[d]? =some (.ns m)) (hl:m.lookup nm=none) (rT:X.P.clss c=some ci) (hf:ci.meths.lookup nm=some f)
  (ha:ρ[n]? =some a) (Va:copiedNames.contains nm=false) (h:Q (.ref s.heap.objs.size) {s with heap:=s.heap.push (methodObj (.ref f) (.ref a)),toks:=s.toks+1}):wpAny (M X) A' (getAttr (.ref a) nm ex) Q E s:=by
 obtain⟨ad,es,k,QB,ea,ed,rn,I⟩:=sh C ho ha jc;have K:=G.cls c ci rT;obtain⟨f1,f2⟩:=K.meths nm f hf;have xq:=C.rel.zv G;obtain⟨cd,zC⟩:=cJ.mp K.BD;have ow:W.ownOf cd (some (dictOf es k)) nm=some none:=by
  unfold W.ownOf;split
  ·exact rn.none hl
  ·rfl
 have sp:∀TG,specialIn X.K (.ref f) TG=fastLookup "function" TG:=λTG=>by unfold specialIn;rw[f2];rfl
 have fo:findObj X.K c (some (dictOf es k)) nm=some (.bind (.builtin "function.__get__") (.ref f)):=by
  unfold findObj;rw[zC,fW,f1,fW];dsimp only;rw[sp,Eb,fW];dsimp only;have tk:takesIn X.K (.ref f)=some false:=by
   unfold takesIn;rw[sp,sp,G6,G7];rfl
  rw[tk,fW];dsimp only;rw[ow,fW];dsimp only;rw[Va,nM,aC bL]
 refine get_bind xq I K.ga fo K.QK ?_;refine gQ (fn_get (s:={s with toks:=s.toks+1}) xq f2 ?_);exact ae h
theorem Dr(G:bZ X) {m:Meth} {ov:Value} {ox:AV} {ex:Bool} (hP:C.P=X.P) (hC:C.hd=0) (ok:o8 X A fe env C.lv.call)
  (Mj:∀f xs vs ρ κ l σ s r st,Cfg X A fe env ρ κ l σ s->jq X A env 0 ρ κ s->bp ρ xs vs->(X.P.fns f).isSome=true->f≠X.P.dN->C.lv.call (.base f) xs ⟨l,σ⟩=some (r,st)->codeAny (M X) A (.call (.ref f) ⟨vs,[]⟩) (λq s'=>∃v,q= .ok (.ret v)/\mM X A fe env 0 VR ρ κ s r st v s') s)
  (hs:qz C.P nm m=true) (h:∀x∈args,∀y,(y=x\/∃p,x= .Starred y p)->aU X A fe env 0 bg (eval y env) (ev C y fe) VR) {ρ κ:List Addr} {l:Loc} {σ:Hp} {s:Shared} (Cf:Cfg X A fe env ρ κ l σ s) (H:jq X A env 0 ρ κ s) (hv:bC ρ ox ov)
  (em:ly X.P ox nm ⟨l,σ⟩=some (.ok m,⟨l,σ⟩)) {r:Res AV} {st:AS} (e:(do
   let vs<-qu C args fe
   if C.hd=0 then PM.sure (gh C.lv.call m ox vs)else PM.sure (gh (λ_ _=>PM.stuck) m ox vs)) ⟨l,σ⟩=some (r,st)):
  wpAny (M X) A (getAttr ov nm ex) (λf s'=>wpAny (M X) A (callWith pos f [] (backTo pos (starEach args env)) []) (mM X A fe env 0 VR ρ κ s r st) (o6 X A fe env 0 ρ κ s r st) s') (o6 X A fe env 0 ρ κ s r st) s:=by
 cases m with
 |own f=>
  obtain⟨_,n,c,d,m,ci,rfl,ho,jc,hl,rT,hf⟩:=Ah em;obtain⟨a,ha,rfl⟩:=hv;unfold qz at hs;rw[hP]at hs;simp only [cG,iQ,gT,xv]at hs;obtain⟨⟨hnm,HV⟩,Sq⟩:=hs;have Va:copiedNames.contains nm=false:=by rcases hnm with rfl|rfl<;>decide
  refine D0 G Cf ho jc hl rT hf ha Va ?_;have D:s.heap.get? s.heap.objs.size=none:=et (aJ _);obtain⟨g1,g2,g3,g4,g5⟩:=Cf.fresh D;have N1:bJ X A fe env 0 ρ κ s ⟨l,σ⟩ ρ κ {s with heap:=s.heap.push (methodObj (.ref f) (.ref a)),toks:=s.toks+1}:=bJ.keep Cf H (Kp.of (λ_ _ e=>aB _ e) rfl rfl);have q1:(s.heap.push (methodObj (.ref f) (.ref a))).get? s.heap.objs.size=some (methodObj (.ref f) (.ref a)):=aZ _ rfl;have Ap:Apart X A env ρ κ s s.heap.objs.size:=⟨D,g1,g2,g3,g4,g5⟩;refine mz ?_;rcases aH e with⟨xs,s1,e1,e2⟩|⟨k,e1,rfl⟩
  ·refine ao (ik hC (.ref s.heap.objs.size) pos args h ρ κ l σ _ N1.cfg N1.hok trivial _ _ e1) ?_ λv s' q=>absurd q fE;rintro ar s2 ⟨EY,iR,iS,h1,⟨Qh,h2⟩,N2⟩;cases h1;obtain⟨Y8,q2⟩:=Ap.step N2.ext q1 N1.cfg.rel.iz;rw[aD hC]at e2;obtain⟨y,rfl,e3⟩:=eU e2;have e4:C.lv.call (.base f) (.ref n::xs) s1=some (.ok y,st):=e3;have Ow:=N1.trans N2;have hr:bC iR (.ref n) (.ref a):=⟨a,Ow.ext.sub _ _ ha,rfl⟩;refine⟨Qh,λQ' M1=> ?_, ?_⟩
   ·unfold keeperOf;refine aa (dZ q2 ?_);dsimp only;rw[aC (show ¬(Value.type "method" !=Value.type "method")=true by decide)];have hf2:=((G.cls c ci rT).meths nm f hf).2;obtain⟨of,hof,_⟩:=Option.map_eq_some_iff.mp hf2;show wpAny (M X) A (do return match(<-load f).data with| .func _=> .boundFrame|_=> .caller) Q' _ s2;refine aa (dZ ((N2.cfg.rel.zv G) _ _ hof) ?_);exact ae (M1 _)
   ·rw[eN];refine gQ (method_call q2 (dU (Mj f (.ref n::xs) (.ref a::ar.pos) iR iS s1.loc s1.hp s2 _ _ N2.cfg N2.hok ⟨hr,h2⟩ HV Sq e4) ?_));rintro q s3 ⟨v,rfl,y',pn,qv,z1,z2,N3⟩;exact⟨y',pn,qv,z1,z2,Ow.trans N3⟩
  ·refine ao (ik hC (.ref s.heap.objs.size) pos args h ρ κ l σ _ N1.cfg N1.hok trivial _ _ e1) ?_ ?_
   ·rintro a uO ⟨EY,iy,iG,h1,_⟩;cases h1
   ·rintro v s2 ⟨k',iR,iS,z1,z2,N2⟩;cases z1;exact⟨k,iR,iS,rfl,z2.back N1.ext.alive,N1.trans N2⟩
 |_=>cases hs
theorem uj(env:Env) (pos:Pos):∀args:List PySem.Expr,(backTo pos (starEach args env)).all (!·.1)= !args.any cC
 |[]=>rfl
 |y::r=>by
  by_cases hs:cC y=true
  ·obtain⟨z,p,rfl⟩:=ky hs;show(List.all ((true,_)::backTo pos (starEach r env)) (!·.1))=_
   simp [cC]
  ·have tR:cC y=false:=by simpa using hs
   rw[iJ tR];show(List.all ((false,eval y env)::backTo pos (starEach r env)) (!·.1))=_
   rw[pe,uj env pos r,wd,tR];rfl
theorem C9(G:bZ X) {o:PySem.Expr} {apos:Pos} (hP:C.P=X.P) (hC:C.hd=hd) (ok:hd=0->o8 X A fe env C.lv.call)
  (Mj:hd=0->∀f xs vs ρ κ l σ s r st,Cfg X A fe env ρ κ l σ s->jq X A env 0 ρ κ s->bp ρ xs vs->(X.P.fns f).isSome=true->f≠X.P.dN->C.lv.call (.base f) xs ⟨l,σ⟩=some (r,st)->codeAny (M X) A (.call (.ref f) ⟨vs,[]⟩) (λq s'=>∃v,q= .ok (.ret v)/\mM X A fe env 0 VR ρ κ s r st v s') s)
  (ho:aU X A fe env hd bg (eval o env) (ev C o fe) VR) (h:∀x∈args,∀y,(y=x\/∃p,x= .Starred y p)->aU X A fe env hd bg (eval y env) (ev C y fe) VR):
  aU X A fe env hd bg (eval (.Call (.Attribute o nm apos) args [] pos) env) (if apos.endLine≠pos.line\/29<=args.length\/j6 o=true then PM.stuck else do
   let ov<-ev C o fe
   let m<-ly C.P ov nm
   if args.any cC&&(C.hd !=0|| !qz C.P nm m)then PM.stuck else do
   let vs<-qu C args fe
   if C.hd=0 then PM.sure (gh C.lv.call m ov vs)else PM.sure (gh (λ_ _=>PM.stuck) m ov vs)) VR:=by
 by_cases hg:apos.endLine≠pos.line\/29<=args.length\/j6 o=true
 ·rw[aD hg];exact aU.stuck
 rw[aC hg];have hline:apos.endLine=pos.line:=by
  by_cases q:apos.endLine=pos.line
  ·exact q
  ·exact absurd (.inl q) hg
 have hlen:args.length<29:=by
  by_cases q:args.length<29
  ·exact q
  ·exact absurd (.inr (.inl (by omega))) hg
 have Ug:j6 o=false:=by
  cases q:j6 o with
  |false=>rfl
  |true=>exact absurd (.inr (.inr q)) hg
 have he:eval (.Call (.Attribute o nm apos) args [] pos) env=(eval o env>>=λov=>standAt apos.atName>>=λ_=>methodCall o nm apos pos env ov (args.length+0) (backTo pos (starEach args env)) []):=by
  show(attributeBase o nm env (eval o env)>>=_)=_
  rw[zf Ug];rfl
 rw[he];refine aU.bind (λ_ _ _ _=>trivial) ho λov x=>aU.d5 ?_;refine aU.intro λρ κ l σ s Cf H hv r st e=> ?_;have hv:=hv.2;have Tz:∀few,methodCallPos few o env apos pos=pure pos:=λfew=>by
  unfold methodCallPos;rw[aD (by rw[hline];simp)]
 rcases aH e with⟨m,s1,e1,e2⟩|⟨k,e1,_⟩
 case inr=>obtain⟨⟨_,q⟩,_⟩:=vF e1;cases q
 obtain⟨_,rfl⟩:=vF e1;rw[hP]at e1;have Qp:methodCallForm (args.length+0) (backTo pos (starEach args env)) []= !args.any cC:=by
  unfold methodCallForm;have:=uj env pos args;rw[this];have h30:args.length+0+(if([]:List (Option Str×Sem Value)).isEmpty=true then 0 else 1)<30:=by simp;omega
  rw[cH h30];simp
 unfold methodCall;rw[Qp,Tz];cases hst:args.any cC with
 |false=>
  rw[hst]at e2;simp only [nM,bU,gH]at e2;show wpAny (M X) A (holding [ov] (getMethod ov nm _)>>=_) _ _ s;refine aa (aQ (ao (zZ G x ov nm _ ρ κ l σ s Cf H hv _ _ e1) ?_ λv s' q=>absurd q fE));rintro p s2 ⟨m',iR,iS,h1,h2,N2⟩;cases h1;have h2:p=(mn m,[ov]):=h2;subst h2;refine aa (ae ?_);have S:=Ag (m:=m) (ov:=ov) (ox:=x) (pos:=pos) G hC ok h iR iS l σ s2 N2.cfg N2.hok (hv.mono N2.ext.sub) r st e2;refine ao S ?_ ?_
  ·rintro v s3 ⟨y,pn,qv,q1,q2,N3⟩;exact⟨y,pn,qv,q1,q2,N2.trans N3⟩
  ·rintro v s3 ⟨y,pn,qv,q1,q2,N3⟩;exact⟨y,pn,qv,q1,q2.back N2.ext.alive,N2.trans N3⟩
 |true=>
  rw[hst]at e2;cases Oe:qz C.P nm m with
  |false=>rw[Oe]at e2;simp only [Bool.not_false,Bool.or_true,J1,jM]at e2;cases e2
  |true=>
   rw[Oe]at e2;by_cases h0:hd=0
   ·subst h0;rw[hC]at e2;simp only [pg,pf,oH,HK,bU,gH]at e2;have S:=Dr (ex:=true) (pos:=pos) G hP hC (ok rfl) (Mj rfl) Oe h Cf H hv e1 (by rw[hC];exact e2);show wpAny (M X) A (holding [ov] (do pure (<-getAttr ov nm true,[]))>>=_) _ _ s;exact aa (aQ (aa (ao S (λf s2 q=>ae (aa (ae q))) λ_ _ z=>z)))
   ·rw[hC,show(hd !=0)=true by simpa using h0]at e2;simp only [zt,J1,jM]at e2;cases e2
end
end
section
open PySem.W.X
section
variable {prog:PySem.Program} {w:World} {A:Around} {E:Value->Shared->Prop} {s:Shared}
theorem uh{l:Addr} (hl:s.heap.IsList l items)
  (hQ:Q (.ref s.heap.objs.size) {s with heap:=s.heap.push {cls:= .type "list_iterator",data:= .fields #[.ref l,.int 0 0]}}):
  wpAny (model prog w) A (call (.builtin "iter") [.ref l]) Q E s:=by
 refine Ig (by decide+kernel) (by decide+kernel) kdk_entry_iter (kdk_args_iter _) ?_;unfold Builtin.«iter»;refine aa (m:=someArgs "iter" 1 2 _) (bo (a:=[Value.ref l]) (by first|rfl|kernel_rfl!) ?_)
 show wpAny _ _ (pyIter (.ref l)>>=_) _ _ _;refine aa (Zd hl ?_);exact ae ⟨_,rfl,hQ⟩
theorem rW{l:Addr} {x:Value} (ho:s.heap.get? it=some (hY l i))
  (hl:s.heap.IsList l items) (hx:items[i]? =some x)
  (hQ:∀h',h'.get? it=some (hY l ((i+1:Nat):Int))->Heap.SameBut it s.heap h'->Q x {s with heap:=h'}):
  wpAny (model prog w) A (call (.builtin "next") [.ref it]) Q E s:=by
 refine Ig (by decide+kernel) (by decide+kernel) kdk_entry_next (kdk_args_next _) ?_;unfold Builtin.«next»;refine aa (m:=someArgs "next" 1 2 _) (bo (a:=[Value.ref it]) (by first|rfl|kernel_rfl!) ?_)
 dsimp only;refine aa (dQ (T:="list_iterator") (name:=Str.ofString "__next__") ⟨_,ho,rfl⟩ iC.lookup ?_);refine wpAny_ite_split (λom=>absurd om (by decide)) (λ_=> ?_);refine aa (d6 (name:=Str.ofString "__next__") ⟨_,ho,rfl⟩ iC (tE ho hl hx λh' h1 h2=> ?_));exact ae ⟨_,rfl,hQ h' h1 h2⟩
theorem rQ(a:Addr) (vs:Array Value):Meets (Builtin.«bool.__new__» ⟨[.type "bool",.ref a],[]⟩) (λ_ R s=>s.heap.IsList a vs/\(vs.size:Int)<2 ^ 63/\∀tk,R (.ok (.ret (.bool (vs.size !=0)))) {s with toks:=tk}):=
 Meets.of_wp λprog w A R s hs=>by
  obtain⟨hl,hz,hR⟩:=hs;unfold Builtin.«bool.__new__»;dsimp only;refine aa (m:=isType (.type "bool")) (ae ?_);simp only [pg,bU,gH];refine aa (bo (a:=true) F.conv_sub_bool ?_);simp only [pg,bU,gH];refine aa (m:=someArgs "bool" 0 1 _) (bo (a:=[Value.ref a]) (by first|rfl|kernel_rfl!) ?_)
  dsimp only;refine aa (Zc hl (by omega) ?_);exact ae ⟨_,rfl,hR _⟩
end
end
section
open PySem.W.X
theorem BC:∀{xs:List AV} {a i:Int},CW xs a=some i->∃ns,intsOf xs=some ns/\i=a+ns.sum
 |[],a,i,e=>by cases e;exact⟨[],rfl,by simp⟩
 | .int j::r,a,i,e=>by
  obtain⟨ns,h1,h2⟩:=BC (xs:=r) (a:=a+j) e;exact⟨j::ns,by unfold intsOf;rw[h1];rfl,by rw[h2,c8];omega⟩
 | .none::_,_,_,e=>by cases e
 | .bool _::_,_,_,e=>by cases e
 | .ref _::_,_,_,e=>by cases e
 | .base _::_,_,_,e=>by cases e
 | .ty _::_,_,_,e=>by cases e
 | .bi _::_,_,_,e=>by cases e
section
variable {X:Bx} {A:Around} {fe:cn} {env:Env}
theorem Xn{y:AV} (h:bp ρ [x,y] vs):∃v w,vs=[v,w]/\bC ρ x v/\bC ρ y w:=by
 match vs,h with
 |[v,w],h=>exact⟨v,w,rfl,h.1,h.2.1⟩
theorem yc(G:bZ X) (id:String) (hs:id≠"sorted") (xs:List AV) (vs:List Value):aU X A fe env 0 (λρ=>bp ρ xs vs) (call (.builtin id) vs) (cg id xs) VR:=by
 intro ρ κ l σ s C H hv r st e;have hh:=H.none_ rfl;unfold cg at e;split at e
 ·
  rename_i n;obtain⟨v,rfl,a,ha,rfl⟩:=CN hv;obtain⟨o,ho,e2⟩:=bI e;clear e;have O:=C.rel.objs n o a ho ha;cases o with
  |list ys=>
   cases e2;obtain⟨ws,k,eo,rv,hl⟩:=O;refine Calls.call_len_list (cW eo) (by rw[aO,<-rv.length];omega) ⟨_,ρ,κ,rfl,⟨_,by rw[aO,<-rv.length]⟩,bJ.toks C H⟩
  |tuple ys=>
   cases e2;obtain⟨ws,k,eo,rv,hl⟩:=O;refine len_tuple ⟨_,eo,rfl,_,rfl⟩ (by rw[aO,<-rv.length];omega) ⟨_,ρ,κ,rfl,⟨_,by rw[aO,<-rv.length]⟩,bJ.toks C H⟩
  |_=>cases e2
 ·
  rename_i n;obtain⟨v,rfl,a,ha,rfl⟩:=CN hv;obtain⟨ys,hy,e2⟩:=hZ e;clear e;obtain⟨i,hi,e3⟩:=jF e2;cases e3;obtain⟨ns,h1,h2⟩:=BC hi;obtain⟨ws,k,eo,rv,hl⟩:=C.rel.objs n _ a hy ha;have Yb:=rv.ints h1;obtain⟨ps,Us⟩:=Yb.allInts.items;have hl':s.heap.IsList a (intItems ps):=by rw[<-Us];exact cW eo
  refine sum_intListG hh hl' λh' tk t' hk=>⟨_,ρ,κ,rfl,⟨t', ?_⟩,bJ.keep C H (Kp.of hk rfl rfl)⟩;rw[preSum_eq,qW (by simp)];have:numsOf (intItems ps).toList=ns:=by rw[<-Us];exact Yb.numsOf
  rw[nums_intItems]at this;rw[this,h2,Int.zero_add]
 ·
  rename_i n;obtain⟨v,w,rfl,⟨a,ha,rfl⟩,hw⟩:=Xn hv;have hw:w= .type "tuple":=hw;subst hw;obtain⟨o,ho,e2⟩:=bI e;clear e;have O:=C.rel.objs n o a ho ha;cases o with
  |tuple ys=>
   cases e2;obtain⟨ws,k,eo,rv,hl⟩:=O;exact PySem.IsiPair.isTuple_tuple (h₀:=s.heap) ⟨_,eo,rfl,_,rfl⟩ (λ_ _ e=>e) ⟨_,ρ,κ,rfl,rfl,bJ.refl C H⟩
  |list ys=>
   cases e2;obtain⟨ws,k,eo,rv,hl⟩:=O;exact PySem.IsiPair.isList_tuple (h₀:=s.heap) (cW eo) (λ_ _ e=>e) ⟨_,ρ,κ,rfl,rfl,bJ.toks C H⟩
  |_=>cases e2
 ·
  rename_i n;obtain⟨v,rfl,a,ha,rfl⟩:=CN hv;obtain⟨o,ho,e2⟩:=bI e;clear e;have O:=C.rel.objs n o a ho ha;cases o with
  |list ys=>
   replace e2:=bY e2
   cases e2;obtain⟨ws,k,eo,rv,hl⟩:=O;exact uh (cW eo) ⟨_,_,κ,rfl,⟨_,C.newest,rfl⟩,bJ.push C H (t:=s.toks) rfl λeo=>⟨a,Sub.append _ _ _ _ ha,eo⟩⟩
  |_=>cases e2
 ·
  rename_i n;obtain⟨v,rfl,a,ha,rfl⟩:=CN hv;obtain⟨o,ho,e2⟩:=bI e;clear e;have O:=C.rel.objs n o a ho ha;cases o with
  |eZ li i=>
   obtain⟨al,h1,h2⟩:=O;rcases aH e2 with⟨q,s1,e3,e4⟩|⟨k,e3,rfl⟩
   ·unfold fu at e3;obtain⟨o',uH,e5⟩:=bI e3;clear e3;rw[ho]at uH;cases uH;obtain⟨o2,ho2,e6⟩:=bI e5;clear e5;have O2:=C.rel.objs li o2 al ho2 h1;cases o2 with
    |list ys=>
     obtain⟨ws,m,eo,rv,hl⟩:=O2;cases hx:ys[i]? with
     |none=>
      simp only [hx]at e6;have e7:=gw e6;cases e7;cases e4
     |some x=>
      simp only [hx]at e6;have e7:=gw e6;cases e7;cases e4;obtain⟨u,hu,hr⟩:=rv.get hx;exact rW h2 (cW eo) (by rw[ck];exact hu) λh' k1 k2=>⟨x,ρ,κ,rfl,hr,bJ.put C H ha ⟨_,k1⟩ (λb ob hb e=>(k2.2 b hb).trans e) rfl rfl ⟨al,h1,k1⟩⟩
    |_=>cases e6
   ·unfold fu at e3;obtain⟨o',uH,e5⟩:=bI e3;clear e3;rw[ho]at uH;cases uH;obtain⟨o2,ho2,e6⟩:=bI e5;cases o2 with
    |list ys=>
     cases hx:ys[i]? with
     |none=>simp only [hx]at e6;have e7:=gw e6;cases e7
     |some x=>simp only [hx]at e6;have e7:=gw e6;cases e7
    |_=>cases e6
  |_=>cases e2
 ·exact absurd rfl hs
 ·cases e
theorem Fy(G:bZ X) (nm:String) (xs:List AV) (vs:List Value):aU X A fe env 0 (λρ=>bp ρ xs vs) (call (.type nm) vs) (bM nm xs) VR:=by
 intro ρ κ l σ s C H hv r st e;have hh:=H.none_ rfl;unfold bM at e;split at e
 ·
  rename_i n;obtain⟨v,rfl,a,ha,rfl⟩:=CN hv;obtain⟨ys,hy,e2⟩:=hZ e;clear e
  replace e2:=bY e2
  cases e2;obtain⟨ws,k,eo,rv,hl⟩:=C.rel.objs n _ a hy ha;refine call_tuple_list (cW eo) (λh' hk=> ?_) (by rw[aO,<-rv.length];have:=b9;omega);have N1:bJ X A fe env 0 ρ κ s ⟨l,σ⟩ ρ κ {s with heap:=h'}:=bJ.keep C H (Kp.of hk rfl rfl);exact⟨_,_,κ,rfl,⟨_,N1.cfg.newest,rfl⟩,N1.trans (bJ.push (o:= .tuple ys) N1.cfg N1.hok (t:=s.toks) rfl λeo=>⟨ws,0,eo,rv.mono (Sub.append _ _),hl⟩)⟩
 ·
  rename_i n;obtain⟨v,rfl,a,ha,rfl⟩:=CN hv;have D:s.heap.get? s.heap.objs.size=none:=et (aJ _);have go:∀(T:String),T="list"\/T="tuple"->∀(ys:List AV) (ws:List Value) (o:Obj) (k:Nat),s.heap.get? a=some o->o.cls= .type T->o.data= .seq ws.toArray k->bp ρ ys ws->ys.length<=20000->
    wpAny (M X) A (call (.type "list") [.ref a]) (mM X A fe env 0 VR ρ κ s (.ok (AV.ref σ.length)) ⟨l,σ++[.list ys]⟩) (o6 X A fe env 0 ρ κ s (.ok (AV.ref σ.length)) ⟨l,σ++[.list ys]⟩) s:=by
   intro T hT ys ws o k ho hc hd rv hl;refine call_list_seq a hT ho hc hd (λh' c' hk hn=> ?_) (by rw[aO,<-rv.length];have:=b9;omega);exact⟨_,_,κ,rfl,⟨_,C.newest,rfl⟩,bJ.vM C H D ⟨_,hn⟩ (Kp.of hk rfl rfl) ⟨ws,c',hn,rv.mono (Sub.append _ _),hl⟩⟩
  rcases aH e with⟨ys,s1,e1,e2⟩|⟨k,e1,_⟩
  ·obtain⟨o,ho,e3⟩:=bI e1;clear e1;have O:=C.rel.objs n o a ho ha;cases o with
   |list zs=>
    cases e3
    replace e2:=bY e2
    cases e2;obtain⟨ws,k,eo,rv,hl⟩:=O;exact go "list" (.inl rfl) _ ws _ k eo rfl rfl rv hl
   |tuple zs=>
    cases e3
    replace e2:=bY e2
    cases e2;obtain⟨ws,k,eo,rv,hl⟩:=O;exact go "tuple" (.inr rfl) _ ws _ k eo rfl rfl rv hl
   |_=>cases e3
  ·obtain⟨o,ho,e3⟩:=bI e1;cases o<;>cases e3
 ·
  cases RF hv
  replace e:=bY e
  cases e;refine call_set_0 λled=> ?_;refine⟨_,_,κ,rfl,⟨_,C.newest,rfl⟩,bJ.push (o:= .set []) C H (t:=s.toks) rfl λeo=>⟨?_,by simp⟩⟩;have z:=(PyProof.Rows.setObjOf_fresh (knd:=PySem.intKind X.prog X.w) led).setOf (h:=(s.heap.push {cls:= .type "set",dict:=none,data:= .set #[] 0 (.fresh 0 0 led)})) eo (by decide);exact z
 ·
  rename_i x;obtain⟨v,rfl,hx⟩:=CN hv;unfold ig at e;cases x with
  |none=>cases e;cases hx;exact call_bool_none ⟨_,ρ,κ,rfl,rfl,bJ.refl C H⟩
  |bool b=>cases e;cases hx;exact call_bool_bool ⟨_,ρ,κ,rfl,rfl,bJ.refl C H⟩
  |int i=>cases e;obtain⟨t,rfl⟩:=hx;exact call_bool_int ⟨_,ρ,κ,rfl,rfl,bJ.refl C H⟩
  |ref n=>
   obtain⟨a,ha,rfl⟩:=hx;rcases aH e with⟨b,s1,e1,e2⟩|⟨k,e1,_⟩
   ·obtain⟨o,ho,e3⟩:=bI e1;clear e1;have O:=C.rel.objs n o a ho ha;cases o with
    |list ys=>
     cases e3;cases e2;obtain⟨ws,k,eo,rv,hl⟩:=O;refine call_bool_1 (rQ a ws.toArray) ⟨cW eo,by rw[aO,<-rv.length];omega,λtk=>⟨rfl,⟨_,ρ,κ,rfl, ?_,bJ.toks C H⟩⟩⟩;show Value.bool _=_;rw[aO,<-rv.length];cases ys<;>rfl
    |_=>cases e3
   ·obtain⟨o,ho,e3⟩:=bI e1;cases o<;>cases e3
  |_=>cases e
 ·
  rename_i b;obtain⟨v,rfl,t,rfl⟩:=CN hv
  replace e:=bY e
  cases e;exact call_range_1 ⟨_,_,κ,rfl,⟨_,C.newest,rfl⟩,bJ.push (o:= .mH 0 b) C H rfl λeo=>⟨_,_,_,eo⟩⟩
 ·rename_i a b;obtain⟨v,w,rfl,⟨t,rfl⟩,u,rfl⟩:=Xn hv
  replace e:=bY e
  cases e;exact call_range_2 ⟨_,_,κ,rfl,⟨_,C.newest,rfl⟩,bJ.push (o:= .mH a b) C H rfl λeo=>⟨_,_,_,eo⟩⟩
 ·cases e
end
end
section
open PySem.W.X
section
variable {X:Bx} {A A':Around} {fe:cn} {env:Env} {ρ κ bQ bR:List Addr} {bD s s':Shared}
theorem bJ.around {st:AS} (h:A'.frames=A.frames) (hh:A'.handled=A.handled) (N:bJ X A fe env 0 bQ bR bD st ρ κ s):bJ X A' fe env 0 bQ bR bD st ρ κ s:=
 ⟨jJ h▸N.ext,N.cfg.around h,⟨λz=>hh.trans (N.hok.none_ z),λq=>nomatch q⟩⟩
theorem bJ.adopt {o:bP} (N:bJ X A fe env 0 bQ bR bD ⟨l,σ⟩ ρ κ s) (P:Apart X A env ρ κ bD a) (ha:∃o,s.heap.get? a=some o) (h:qU X (ρ++[a]) κ s.heap a o):bJ X A fe env 0 bQ bR bD ⟨l,σ++[o]⟩ (ρ++[a]) κ s:=by
 have C:=N.cfg;have x:=N.ext;refine⟨⟨x.sub.trans (Sub.append _ _),x.uL,λb hb=> ?_,x.qI,x.alive,x.fr⟩,⟨C.rel.join P.r P.k P.z ha h, ?_, ?_,C.lk,C.l0,C.env.mono (Sub.append _ _),C.oq.fs,λg hg=> ?_⟩,⟨N.hok.none_,λq=>nomatch q⟩⟩
 ·rcases au.mp hb with q|q
  ·exact x.pO b q
  ·rw[aA]at q;subst q;exact .inr P.oZ
 ·obtain⟨m,hn,hl⟩:=C.ns;exact⟨m,hn,hl.mono (Sub.append _ _)⟩
 ·intro q;rcases au.mp q with q|q
  ·exact C.lr q
  ·rw[aA]at q;exact P.l q.symm
 ·obtain⟨h1,h2,h3,h4⟩:=C.oq.ok g hg;refine⟨h1,λq=> ?_,h3,h4⟩;rcases au.mp q with q|q
  ·exact h2 q
  ·rw[aA]at q;subst q;exact P.f hg
theorem bJ.Dj (N:bJ X A fe env 0 bQ bR bD st ρ κ s) (P:Apart X A env ρ κ bD a) (hk:∀b o,b≠a->s.heap.get? b=some o->s'.heap.get? b=some o) (hg:s'.gens=s.gens) (ho:s'.os=s.os):bJ X A fe env 0 bQ bR bD st ρ κ s':=
 N.kQ ⟨P.oZ,P.r,P.k,P.z,P.f,P.l⟩ hk hg ho
theorem uk{K:SortKind} {ks:List Value} {xh:Nat->Nat->PM Bool} {Pre:List Addr->Prop} (hm:∀ρ bX,Sub ρ bX->Pre ρ->Pre bX) (DZ:∀i j,aU X A fe env 0 Pre (keyLt' K (ks.getD i .none) (ks.getD j .none)) (xh i j) BR) {α:Type} {p:α} {st:AS}:
  ∀(t:KasT α) {ρ κ:List Addr} {l:Loc} {σ:Hp} {s:Shared} (_:bJ X A fe env 0 bQ bR bD ⟨l,σ⟩ ρ κ s) (_:Pre ρ) (_:dj xh t ⟨l,σ⟩=some (.ok p,st)),
   t.kasWp (kas_ask X.prog X.w A K ks) (λp' s'=>p'=p/\∃bX κ',Sub ρ bX/\bJ X A fe env 0 bQ bR bD st bX κ' s') s
 | .ret a,ρ,κ,l,σ,s,N,hP,e=>by
  cases e;exact⟨rfl,ρ,κ,Sub.refl _,N⟩
 | .ask i j k,ρ,κ,l,σ,s,N,hP,e=>by
  unfold dj at e;rcases aH e with⟨b,s1,e1,e2⟩|⟨k',_,q⟩
  case inr=>cases q
  show wpAny (M X) A (keyLt' K (ks.getD i .none) (ks.getD j .none)) _ (λ_ _=>False) s;refine ao (DZ i j ρ κ l σ s N.cfg N.hok hP _ _ e1) ?_ (λv s' q=>absurd q fE);rintro b' s2 ⟨WR,iy,iG,h1,h2,N1⟩;cases h1;have h2:b'=b:=h2;subst h2;have:=uk hm DZ (k b') (N.trans N1) (hm _ _ N1.ext.sub hP) e2;refine yC this λp' s3 ⟨q1,bX,κ',q2,q3⟩=>⟨q1,bX,κ',N1.ext.sub.trans q2,q3⟩
where
 yC {K:SortKind} {ks:List Value} {α:Type} {Q Q':α->Shared->Prop} {t:KasT α} {s:Shared} (h:t.kasWp (kas_ask X.prog X.w A K ks) Q s) (hq:∀a s',Q a s'->Q' a s'):t.kasWp (kas_ask X.prog X.w A K ks) Q' s:=by
  rw[kas_ask_eq]at h ⊢;exact kas_wp_mono h hq
end
end
section
open PySem.W.X
def nc (vs:List Value) (p:Option (Array Nat)):List Value:=match p with
 | .none=>vs
 |some p=>p.toList.map λi=>vs.getD i .none
section
variable {X:Bx} {A:Around} {fe:cn} {env:Env} {ρ κ bQ bR:List Addr} {bD s s':Shared}
theorem iZ{f:Obj->Obj}:∀b o,b≠a->h.get? b=some o->(h.update a f).get? b=some o:=λb o hb e=>by
 rw[iE _ _ (dF hb)];exact e
theorem uR{K:SortKind} {xh:Nat->Nat->PM Bool} {P:PySem.Fin->Shared->Prop} {q:Option (Array Nat)}
  (N:bJ X A fe env 0 bQ bR bD ⟨l,σ⟩ ρ κ s) (Ap:Apart X A env ρ κ bD a) (ho:s.heap.get? a=some (seqObj "list" vs.toArray n)) (AZ:vs.length<64)
  (hm:∀ρ bX,Sub ρ bX->Pre ρ->Pre bX) (hP:Pre ρ) (DZ:∀i j,aU X A fe env 0 Pre (keyLt' K (vs.getD i .none) (vs.getD j .none)) (xh i j) BR)
  (fw:2<=vs.length->∀s2,bJ X A fe env 0 bQ bR bD ⟨l,σ⟩ ρ κ s2->∀Q,Q K s2->wpAny (M X) A (keyKind' vs.toArray) Q (λ_ _=>False) s2)
  (e2:2<=vs.length->∃p,q=some p/\dj xh (kas_sort vs.length) ⟨l,σ⟩=some (.ok p,st)) (e1:vs.length<2->q=none/\st=⟨l,σ⟩)
  (hQ:∀s' bX κ' c,Sub ρ bX->bJ X A fe env 0 bQ bR bD st bX κ' s'->Apart X A env bX κ' bD a->s'.heap.get? a=some (seqObj "list" (nc vs q).toArray c)->(nc vs q).length<64->P (.done (.ret .none)) s'):
  wpAny (M X) A (Builtin.«list.sort» ⟨[.ref a],[]⟩) P E s:=by
 have Zv:vs.toArray.size<=sizeLine:=by rw[aO,iw];omega
 rw[list_sort_plain];refine aa (Nz ho rfl ?_);refine aa (lI ho rfl ?_ Zv (bW _));obtain⟨KQ,HQ⟩:∃e1,(s.heap.update a (Obj.mapSeq λ_=>(#[]:Array Value))).get? a=some (seqObj "list" #[] e1):=⟨_,mB ho λ_=> #[]⟩;refine aa (CH HQ rfl ?_);have N1:bJ X A fe env 0 bQ bR bD ⟨l,σ⟩ ρ κ {s with heap:=s.heap.update a (Obj.mapSeq λ_=>(#[]:Array Value))}:=N.Dj Ap iZ rfl rfl;refine aa (nI ?_ (by show vs.length<=_;rw[iw];omega));refine aa (o9 ?_ (bW _));refine aQ ?_;generalize hX:({s with heap:=((s.heap.update a (Obj.mapSeq λ_=>(#[]:Array Value))).push (seqObj "tuple" vs.toArray 0)).push (seqObj "list" #[] 0)}:Shared)=s2;have kp:∀b o,(s.heap.update a (Obj.mapSeq λ_=>(#[]:Array Value))).get? b=some o->s2.heap.get? b=some o:=λb o e=>by
  rw[<-hX];exact aB _ (aB _ e)
 have N2:bJ X A fe env 0 bQ bR bD ⟨l,σ⟩ ρ κ s2:=N1.trans (bJ.keep N1.cfg N1.hok (Kp.of kp (by rw[<-hX]) (by rw[<-hX])));have ho2:=kp _ _ HQ;have fin:∀(st':SortSt) (s3:Shared) (bX κ':List Addr),(arrOf st').map (·.2)=(nc vs q).toArray->failedOf st'=none->Sub ρ bX->bJ X A fe env 0 bQ bR bD st bX κ' s3->Apart X A env bX κ' bD a->s3.heap.get? a=some (seqObj "list" #[] KQ)->
   (nc vs q).length<64->wpAny (M X) A (do
    let sorted:=(arrOf st').map (·.2)
    let touched:=(<-seqEpoch a) !=KQ
    Builtin.List.listUpdate (.ref a) λ_=>sorted
    if let some e:=failedOf st' then rule "list.sort.comparison-raised";throw e
    if touched then rule "list.sort.modified";raiseError "ValueError" "list modified during sort"
    ret .none) P E s3:=by
  intro st' s3 bX κ' M0 hf hs N3 S4 Jl hz;dsimp only;rw[M0];refine aa (CH Jl rfl ?_);refine aa (lI Jl rfl ?_ (bW _) (by rw[aO,iw];omega));rw[hf];simp only [oH,bU,gH];obtain⟨c2,hc2⟩:∃c2,(s3.heap.update a (Obj.mapSeq λ_=>(nc vs q).toArray)).get? a=some (seqObj "list" (nc vs q).toArray c2):=⟨_,mB Jl λ_=>(nc vs q).toArray⟩;exact ae (hQ _ bX κ' c2 hs (N3.Dj S4 iZ rfl rfl) S4 hc2 hz)
 by_cases h2:2<=vs.length
 ·have hn2:¬vs.toArray.size<2:=by rw[aO];omega
  obtain⟨p,rfl,e⟩:=e2 h2;dsimp only;rw[aC hn2,aC hn2];refine aa (ao (fw h2 s2 N2 (λK' s'=>K'=K/\s'=s2) ⟨rfl,rfl⟩) (λK' s0 hk=> ?_) λ_ _ x=>x.elim);obtain⟨rfl,rfl⟩:=hk;have T:=uk hm DZ (kas_sort vs.length) (bJ.refl N2.cfg N2.hok) hP e;refine aa (ao (kat_run (E:=E) (Q:=λst' s'=>∃p':Array Nat,p'.size=vs.length/\arrOf st'=p'.map (kas_item (vs.toArray.zip vs.toArray))/\failedOf st'=none/\p'=p/\∃bX κ',Sub ρ bX/\bJ X A fe env 0 ρ κ s0 st bX κ' s')
   rfl h2 AZ (λp' st' s' a1 a2 a3 a4=>⟨p',a1,a2,a3,a4⟩) T) ?_ λ_ _ e=>e)
  rintro⟨⟨⟩,st'⟩ s' ⟨p',hp,M0,hf,rfl,bX,κ',hs,N3⟩;obtain⟨S4,Jl⟩:=Ap.step N3.ext ho2 N2.cfg.rel.iz;exact fin st' s' bX κ' (kat_snds rfl M0) hf hs (N2.trans N3) S4 Jl (by unfold nc;rw[aG,jC,hp];exact AZ)
 ·have hn2:vs.toArray.size<2:=by rw[aO];omega
  obtain⟨rfl,rfl⟩:=e1 (by omega);dsimp only;rw[aD hn2,aD hn2];refine aa (ae ?_);refine aa (ae ?_);refine fin _ s2 ρ κ ?_ rfl (Sub.refl _) N2 Ap ho2 AZ;show((vs.toArray.zip vs.toArray).map (·.2))=vs.toArray
  apply Array.ext<;>simp
end
end
section
open PySem.W.X
theorem bp.getD {ρ:List Addr} {xs:List AV} {vs:List Value} (h:bp ρ xs vs) (i:Nat):bC ρ (xs.getD i .none) (vs.getD i .none):=by
 rw[aT,aT];cases hx:xs[i]? with
 |none=>rw[h.none hx];rfl
 |some x=>obtain⟨v,hv,r⟩:=h.get hx;rw[hv];exact r
theorem bp.Ml {ρ:List Addr} {xs:List AV} {vs:List Value} (h:bp ρ xs vs):∀is:List Nat,bp ρ (is.map λi=>xs.getD i .none) (is.map λi=>vs.getD i .none)
 |[]=>trivial
 |i::is=>⟨h.getD i,h.Ml is⟩
theorem rl{f:Nat->Nat->PM Bool} {r:Res (List AV)} (e:sortBy f xs st=some (r,st')):
  (∃k,r= .exc k)\/∃q,r= .ok (match q with| .none=>xs|some (p:Array Nat)=>p.toList.map λi=>xs.getD i .none)/\(2<=xs.length->∃p,q=some p/\dj f (kas_sort xs.length) st=some (.ok p,st'))/\(xs.length<2->q=none/\st'=st):=by
 unfold sortBy at e;split at e
 ·rename_i h;cases e;exact .inr ⟨none,rfl,λq=>absurd h (by omega),λ_=>⟨rfl,rfl⟩⟩
 ·rename_i h;rcases aH e with⟨p,s1,e1,e2⟩|⟨k,_,rfl⟩
  ·cases e2;exact .inr ⟨some p,rfl,λ_=>⟨p,rfl,e1⟩,λq=>absurd q h⟩
  ·exact .inl ⟨k,rfl⟩
section
variable {X:Bx} {A:Around} {fe:cn} {env:Env}
theorem Hs{vs:List Value} (x y:AV) (v w:Value):aU X A fe env 0 (λρ=>bC ρ x v/\bC ρ y w) (keyLt' oneType' v w) (PM.b8 (AD x y)) BR:=by
 intro ρ κ l σ s C H ⟨hv,hw⟩ r st e;obtain⟨b,hb,rfl,rfl⟩:=cY e;unfold AD at hb;split at hb
 ·cases hb;obtain⟨t,rfl⟩:=hv;obtain⟨u,rfl⟩:=hw;exact kat_lt_int ⟨_,ρ,κ,rfl,rfl,bJ.refl C H⟩
 ·cases hb
theorem Em(hu:A.units<cLine) (x y:AV) (v w:Value):aU X A fe env 0 (λρ=>bC ρ x v/\bC ρ y w) (keyLt' oneType' v w) (do let h<-PM.hp;PM.b8 (pK h x y)) BR:=by
 intro ρ κ l σ s C H ⟨hv,hw⟩ r st e
 replace e:=kI e
 obtain⟨b,hb,rfl,rfl⟩:=cY e;unfold pK at hb;split at hb
 ·rename_i p q e1 e2;cases hb;cases x with
  |ref m=>
   cases y with
   |ref n=>
    obtain⟨a,ha,rfl⟩:=hv;obtain⟨a',tW,rfl⟩:=hw;obtain⟨t1,t2,k,eo⟩:=lL C.rel ha e1;obtain⟨t3,t4,k',y0⟩:=lL C.rel tW e2;rw[keyLt'_oneType,oneLt'_eq];simp only [jM];refine aa (wpAny_cRoomFor hu ?_);refine aa (wpAny_callSpecialIfBound?_slot (T:="list") ⟨_,eo,rfl⟩ F.slot_list_lt ?_);obtain⟨h,g,dr,t,os⟩:=s;refine ao (yy a a' _ _ _ _ t1 t2 t3 t4 k k' eo y0) ?_ λ_ _ z=>z.elim;rintro v s' ⟨D,rfl,hg,ho⟩;exact kL ⟨_,ρ,κ,rfl,rfl,bJ.keep C H (Kp.of (tB D) hg ho)⟩
   |_=>cases e2
  |_=>cases e1
 ·cases hb
theorem Bv(R:Rel X ρ κ σ s) {p:Int×Int} (ha:ρ[n]? =some a) (e:m4 σ (.ref n)=some p):
  ∃t1 t2 k,s.heap.get? a=some ⟨.type "tuple",none,.seq #[.int p.1 t1,.int p.2 t2] k,#[]⟩:=by
 change (match σ[n]? with
  |some (.tuple [.int x,.int y])=>some (x,y)
  |_=>none)=some p at e
 split at e
 ·rename_i x y ho;cases e;obtain⟨vs,k,eo,rv,_⟩:=R.objs n _ a ho ha
  match vs,rv with
  |[v,w],⟨⟨t1,h1⟩,⟨t2,h2⟩,_⟩=>
   subst h1 h2;exact⟨t1,t2,k,eo⟩
 ·cases e
theorem Hr(x y:AV) (v w:Value):aU X A fe env 0 (λρ=>bC ρ x v/\bC ρ y w) (keyLt' (tuples' true) v w) (do let h<-PM.hp;PM.b8 (zQ h x y)) BR:=by
 intro ρ κ l σ s C H ⟨hv,hw⟩ r st e
 replace e:=kI e
 obtain⟨b,hb,rfl,rfl⟩:=cY e;unfold zQ at hb;split at hb
 ·rename_i p q e1 e2;cases hb;cases x with
  |ref m=>
   cases y with
   |ref n=>
    obtain⟨a,ha,rfl⟩:=hv;obtain⟨a',tW,rfl⟩:=hw;obtain⟨t1,t2,k,eo⟩:=Bv C.rel ha e1;obtain⟨t3,t4,k',y0⟩:=Bv C.rel tW e2;have done:∀c,c=eQ p q->mM X A fe env 0 BR ρ κ s (.ok (eQ p q)) ⟨l,σ⟩ c s:=λc hc=>⟨_,ρ,κ,rfl,hc,bJ.refl C H⟩;refine kat_lt eo rfl y0 rfl ?_;show KatLex X.prog X.w A true _ _ [(.int p.1 t1,.int q.1 t3),(.int p.2 t2,.int q.2 t4)] 0 s;refine kat_cons (wpAny_eqBool_int (kat_go (λhe=>kat_yes (kat_cons (wpAny_eqBool_int (kat_go (λYj=>kat_yes (kat_nil (done _ ?_))) λYj=>kat_no ?_)))) λhe=>kat_no ?_))
    ·have h1:p.1=q.1:=by simpa using he
     have h2:p.2=q.2:=by simpa using Yj
     unfold eQ;rw[aD h1,h2];simp
    ·have h1:p.1=q.1:=by simpa using he
     refine kat_one _ _ (lt_int (done _ ?_));unfold eQ;rw[aD h1]
    ·have h1:p.1≠q.1:=by simpa using he
     show wpAny (M X) A (keyLt' oneType' (.int p.1 t1) (.int q.1 t3)) _ _ s;refine kat_lt_int (done _ ?_);unfold eQ;rw[aC h1]
   |_=>cases e2
  |_=>cases e1
 ·cases hb
end
end
section
open PySem.W.X
theorem bp.all {ρ:List Addr} {P:Value->Prop}:∀{xs:List AV} {vs:List Value},bp ρ xs vs->(∀x∈xs,∀v,bC ρ x v->P v)->∀v∈vs,P v
 |[],[],_,_,_,m=>nomatch m
 |x::xs,v::vs,⟨a,b⟩,h,u,m=>by
  rcases aK.mp m with rfl|m
  ·exact h x (aj ..) _ a
  ·exact b.all (λy hy=>h y (ah _ hy)) u m
section
variable {X:Bx} {A:Around} {fe:cn} {env:Env}
theorem rj(hh:A.handled=none) (C:Cfg X A fe env ρ κ l σ s) (H:jq X A env 0 ρ κ s) (hv:bC ρ x v) (e:eA x ⟨l,σ⟩=some (.ok xs,st))
  (Cp:argsOk "sorted" ⟨[v],kw⟩) (EF:∀x,argsOk "list.sort" ⟨[.ref x],kw⟩)
  (h:∀s1 a vs,bJ X A fe env 0 ρ κ s ⟨l,σ⟩ ρ κ s1->Apart X A env ρ κ s a->s1.heap.get? a=some (seqObj "list" vs.toArray 0)->bp ρ xs vs->xs.length<=20000->
   wpAny (M X) A.in1.in1 (Builtin.«list.sort» ⟨[.ref a],kw⟩) (λf s'=>f= .done (.ret .none)/\Q (.ref a) s') E s1):
  wpAny (M X) A (call (.builtin "sorted") [v] kw) Q E s:=by
 refine call_function_entry_kw kind_sorted plain_sorted entry_sorted Cp ?_;unfold Builtin.«sorted»;refine aa (m:=checkCount "sorted" 1 1 _) (ae ?_);refine aa (my (A':=A.in1) hh C hv e λvs h' tk mS hl hk=> ?_);have N1:bJ X A fe env 0 ρ κ s ⟨l,σ⟩ ρ κ {s with heap:=h',toks:=tk}:=bJ.keep C H (Kp.of hk rfl rfl);refine aa (o9 ?_ (by rw[<-mS.length];have:=b9;omega));have D:s.heap.get? h'.objs.size=none:=by
  cases q:s.heap.get? h'.objs.size with
  |none=>rfl
  |some o=>have:=hk _ _ q;rw[et (aJ _)]at this;cases this
 obtain⟨g1,g2,g3,g4,g5⟩:=C.fresh D;refine aa (aQ (wpAny_call_entry_kw slot_list_sort ⟨_,aZ _ rfl,rfl⟩ entry_list_sort ?_ (EF _)));refine ao (h _ _ vs (N1.trans (bJ.oN N1.cfg N1.hok _)) ⟨D,g1,g2,g3,g4,g5⟩ (aZ _ rfl) mS hl) ?_ λ_ _ z=>z;rintro f s' ⟨rfl,hq⟩;exact⟨_,rfl,ae ⟨_,rfl,hq⟩⟩
theorem DB{Q:SortKind->Shared->Prop} (h2:2<=vs.length) (hv:bp ρ xs vs) (ha:xs.all qL=true) (hQ:Q oneType' s):wpAny (M X) A (keyKind' vs.toArray) Q E s:=by
 refine kas_kind (T:= .type "int") h2 (hv.all λx hx v hr=> ?_) rfl rfl hQ;have:=ee.mp ha x hx;cases x<;>first|cases this|skip
 obtain⟨t,rfl⟩:=hr;exact Looks.of_pure rfl
theorem yr{h:Hp} (e:(pairAt h x).isSome=true):∃n xs,x= .ref n/\h[n]? =some (.list xs):=by
 unfold pairAt at e;split at e
 ·split at e
  ·exact⟨_,_,rfl,by assumption⟩
  ·cases e
 ·cases e
theorem zR{h:Hp} (e:(m4 h x).isSome=true):∃n a b,x= .ref n/\h[n]? =some (.tuple [.int a,.int b]):=by
 unfold m4 at e;split at e
 ·split at e
  ·exact⟨_,_,_,rfl,by assumption⟩
  ·cases e
 ·cases e
theorem Az{Q:SortKind->Shared->Prop} (R:Rel X ρ κ σ s) (h2:2<=vs.length) (hv:bp ρ xs vs) (ha:(xs.all λx=>(pairAt σ x).isSome)=true) (hQ:Q oneType' s):wpAny (M X) A (keyKind' vs.toArray) Q E s:=by
 refine kas_kind (T:= .type "list") h2 (hv.all λx hx v hr=> ?_) rfl rfl hQ;have:=ee.mp ha x hx;obtain⟨n,ys,rfl,hn⟩:=yr this;obtain⟨a,tW,rfl⟩:=hr;obtain⟨ws,k,eo,_⟩:=R.objs n _ a hn tW;exact(Rw eo).andThen .now
theorem Bu{ρ κ:List Addr} {σ:Hp} {s:Shared} (R:Rel X ρ κ σ s):∀{xs:List AV} {vs:List Value},bp ρ xs vs->(xs.all λx=>(m4 σ x).isSome)=true->∃fs:List Value,KatTups s.heap vs fs/\fs.length=vs.length/\∀f∈fs,∃i t,f= .int i t
 |[],[],_,_=>⟨[],trivial,rfl,λ_ m=>nomatch m⟩
 |x::xs,v::vs,⟨hx,hv⟩,ha=>by
  rw[pe,cG]at ha;obtain⟨fs,h1,h2,h3⟩:=Bu R hv ha.2;obtain⟨n,i,j,rfl,hn⟩:=zR ha.1;obtain⟨a,tW,rfl⟩:=hx;obtain⟨ws,k,eo,rv,_⟩:=R.objs n _ a hn tW
  match ws,rv with
  |[w1,w2],⟨⟨t1,q1⟩,⟨t2,q2⟩,_⟩=>
   subst q1 q2;refine⟨.int i t1::fs,⟨⟨a,_,_,_,rfl,eo,rfl,rfl,rfl⟩,h1⟩,by rw[aq,aq,h2],λf hf=> ?_⟩;rcases aK.mp hf with rfl|hf
   ·exact⟨_,_,rfl⟩
   ·exact h3 f hf
theorem DA{Q:SortKind->Shared->Prop} (R:Rel X ρ κ σ s) (h2:2<=vs.length) (hv:bp ρ xs vs) (ha:(xs.all λx=>(m4 σ x).isSome)=true) (hQ:Q (tuples' true) s):wpAny (M X) A (keyKind' vs.toArray) Q E s:=by
 obtain⟨fs,h1,h3,h4⟩:=Bu R hv ha;refine kat_kind (T:= .type "int") h1 (by omega) (λf hf=> ?_) rfl hQ;obtain⟨i,t,rfl⟩:=h4 f hf;exact Looks.of_pure rfl
theorem zY(hu:A.units+2<cLine) (x:AV) (v:Value):aU X A fe env 0 (λρ=>bC ρ x v) (call (.builtin "sorted") [v]) (do
  let xs<-eA x
  let ys<-PM.sure (dn xs)
  let r<-PM.alloc (.list ys)
  PM.pure (.ref r)) VR:=by
 intro ρ κ l σ s C H hv r st e;have hh:=H.none_ rfl;rcases aH e with⟨xs,s1,e1,e2⟩|⟨k,e1,_⟩
 case inr=>obtain⟨_,q,_⟩:=ez e1;cases q
 obtain⟨_,_,q,_⟩:=ez e1;subst q;refine rj hh C H hv e1 (args_sorted1 _) (λx=>args_list_sort _) λs1 a vs N Ap ho mS hl=> ?_;rcases aH e2 with⟨ys,s2,e3,e4⟩|⟨k,e3,_⟩
 case inr=>obtain⟨_,q,_⟩:=eU e3;cases q
 obtain⟨Zw,tP,e3⟩:=eU e3;cases tP
 replace e4:=bY e4
 cases e4;have key:∀(K:SortKind) (xh:Nat->Nat->PM Bool),xs.length<64->(∀i j,aU X A.in1.in1 fe env 0 (λρ=>bp ρ xs vs) (keyLt' K (vs.getD i .none) (vs.getD j .none)) (xh i j) BR)->
   (2<=vs.length->∀s2,Rel X ρ κ σ s2->∀Q,Q K s2->wpAny (M X) A.in1.in1 (keyKind' vs.toArray) Q (λ_ _=>False) s2)->sortBy xh xs ⟨l,σ⟩=some (.ok ys,s2)->
   wpAny (M X) A.in1.in1 (Builtin.«list.sort» ⟨[.ref a],[]⟩) (λf s'=>f= .done (.ret .none)/\mM X A fe env 0 VR ρ κ s (.ok (AV.ref s2.hp.length)) ⟨s2.loc,s2.hp++[.list ys]⟩ (.ref a) s') (o6 X A fe env 0 ρ κ s (.ok (AV.ref s2.hp.length)) ⟨s2.loc,s2.hp++[.list ys]⟩) s1:=by
  intro K xh AZ DZ fw e;rcases rl e with⟨k,q⟩|⟨q,hq,f2,f1⟩
  ·cases q
  rw[mS.length]at f2 f1;refine uR (A:=A.in1.in1) (bJ.around (A:=A) (A':=A.in1.in1) rfl rfl N) ⟨Ap.oZ,Ap.r,Ap.k,Ap.z,Ap.f,Ap.l⟩ ho (by rw[<-mS.length];exact AZ) (λ_ _ s h=>h.mono s) mS DZ (λh2 s3 N3 Q hQ=>fw h2 s3 N3.cfg.rel Q hQ) f2 f1 λs' bX κ' c hs N' Et uH hz=>⟨rfl, ?_⟩;have Rh:bJ X A fe env 0 ρ κ s s2 bX κ' s':=bJ.around (A:=A.in1.in1) (A':=A) rfl rfl N';refine⟨_,_,κ',rfl,⟨a,Rh.cfg.newest,rfl⟩,bJ.adopt Rh ⟨Et.oZ,Et.r,Et.k,Et.z,Et.f,Et.l⟩ ⟨_,uH⟩ ⟨nc vs q,c,uH, ?_, ?_⟩⟩
  ·cases hq;unfold nc;have nW:=mS.mono (hs.trans (Sub.append bX [a]));cases q with
   |none=>exact nW
   |some p=>exact nW.Ml _
  ·cases hq;unfold nc at hz;cases q with
   |none=>exact hl
   |some p=>
    rw[aG]at hz ⊢;omega
 unfold dn at e3;split at e3
 ·cases e3
 rename_i AZ
 replace e3:=kI e3
 have AZ:xs.length<64:=by omega
 split at e3
 ·rename_i hi;exact key oneType' _ AZ (λi j=>(Hs (vs:=vs) (xs.getD i .none) (xs.getD j .none) _ _).pre λρ h=>⟨h.getD i,h.getD j⟩) (λh2 s3 _ Q hQ=>DB h2 mS hi hQ) e3
 split at e3
 ·rename_i hi;exact key oneType' _ AZ (λi j=>(Em (show A.in1.in1.units<cLine from hu) (xs.getD i .none) (xs.getD j .none) _ _).pre λρ h=>⟨h.getD i,h.getD j⟩) (λh2 s3 R Q hQ=>Az R h2 mS hi hQ) e3
 split at e3
 ·rename_i hi;exact key (tuples' true) _ AZ (λi j=>(Hr (xs.getD i .none) (xs.getD j .none) _ _).pre λρ h=>⟨h.getD i,h.getD j⟩) (λh2 s3 R Q hQ=>DA R h2 mS hi hQ) e3
 ·cases e3
end
end
section
open PySem.W.X
section
variable {X:Bx} {A:Around} {fe:cn} {env:Env} {ρ κ bQ bR:List Addr} {bD s s':Shared}
theorem Apart.new {b:Addr} (N:bJ X A fe env 0 bQ bR bD st ρ κ s) (h:s.heap.get? b=none):Apart X A env ρ κ bD b:=by
 obtain⟨g1,g2,g3,g4,g5⟩:=N.cfg.fresh h;refine⟨?_,g1,g2,g3,g4,g5⟩;cases q:bD.heap.get? b with
 |none=>rfl
 |some o=>obtain⟨o',e'⟩:=N.ext.alive b o q;rw[h]at e';cases e'
theorem DE{cf:ux} {key:AV} {kS:Addr} {e1:Nat} {body:Value->PUnit->Sem (ForInStep PUnit)} (hn:n<64) (apart_at:kS≠a)
  (hb:∀x (s:Shared) (R:ForInStep PUnit->Shared->Prop),wpAny (M X) A (call f [x]) (λk s'=>wpAny (M X) A (Builtin.List.listUpdate (.ref kS) (·.push k)) (λ_ HP=>R (.yield ⟨⟩) HP) E s') (λ_ _=>False) s->wpAny (M X) A (body x ⟨⟩) R E s)
  (yN:∀x v,aU X A fe env 0 (λρ=>bC ρ key f/\bC ρ x v) (call f [v]) (cf key [x]) VR):
  ∀(r:List Value) (xr:List AV) (kv:List Value) (kx:List AV) (c:Nat) (ρ κ:List Addr) (l:Loc) (σ:Hp) (s:Shared),bJ X A fe env 0 bQ bR bD ⟨l,σ⟩ ρ κ s->Apart X A env ρ κ bD kS->Apart X A env ρ κ bD a->
   s.heap.get? kS=some (seqObj "list" kv.toArray c)->s.heap.get? a=some (seqObj "list" #[] e1)->bp ρ xr r->bp ρ kx kv->bC ρ key f->kv.length+r.length=n->∀(ks:List AV) (st:AS),dC cf key xr ⟨l,σ⟩=some (.ok ks,st)->
   wpAny (M X) A (forIn r PUnit.unit body) (λ_ s'=>∃bX κ' RM c',Sub ρ bX/\bJ X A fe env 0 bQ bR bD st bX κ' s'/\Apart X A env bX κ' bD kS/\Apart X A env bX κ' bD a/\s'.heap.get? kS=some (seqObj "list" RM.toArray c')/\s'.heap.get? a=some (seqObj "list" #[] e1)/\bp bX (kx++ks) RM) E s:=by
 intro r;induction r with
 |nil=>
  intro xr kv kx c ρ κ l σ s N Ak Aa hk ha hv HU hf hl ks st e;cases xr with
  |cons _ _=>exact hv.elim
  |nil=>
  rw[eG];cases e;exact ae ⟨ρ,κ,kv,c,Sub.refl _,N,Ak,Aa,hk,ha,by rw[aX];exact HU⟩
 |cons v r ih=>
  intro xr kv kx c ρ κ l σ s N Ak Aa hk ha hv HU hf hl ks st e;cases xr with
  |nil=>exact hv.elim
  |cons x xr=>
  obtain⟨hx,hv⟩:=hv;rw[dX];unfold dC at e;rcases aH e with⟨y,s1,e2,e3⟩|⟨k,_,q⟩
  case inr=>cases q
  rcases aH e3 with⟨ys,s2,e4,e5⟩|⟨k,_,q⟩
  case inr=>cases q
  cases e5;rw[aq]at hl;refine aa (hb v s _ (ao (yN x v ρ κ l σ s N.cfg N.hok ⟨hf,hx⟩ _ _ e2) ?_ (λv s' q=>absurd q fE)));rintro w s3 ⟨y',iy,iG,q1,q2,N1⟩;cases q1;obtain⟨Za,GN⟩:=Ak.step N1.ext hk N.cfg.rel.iz;obtain⟨Aa1,Cp⟩:=Aa.step N1.ext ha N.cfg.rel.iz;obtain⟨c2,hc2⟩:∃c2,(s3.heap.update kS (Obj.mapSeq (·.push w))).get? kS=some (seqObj "list" (kv++[w]).toArray c2):=⟨_,by
   have ea:kv.toArray.push w=(kv++[w]).toArray:=by simp
   rw[<-ea];exact mB GN (·.push w)⟩
  have N2:=(N.trans N1).Dj Za (s':={s3 with heap:=s3.heap.update kS (Obj.mapSeq (·.push w))}) iZ rfl rfl;refine lI GN rfl ?_ (by rw[aO,iw];omega) (cy (Nat.le_of_eq (Array.size_push ..)) (by rw[aO,iw];omega));refine ao (ih xr (kv++[w]) (kx++[y]) c2 _ _ _ _ _ N2 Za Aa1 hc2 (iZ _ _ (dF apart_at) Cp) (hv.mono N1.ext.sub) ((HU.mono N1.ext.sub).snoc q2) (hf.mono N1.ext.sub) (by rw[af,dG];omega) _ _ e4) ?_ λ_ _ z=>z;rintro _ s4 ⟨bX,κ',RM,c',h1,h2,h3,h4,h5,h6,h7⟩;refine⟨bX,κ',RM,c',N1.ext.sub.trans h1,h2,h3,h4,h5,h6, ?_⟩;rw[bc]at h7;exact h7
theorem yE{ρ κ:List Addr} {s:Shared} (R:Rel X ρ κ σ s) {an:Addr} (hn:ρ[n]? =some an) {ks:List AV} (hv:bp ρ ks vs) (ha:ks.all (qM σ (.ref n))=true):∀v∈vs,Looks (M X) s.heap (typeOf v) (.ref an):=
 hv.all λx hx v hr=>by
  have h:=ee.mp ha x hx;unfold qM at h;split at h
  ·rename_i n' m heq;cases heq;split at h
   ·rename_i c u hm;have hc:c=n:=by simpa using h
    subst hc;obtain⟨a,tW,rfl⟩:=hr;obtain⟨cv,ws,h1,⟨dx,h2,_⟩,_⟩:=R.objs m _ a hm tW;obtain⟨an',h3,rfl⟩:=h1;rw[hn]at h3;cases h3;exact(Rw h2).andThen .now
   ·cases h
  ·cases h
theorem tH{lv:ER} {key:AV} {ys:List AV} {P:PySem.Fin->Shared->Prop}
  (N:bJ X A fe env 0 bQ bR bD ⟨l,σ⟩ ρ κ s) (Ap:Apart X A env ρ κ bD a) (ho:s.heap.get? a=some (seqObj "list" vs.toArray n)) (hv:bp ρ xs vs) (hf:bC ρ key f)
  (yN:∀x v,aU X A fe env 0 (λρ=>bC ρ key f/\bC ρ x v) (call f [v]) (lv.call key [x]) VR)
  (f_tup:∀x y v w,aU X A fe env 0 (λρ=>bC ρ x v/\bC ρ y w) (keyLt' oneType' v w) (lv.lt x y) BR)
  (e:fC lv key xs ⟨l,σ⟩=some (.ok ys,st))
  (hQ:∀s' bX κ' c ws,Sub ρ bX->bJ X A fe env 0 bQ bR bD st bX κ' s'->Apart X A env bX κ' bD a->s'.heap.get? a=some (seqObj "list" ws.toArray c)->bp bX ys ws->ws.length<64->P (.done (.ret .none)) s'):
  wpAny (M X) A (ksk_tree a f false) P E s:=by
 unfold fC at e;split at e
 ·cases e
 rename_i M4;rw[hv.length]at M4;have AZ:vs.length<64:=Nat.lt_of_not_le λq=>M4 (.inl q);clear M4;rcases aH e with⟨ks,s1,em,e2⟩|⟨k,_,q⟩
 case inr=>cases q
 replace e2:=kI e2
 split at e2
 case isFalse=>cases e2
 rename_i yK;obtain⟨KQ,HQ⟩:∃e1,(s.heap.update a (Obj.mapSeq λ_=>(#[]:Array Value))).get? a=some (seqObj "list" #[] e1):=⟨_,mB ho λ_=> #[]⟩;have N1:bJ X A fe env 0 bQ bR bD ⟨l,σ⟩ ρ κ {s with heap:=s.heap.update a (Obj.mapSeq λ_=>(#[]:Array Value))}:=N.Dj Ap iZ rfl rfl;unfold ksk_tree;refine aa (Nz ho rfl ?_);refine aa (lI ho rfl ?_ (by rw[aO,iw];omega) (bW _));refine aa (CH HQ rfl ?_);refine aa (nI ?_ (by show vs.length<=_;rw[iw];omega));refine aa (o9 ?_ (bW _));refine aQ ?_;generalize hh1:((s.heap.update a (Obj.mapSeq λ_=>(#[]:Array Value))).push (seqObj "tuple" vs.toArray 0))=h1;have k1:∀b o,(s.heap.update a (Obj.mapSeq λ_=>(#[]:Array Value))).get? b=some o->h1.get? b=some o:=λb o e=>by rw[<-hh1];exact aB _ e
 have N2:bJ X A fe env 0 bQ bR bD ⟨l,σ⟩ ρ κ {s with heap:=h1}:=N1.trans (bJ.keep N1.cfg N1.hok (Kp.of k1 rfl rfl));have Dk:h1.get? h1.objs.size=none:=et (aJ _);have Ak:=Apart.new N2 Dk;have N3:bJ X A fe env 0 bQ bR bD ⟨l,σ⟩ ρ κ {s with heap:=h1.push (seqObj "list" #[] 0)}:=N2.trans (bJ.oN N2.cfg N2.hok _);have hk3:(h1.push (seqObj "list" #[] 0)).get? h1.objs.size=some (seqObj "list" #[] 0):=aZ _ rfl;have ha3:(h1.push (seqObj "list" #[] 0)).get? a=some (seqObj "list" #[] KQ):=aB _ (k1 _ _ HQ);have apart_at:h1.objs.size≠a:=λq=>by rw[q,k1 _ _ HQ]at Dk;cases Dk
 show wpAny (M X) A (ksk_rest a f false vs.toArray KQ (.ref h1.objs.size)) P E {s with heap:=h1.push (seqObj "list" #[] 0)};unfold ksk_rest;refine aa (jV ?_);first
  |rw[Xf]
  | (rw[<-Xh];simp only [u9])
  |rw[<-Xh]
 refine aa (ao (DE (n:=vs.length) AZ apart_at (λx s5 R hx=> ?_) yN vs xs [] [] 0 ρ κ l σ _ N3 Ak Ap hk3 ha3 hv trivial hf (by simp) _ _ em) ?_ λ_ _ z=>z)
 ·refine aa (gR (ao hx (λk s6 hk=> ?_) λ_ _ hF=>hF.elim));dsimp only;exact aa (ao hk (λ_ s7 h7=>ae h7) λ_ _ z=>z)
 rintro _ s4 ⟨bX,κ',kv,c',hs,N4,Y9,Zb,UT,Yp,HU⟩;rw[eN]at HU
 try dsimp only
 refine aa (Nz UT rfl ?_);unfold ksk_end;dsimp only;rw[aC bL];have hlen:xs.length=vs.length:=hv.length;have Pn:∀(zs:List AV) (ks:List AV) (st st':AS),dC lv.call key zs st=some (.ok ks,st')->ks.length=zs.length:=by
  intro zs;induction zs with
  |nil=>intro ks st st' e;cases e;rfl
  |cons z zs ih=>
   intro ks st st' e;unfold dC at e;rcases aH e with⟨y,s1,e2,e3⟩|⟨k,_,q⟩
   case inr=>cases q
   rcases aH e3 with⟨ys,s2,e4,e5⟩|⟨k,_,q⟩
   case inr=>cases q
   cases e5;rw[aq,aq,ih _ _ _ e4]
 have Si:kv.length=vs.length:=by rw[<-HU.length,Pn _ _ _ _ em,hlen]
 have fin:∀(st':SortSt) (s5:Shared) (n7 uK:List Addr) (ws:List Value),(arrOf st').map (·.2)=ws.toArray->failedOf st'=none->Sub bX n7->bJ X A fe env 0 bQ bR bD st n7 uK s5->Apart X A env n7 uK bD a->Apart X A env n7 uK bD h1.objs.size->
   s5.heap.get? a=some (seqObj "list" #[] KQ)->s5.heap.get? h1.objs.size=some (seqObj "list" kv.toArray c')->ws.length<64->bp n7 ys ws->wpAny (M X) A (ksk_tail a false KQ (.ref h1.objs.size) st') P E s5:=by
  intro st' s5 n7 uK ws M0 hfl hs5 N5 S5 W5 Vk MO hz tP;unfold ksk_tail;dsimp only;rw[M0];refine aa (lI MO rfl ?_ (by rw[aO,iw];omega) (bW _));refine aa (wpAny_letGo ?_);have N6:bJ X A fe env 0 bQ bR bD st n7 uK {s5 with heap:=s5.heap.update h1.objs.size (Obj.mapSeq λ_=>(#[]:Array Value))}:=N5.Dj W5 iZ rfl rfl;have Vj:(s5.heap.update h1.objs.size (Obj.mapSeq λ_=>(#[]:Array Value))).get? a=some (seqObj "list" #[] KQ):=iZ _ _ (dF apart_at) Vk;refine aa (CH Vj rfl ?_);rw[aC bL];refine aa (lI Vj rfl ?_ (bW _) (by rw[aO,iw];omega));rw[hfl];simp only [oH,bU,gH];obtain⟨c2,hc2⟩:∃c2,((s5.heap.update h1.objs.size (Obj.mapSeq λ_=>(#[]:Array Value))).update a (Obj.mapSeq λ_=>ws.toArray)).get? a=some (seqObj "list" ws.toArray c2):=⟨_,mB Vj λ_=>ws.toArray⟩;exact ae (hQ _ n7 uK c2 ws (hs.trans hs5) (N6.Dj S5 iZ rfl rfl) S5 hc2 tP hz)
 rcases rl e2 with⟨k,q⟩|⟨q,hq,f2,f1⟩
 ·cases q
 rw[hlen]at f2 f1;by_cases h2:2<=vs.length
 ·have hn2:¬vs.toArray.size<2:=by rw[aO];omega
  rw[aC hn2,aC hn2];obtain⟨p,rfl,ep⟩:=f2 h2;obtain⟨kn,RO,hkey,UQ⟩:∃kn RO,key= .ref kn/\bX[kn]? =some RO:=by
   match ks,HU,yK,Pn _ _ _ _ em with
   |[],_,_,z=>rw[hlen]at z;simp at z;omega
   |k::_,HU,yK,_=>
    rw[pe,cG]at yK;have h:=yK.1;have Cj:=hf.mono hs;cases key with
    |ref kn=>obtain⟨RO,h1,_⟩:=Cj;exact⟨kn,RO,rfl,h1⟩
    |_=>unfold qM at h;cases h
  subst hkey;refine aa (ao (kas_kind (s:=s4) (E:=λ_ _=>False) (Q:=λK s'=>K=oneType'/\s'=s4) (by rw[Si];exact h2) (yE N4.cfg.rel UQ HU yK) rfl (by simp) ⟨rfl,rfl⟩) (λK s5 hk=> ?_) λ_ _ z=>z.elim);obtain⟨rfl,rfl⟩:=hk;have T:=uk (A:=A) (K:=oneType') (ks:=kv) (Pre:=λρ=>bp ρ ks kv) (λ_ _ s h=>h.mono s) (λi j=>(f_tup (ks.getD i .none) (ks.getD j .none) (kv.getD i .none) (kv.getD j .none)).pre λρ h=>⟨h.getD i,h.getD j⟩) (kas_sort vs.length) (bJ.refl N4.cfg N4.hok) HU ep;refine aa (ao (kat_run (E:=E) (Q:=λst' s'=>∃p':Array Nat,p'.size=vs.length/\arrOf st'=p'.map (kas_item (kv.toArray.zip vs.toArray))/\failedOf st'=none/\p'=p/\∃n7 uK,Sub bX n7/\bJ X A fe env 0 bX κ' s5 st n7 uK s')
   Si h2 AZ (λp' st' s' a1 a2 a3 a4=>⟨p',a1,a2,a3,a4⟩) T) ?_ λ_ _ e=>e)
  rintro⟨⟨⟩,st'⟩ s' ⟨p',hp,M0,hfl,rfl,n7,uK,hs2,N5⟩;obtain⟨S5,Vk⟩:=Zb.step N5.ext Yp N4.cfg.rel.iz;obtain⟨W5,MO⟩:=Y9.step N5.ext UT N4.cfg.rel.iz;refine fin st' s' n7 uK (p'.toList.map λi=>vs.getD i .none) (kat_snds Si M0) hfl hs2 (N4.trans N5) S5 W5 Vk MO (by rw[aG,jC,hp];exact AZ) ?_;cases hq;exact(hv.mono (hs.trans hs2)).Ml _
 ·have hn2:vs.toArray.size<2:=by rw[aO];omega
  rw[aD hn2,aD hn2];obtain⟨rfl,rfl⟩:=f1 (by omega);refine aa (ae ?_);refine aa (ae ?_);refine fin _ s4 bX κ' vs ?_ rfl (Sub.refl _) N4 Zb Y9 Yp UT AZ ?_
  ·show((kv.toArray.zip vs.toArray).map (·.2))=vs.toArray
   apply Array.ext
   ·simp [Si]
   ·intro i h1 h2;simp
  ·cases hq;exact hv.mono hs
theorem xU{lv:ER} (x key:AV) (v f:Value)
  (yN:∀x v,aU X A.in1.in1 fe env 0 (λρ=>bC ρ key f/\bC ρ x v) (call f [v]) (lv.call key [x]) VR)
  (f_tup:∀x y v w,aU X A.in1.in1 fe env 0 (λρ=>bC ρ x v/\bC ρ y w) (keyLt' oneType' v w) (lv.lt x y) BR):
  aU X A fe env 0 (λρ=>bC ρ x v/\bC ρ key f) (call (.builtin "sorted") [v] [(Str.ofString "key",f)]) (do
  let xs<-eA x
  let ys<-PM.sure (fC lv key xs)
  let r<-PM.alloc (.list ys)
  PM.pure (.ref r)) VR:=by
 intro ρ κ l σ s C H ⟨hv,hf⟩ r st e;have hh:=H.none_ rfl;rcases aH e with⟨xs,s1,e1,e2⟩|⟨k,e1,_⟩
 case inr=>obtain⟨_,q,_⟩:=ez e1;cases q
 obtain⟨_,_,q,_⟩:=ez e1;subst q;refine rj hh C H hv e1 (ksk_s1 _ _) (λx=>ksk_l1 _ _) λs1 a vs N Ap ho mS hl=> ?_;rcases aH e2 with⟨ys,s2,e3,e4⟩|⟨k,e3,_⟩
 case inr=>obtain⟨_,q,_⟩:=eU e3;cases q
 obtain⟨Zw,tP,e3⟩:=eU e3;cases tP
 replace e4:=bY e4
 cases e4;obtain⟨kn,rfl⟩:∃n,key= .ref n:=by
  have He:=e3;unfold fC at He;split at He
  ·cases He
  ·rename_i h;cases key<;>first|exact⟨_,rfl⟩|exact absurd (Or.inr rfl) h
 obtain⟨qf,hqf,rfl⟩:=hf;have hf:bC ρ (.ref kn) (.ref qf):=⟨qf,hqf,rfl⟩;rw[ksk_t1];refine tH (A:=A.in1.in1) (bJ.around (A:=A) (A':=A.in1.in1) rfl rfl N) ⟨Ap.oZ,Ap.r,Ap.k,Ap.z,Ap.f,Ap.l⟩ ho mS hf yN f_tup e3 λs' bX κ' c ws hs N' Et uH tP hz=>⟨rfl, ?_⟩;have Rh:bJ X A fe env 0 ρ κ s s2 bX κ' s':=bJ.around (A:=A.in1.in1) (A':=A) rfl rfl N';exact⟨_,_,κ',rfl,⟨a,Rh.cfg.newest,rfl⟩,bJ.adopt Rh ⟨Et.oZ,Et.r,Et.k,Et.z,Et.f,Et.l⟩ ⟨_,uH⟩ ⟨ws,c,uH,tP.mono (Sub.append bX [a]),by rw[tP.length];omega⟩⟩
end
end
section
open PySem.W.X
section
variable {prog:PySem.Program} {w:World} {A:Around} {E:Value->Shared->Prop} {s:Shared}
theorem TK(hu:A.units<cLine) {K1:Frag} {x C f:Addr} {ox of:Obj} {od:Option Obj} {b:Value} {Q:Bool->Shared->Prop} (X1:K1.In s.heap) (I:InstAt s.heap x ox C od) (hs:findIn K1 (.ref C) "__lt__"=some (some (.ref f)))
  (ef:s.heap.get? f=some of) (hc:of.cls= .type "function") (h:wpAny (model prog w) A (call (.ref f) [.ref x,b]) (λv s'=>∃c,v= .bool c/\Q c s') E s):wpAny (model prog w) A (keyLt' oneType' (.ref x) b) Q E s:=by
 rw[keyLt'_oneType,oneLt'_eq];simp only [jM];refine aa (wpAny_cRoomFor hu ?_);refine aa (m:=callSpecialIfBound? (.ref x) "__lt__" [b]) ?_;have fin:wpAny (model prog w) A (call (.ref f) ([.ref x]++[b])>>=λv=>pure (some v)) (λr s'=>∃c,r=some (.bool c)/\Q c s') E s:=aa (ao h (λv s' ⟨c,h1,h2⟩=>ae ⟨c,by rw[h1],h2⟩) λ_ _ h'=>h');refine ao (Q:=λr s'=>∃c,r=some (.bool c)/\Q c s') ?_ ?_ λ_ _ z=>z
 ·simp only [callSpecialIfBound?,bindSpecialIfBound?];refine aQ (aa (aa (aa (I.type.here ((mW X1 hs).here ?_)))));refine aa (ql (wpAny_ite ?_));have bf:=bind_fn (M:=model prog w) (Kd ef) (.ref x) (FX hc);split
  ·exact aa (bf.here (ae (by exact fin)))
  ·exact wpAny_tryCatch (aa (bf.here (ae (by exact fin))))
 ·rintro r s' ⟨c,rfl,hq⟩;exact kL hq
end
section
variable {X:Bx} {A:Around} {fe:cn} {env:Env}
theorem IE(G:bZ X) (GK:Ox X) {lv:ER} (iM:fk A (k+1))
  (body:∀(A':Around) (fi:fN) ir bE,fk A' k->Top A' bE->aU X A' ir bE 0 bg (execs fi.body bE) (gp ⟨X.P,lv,fuel,0⟩ fi.body ir) FR) (x y:AV) (v w:Value):
  aU X A fe env 0 (λρ=>bC ρ x v/\bC ρ y w) (keyLt' oneType' v w) (Al X.P fuel lv x y) BR:=by
 intro ρ κ l σ s C H ⟨hv,hw⟩ r st e;unfold Al at e;cases x with
 |ref n=>
  obtain⟨a,ha,rfl⟩:=hv;obtain⟨o,ho,e2⟩:=bI e;clear e;cases o with
  |slots c vs=>
   cases c with
   |ref k'=>
    obtain⟨o,hok,e3⟩:=bI e2;clear e2;cases o with
    |jb c=>
     obtain⟨cv,ws,⟨ak,Jx,rfl⟩,⟨dx,hx,_,Yk⟩,_⟩:=C.rel.objs n _ a ho ha;obtain⟨ac,HX,ns,md,B,kr,tk,h1,t1,h2,t2,tm,e1,e2,m2,e4,m3,f1,f2⟩:=C.rel.objs k' _ ak hok Jx;have n1:ns≠ak:=by rintro rfl;rw[e1]at e2;exact absurd (c6 (dg Obj.cls (bV e2))) (by decide)
     have q1:=B9 (a:=ak) (ns:=ns) (md:=md) (B:=B) (tk:=tk) (tm:=tm) (r:=kr) (h1:=h1) (h2:=h2) (t1:=t1) (t2:=t2);have q2:=Gk (md:=md) (B:=B) (tk:=tk) (tm:=tm) (r:=kr) (h1:=h1) (h2:=h2) (t1:=t1) (t2:=t2) n1;have xq:=wN e1 e2 e4;obtain⟨doc,cc,lW,ef,mf,mU,Z3⟩:=f2;rcases aH e3 with⟨z,s1,e5,e6⟩|⟨k2,e5,_⟩
     case inr=>obtain⟨_,_,q⟩:=qF e5;cases q
     have hz:∃b,z= .bool b/\r= .ok b/\st=s1:=by
      cases z<;>cases e6
      exact⟨_,rfl,rfl,rfl⟩
     obtain⟨b,rfl,rfl,rfl⟩:=hz;obtain⟨s1,s2,s3⟩:=GK.sc 1 (by decide);have FI:rX X (fnX "__lt__" "cmp_to_key.<locals>.K.__lt__" (X.kd 1).args (X.kd 1).body (X.kd 1).scope [(("mycmp":Str),ac)] .none .none doc ((X.mg "__name__").getD .none) none (.ref cc) lW) X.P.klt [(("mycmp":Str),ac)]:=by
      rw[GK.lt];exact⟨rfl,rfl,rfl,rfl,rfl,rfl,.inl ⟨rfl,rfl⟩,s1,s2,s3,λc q=>nomatch q⟩
     refine TK (eT (by omega) iM.u) xq (⟨hx,rfl,rfl,Yk⟩:InstAt s.heap a _ ak (some emptyDict)) (PC q1 q2) ef rfl ?_;refine ao (Ej G iM FI (λA' ir bE pj=>body A' X.P.klt ir bE pj) C H ef rfl mU (cl:=[("mycmp",c)]) ⟨⟨rfl,HX⟩,trivial⟩ (xs:=[.ref n,y]) (vs:=[.ref a,w]) ⟨⟨_,ha,rfl⟩,hw,trivial⟩ e5) ?_ ?_
     ·rintro v s' ⟨x',iy,iG,q3,q4,N⟩;cases q3;exact⟨b,q4,b,iy,iG,rfl,rfl,N⟩
     ·exact λv s' q=>absurd q fE
    |_=>cases e3
   |_=>cases e2
  |_=>cases e2
 |_=>cases e
end
end
section
open PySem.W.X
section
variable {X:Bx} {A:Around} {fe:cn} {env:Env} {hd:Nat} {α β γ δ:Type}
theorem aU.fP {R:List Addr->α->γ->Prop} {R':List Addr->β->δ->Prop} {t:Sem α} {f:α->Sem β} {c:PM γ} {g:γ->PM δ}
  (h1:aU X A fe env hd bg t c R) (h2:∀a b,aU X A fe env hd (λρ=>R ρ a b) (f a) (g b) R'):aU X A fe env hd bg (t>>=f) (c>>=g) R':=
 aU.bind (λ_ _ _ _=>trivial) h1 λa b=>(h2 a b).pre λ_ h=>h.2
theorem aU.bind1 {R:List Addr->α->γ->Prop} {R':List Addr->β->δ->Prop} {t:Sem α} {f:α->Sem β} {c:PM γ} {g:γ->PM δ}
  (h1:aU X A fe env hd (λρ=>bC ρ x v) t c R) (h2:∀a b,aU X A fe env hd (λρ=>bC ρ x v/\R ρ a b) (f a) (g b) R'):aU X A fe env hd (λρ=>bC ρ x v) (t>>=f) (c>>=g) R':=
 aU.bind (λ_ _ s h=>h.mono s) h1 h2
theorem aU.Cy {y:AV} {w:Value} {R:List Addr->α->γ->Prop} {R':List Addr->β->δ->Prop} {t:Sem α} {f:α->Sem β} {c:PM γ} {g:γ->PM δ}
  (h1:aU X A fe env hd (λρ=>bC ρ x v/\bC ρ y w) t c R) (h2:∀a b,aU X A fe env hd (λρ=>(bC ρ x v/\bC ρ y w)/\R ρ a b) (f a) (g b) R'):aU X A fe env hd (λρ=>bC ρ x v/\bC ρ y w) (t>>=f) (c>>=g) R':=
 aU.bind (λ_ _ s h=>⟨h.1.mono s,h.2.mono s⟩) h1 h2
theorem aU.skip {R':List Addr->β->δ->Prop} {t:Sem Unit} {f:Unit->Sem β} {c:PM δ} (h1:∀(s:Shared) (Q:Unit->Shared->Prop) E,Q () s->wpAny (M X) A t Q E s)
  (h2:aU X A fe env hd Pre (f ()) c R'):aU X A fe env hd Pre (t>>=f) c R':=
 λρ κ l σ s C H P r st e=>aa (h1 s _ _ (h2 ρ κ l σ s C H P r st e))
theorem ji(x:Str) (av:AV) (v:Value):aU X A fe env hd (λρ=>bC ρ av v) (bindName env x v) (gO fe x av) UR:=by
 intro ρ κ l σ s C H P r st e;exact wpAny_bindName (oe x av v ρ κ l σ s C H P r st e)
theorem Dd(c:Const):aU X A fe env hd bg (constValue env c) (match c with
  | .none=>PM.pure .none
  | .bool b=>PM.pure (.bool b)
  | .int i=>PM.pure (.int i)
  |_=>PM.stuck) VR:=by
 cases c<;>first|exact aU.stuck|skip
 ·exact aU.pure λ_ _=>rfl
 ·exact aU.pure λ_ _=>rfl
 ·rename_i i;intro ρ κ l σ s C H _ r st e;cases e;show wpAny (M X) A (mkInt i) _ _ s;exact wpAny_mkInt ⟨.int i,ρ,κ,rfl,⟨_,rfl⟩,bJ.toks C H⟩
theorem vw(x:AV) (v:Value) (vs:List Value):aU X A fe env hd (λρ=>bC ρ x v) (holding vs (truthy v)) (ig x) BR:=(oM x v).holding
theorem J6(b:Bool) (v:Value):aU X A fe env hd (λ_=>v= .bool b) (truthy v) (PM.pure b) BR:=by
 intro ρ κ l σ s C H P r st e;cases e;subst P;exact kL ⟨b,ρ,κ,rfl,rfl,bJ.refl C H⟩
theorem sI{C:Cx} (pos:Pos) (op:PySem.BoolOp):∀(xs:List PySem.Expr) (_:∀x∈xs,aU X A fe env hd bg (eval x env) (ev C x fe) VR),aU X A fe env hd bg (boolOp pos op (evalEach xs env)) (rK op (jQ C xs fe)) VR
 |[],_=>by
  unfold jQ rK;exact aU.stuck
 |[x],h=>by
  have:=h x (aj ..);unfold jQ jQ rK;exact this
 |x::y::r,h=>by
  have ih:=sI pos op (y::r) λz hz=>h z (ah _ hz);have hx:=h x (aj ..);have e1:boolOp pos op (evalEach (x::y::r) env)=(eval x env>>=λv=>standAt pos>>=λ_=>holding [v] (truthy v)>>=λt=>match op,t with
   | .And,false| .Or,true=>pure v
   |_,_=>boolOp pos op (evalEach (y::r) env)):=rfl
  have e2:rK op (jQ C (x::y::r) fe)=(ev C x fe>>=λv=>ig v>>=λb=>match op,b with
   | .And,false=>PM.pure v
   | .Or,true=>PM.pure v
   |_,_=>rK op (jQ C (y::r) fe)):=by
   have e3:∀z zs,jQ C (z::zs) fe=ev C z fe::jQ C zs fe:=λz zs=>by rw[jQ]
   rw[e3 x,e3 y];rfl
  rw[e1,e2];refine aU.fP hx λv a=>aU.d5 ?_;refine aU.bind1 (vw a v _) λt b=> ?_;intro ρ κ l σ s Cf H P rr st e;obtain⟨hv,hb⟩:=P;have hb:t=b:=hb;subst hb;cases op<;>cases t
  ·exact(aU.pure (R:=VR) (Pre:=λρ=>bC ρ a v) λρ h=>h) ρ κ l σ s Cf H hv rr st e
  ·exact ih ρ κ l σ s Cf H trivial rr st e
  ·exact ih ρ κ l σ s Cf H trivial rr st e
  ·exact(aU.pure (R:=VR) (Pre:=λρ=>bC ρ a v) λρ h=>h) ρ κ l σ s Cf H hv rr st e
theorem rp{C:Cx} (op:PySem.BoolOp):∀(xs:List PySem.Expr) (_:∀x∈xs,aU X A fe env hd bg (isTrue x env (eval x env)) (cV C x fe (ev C x fe)) BR),aU X A fe env hd bg (allTrue op xs env) (vU C op xs fe) BR
 |[],_=>by
  unfold vU;exact aU.pure λ_ _=>rfl
 |x::r,h=>by
  have ih:=rp op r λz hz=>h z (ah _ hz);have e1:allTrue op (x::r) env=(isTrue x env (eval x env)>>=λt=>match op,t with
   | .And,false=>pure false
   | .Or,true=>pure true
   |_,_=>allTrue op r env):=rfl
  unfold vU;rw[e1];refine aU.fP (h x (aj ..)) λt b=> ?_;intro ρ κ l σ s Cf H P rr st e;have hb:t=b:=P;subst hb;cases op<;>cases t
  ·exact(aU.pure (Pre:=bg) λρ h=>rfl) ρ κ l σ s Cf H trivial rr st e
  ·exact ih ρ κ l σ s Cf H trivial rr st e
  ·exact ih ρ κ l σ s Cf H trivial rr st e
  ·exact(aU.pure (Pre:=bg) λρ h=>rfl) ρ κ l σ s Cf H trivial rr st e
theorem vv{C:Cx}:∀(xs:List PySem.Expr) (_:∀x∈xs,aU X A fe env hd bg (isTrue x env (eval x env)) (cV C x fe (ev C x fe)) BR),aU X A fe env hd bg (j4 xs env true) (jK C xs fe) BR
 |[],_=>by
  unfold jK j4;rw[eG];exact aU.pure λ_ _=>rfl
 |c::r,h=>by
  have ih:=vv r λz hz=>h z (ah _ hz);rw[zS];unfold jK;refine aU.fP (h c (aj ..)) λt b=> ?_;intro ρ κ l σ s Cf H P rr st e;have hb:t=b:=P;subst hb;cases t
  ·rw[ri];exact(aU.pure (Pre:=bg) λρ h=>rfl) ρ κ l σ s Cf H trivial rr st e
  ·exact ih ρ κ l σ s Cf H trivial rr st e
end
section
variable {X:Bx} {A:Around} {fe:cn} {env:Env} {ρ κ bQ bR:List Addr} {bD s s':Shared}
theorem kD{o:bP} {f:bP->PM β} (h:st.hp[n]? =some o):(PM.obj n>>=f) st=f o st:=by
 have q:PM.obj n st=some (.ok o,st):=by unfold PM.obj;rw[h]
 show PM.bind (PM.obj n) f st=_;unfold PM.bind;rw[q]
theorem Hf{mk:Nat->pk} (hn:∀i,fu (mk i) ⟨l,σ⟩=some (.ok (xs[i]?.map λv=>(v,mk (i+1))),⟨l,σ⟩)):
  ∀(n i:Nat) (ρ κ:List Addr) (s:Shared),bJ X A fe env 0 bQ bR bD ⟨l,σ⟩ ρ κ s->n9 X A env ρ κ bD s I (mk i)->xs.length=i+n->
   wpAny (M X) A (draw (.ref I) n) (λvs s'=>∃bX κ',Sub ρ bX/\bp bX (xs.drop i) vs/\bJ X A fe env 0 bQ bR bD ⟨l,σ⟩ bX κ' s'/\n9 X A env bX κ' bD s' I (mk (i+n))) E s:=by
 intro n;induction n with
 |zero=>
  intro i ρ κ s N hI hl;show wpAny _ _ (pure []) _ E s;refine ae ⟨ρ,κ,Sub.refl _, ?_,N,hI⟩;rw[List.drop_eq_nil_of_le (by omega)];trivial
 |succ n ih=>
  intro i ρ κ s N hI hl;have f_tup:i<xs.length:=by omega
  have hx:xs[i]? =some xs[i]:=by simp [f_tup]
  have e:=hn i;rw[hx]at e;show wpAny _ _ (pyNext (.ref I)>>=_) _ E s;refine aa (ao (nT N hI e) ?_ λ_ _ z=>z);rintro o' s1 ⟨v,rfl,hv,N1,QI,_⟩;dsimp only;refine aa (aQ (ao (ih (i+1) _ _ s1 N1 QI (by omega)) ?_ λ_ _ z=>z));rintro vs s2 ⟨bX,κ',h1,h2,N2,KL⟩;refine ae ⟨bX,κ',h1, ?_,N2, ?_⟩
  ·rw[Ic f_tup];exact⟨hv.mono h1,h2⟩
  ·have:i+1+n=i+(n+1):=by omega
   rw[this]at KL;exact KL
theorem rN(G:bZ X) (C:Cfg X A fe env ρ κ l σ s) (H:jq X A env 0 ρ κ s) (hv:bC ρ x v) (e:r7 x n ⟨l,σ⟩=some (.ok xs,st)):
  st=⟨l,σ⟩/\xs.length=n/\wpAny (M X) A (unpackItems v n none) (λvs s'=>∃bX κ',Sub ρ bX/\bp bX xs vs/\bJ X A fe env 0 ρ κ s ⟨l,σ⟩ bX κ' s') E s:=by
 unfold r7 at e;cases x with
 |ref k=>
  obtain⟨o,ho,e2⟩:=bI e;clear e;have go:∀(mk:Nat->pk) (ys:List AV),rE (.ref k) ⟨l,σ⟩=some (.ok (mk 0),⟨l,σ⟩)->(∀i,fu (mk i) ⟨l,σ⟩=some (.ok (ys[i]?.map λv=>(v,mk (i+1))),⟨l,σ⟩))->eA (.ref k) ⟨l,σ⟩=some (.ok ys,⟨l,σ⟩)->
    (if ys.length=n then PM.pure ys else PM.stuck:PM (List AV)) ⟨l,σ⟩=some (.ok xs,st)->
    st=⟨l,σ⟩/\xs.length=n/\wpAny (M X) A (unpackItems v n none) (λvs s'=>∃bX κ',Sub ρ bX/\bp bX xs vs/\bJ X A fe env 0 ρ κ s ⟨l,σ⟩ bX κ' s') E s:=by
   intro mk ys hit X2 Vb e;by_cases hz:ys.length=n
   case neg=>rw[aC hz]at e;cases e
   rw[aD hz]at e;cases e;refine⟨rfl,hz, ?_⟩;obtain⟨_,it,hq,w⟩:=jA (E:=E) G C H hv hit;cases hq;unfold unpackItems;refine aa (pN C hv Vb ?_);simp only [bU,gH];refine aa (aQ (ao w ?_ λ_ _ z=>z));rintro iv s1 ⟨I,rfl,N1,hI,_⟩;refine aa (aQ (ao (Hf X2 n 0 ρ κ s1 N1 hI (by omega)) ?_ λ_ _ z=>z));rintro vs s2 ⟨bX,κ',h1,h2,N2,KL⟩;have hlen:vs.length=n:=by rw[<-h2.length,List.drop_zero,hz]
   rw[aC (by omega)];have e3:=X2 (0+n);have GH:xs[0+n]? =none:=by rw[cE];omega
   rw[GH]at e3;refine aa (aQ (ao (nT N2 KL e3) ?_ λ_ _ z=>z));rintro o' s3 ⟨rfl,N3⟩;simp only [Option.isSome_none,bU,gH];rw[List.drop_zero]at h2;exact ae ⟨bX,κ',h1,h2,N3⟩
  cases o with
  |list ys=>
   exact go (.list k) ys ((kD ho).trans rfl) (λi=>(kD ho).trans (by dsimp only;cases ys[i]?<;>rfl)) ((kD ho).trans rfl) e2
  |tuple ys=>
   exact go (.tup k) ys ((kD ho).trans rfl) (λi=>(kD ho).trans (by dsimp only;cases ys[i]?<;>rfl)) ((kD ho).trans rfl) e2
  |_=>cases e2
 |_=>cases e
end
section
variable {X:Bx} {A:Around} {fe:cn} {env:Env} {hd:Nat}
theorem mG:∀(es:List PySem.Expr) (xs:List AV) (vs:List Value),aU X A fe env hd (λρ=>bp ρ xs vs) (assignInOrder ((assignEach es env).map (·.2)) vs) (cK fe es xs) UR
 |[],[],vs=>by
  unfold cK;intro ρ κ l σ s C H P r st e;cases vs with
  |nil=>exact(aU.pure (Pre:=bg) λ_ _=>trivial) ρ κ l σ s C H trivial r st e
  |cons _ _=>exact P.elim
 |[],_::_,_=>by unfold cK;exact aU.stuck
 |x::es,[],_=>by cases x<;>(unfold cK;exact aU.stuck)
 |x::es,y::ys,vs=>by
  cases x<;>first| (unfold cK;exact aU.stuck)|skip
  rename_i nm pos;have ih:=mG es ys;intro ρ κ l σ s C H P r st e;cases vs with
  |nil=>exact P.elim
  |cons v vs=>
  unfold cK at e;have t:aU X A fe env hd (λρ=>bp ρ (y::ys) (v::vs)) (holding vs (assign (.Name nm pos) env v)>>=λ_=>assignInOrder ((assignEach es env).map (·.2)) vs) (do gO fe nm y;cK fe es ys) UR:=by
   refine aU.bind (R:=UR) (λ_ _ s h=>h.mono s) (aU.holding ?_) λ_ _=>(ih vs).pre λρ h=>h.1.2;show aU X A fe env hd _ (standAt pos>>=λ_=>bindName env nm v) _ _;exact aU.d5 ((ji nm y v).pre λρ h=>h.1)
  exact t ρ κ l σ s C H P r st e
theorem ou(env:Env):∀es:List PySem.Expr,(∀x∈es,cC x=false)->(assignEach es env).findIdx? (·.1)=none/\(assignEach es env).length=es.length
 |[],_=>⟨rfl,rfl⟩
 |x::r,h=>by
  have ih:=ou env r λy hy=>h y (ah _ hy);have hx:=h x (aj ..);have e:assignEach (x::r) env=(false,assign x env)::assignEach r env:=by
   cases x<;>first|rfl|cases hx
  rw[e,List.findIdx?_cons,aq,aq,ih.2];simp [ih.1]
theorem kZ{fe:cn}:∀{es:List PySem.Expr} {xs:List AV} {st:AS} {r:Res Unit} {st':AS},cK fe es xs st=some (r,st')->(∃u,r= .ok u)->∀x∈es,cC x=false
 |[],_,_,_,_,_,_,_,m=>nomatch m
 |y::es,xs,st,r,st',e,hr,x,m=>by
  cases xs with
  |nil=>cases y<;>(unfold cK at e;cases e)
  |cons z zs=>
  cases y<;>first| (unfold cK at e;cases e;done)|skip
  rename_i nm pos;unfold cK at e;rcases aH e with⟨u,s1,e1,e2⟩|⟨k,_,q⟩
  ·rcases aK.mp m with rfl|m
   ·rfl
   ·exact kZ e2 hr x m
  ·subst q;obtain⟨_,q⟩:=hr;cases q
theorem nF{fe:cn}:∀{es:List PySem.Expr} {xs:List AV} {st:AS} {r:Res Unit} {st':AS},cK fe es xs st=some (r,st')->∃u,r= .ok u
 |[],[],_,_,_,e=>by cases e;exact⟨_,rfl⟩
 |[],_::_,_,_,_,e=>by cases e
 |y::es,xs,st,r,st',e=>by
  cases xs with
  |nil=>cases y<;>(unfold cK at e;cases e)
  |cons z zs=>
  cases y<;>first| (unfold cK at e;cases e;done)|skip
  unfold cK at e;rcases aH e with⟨u,s1,e1,e2⟩|⟨k,e1,_⟩
  ·exact nF e2
  ·cases qy e1
theorem rP(G:bZ X) (hC:C.hd=hd) (es:List PySem.Expr) (k:Nat) (pos:Pos) (x:AV) (v:Value):aU X A fe env hd (λρ=>bC ρ x v) (assign (.Tuple es k pos) env v) (cq C (.Tuple es k pos) fe x) UR:=by
 intro ρ κ l σ s Cf H hv r st e;unfold cq at e;by_cases h0:C.hd=0
 case neg=>rw[aD (by simpa using h0)]at e;cases e
 rw[aC (by simp [h0])]at e;have:hd=0:=hC.symm.trans h0;subst this;rcases aH e with⟨xs,s1,e1,e2⟩|⟨k,e1,_⟩
 case inr=>
  unfold r7 at e1;cases x with
  |ref n=>
   obtain⟨o,ho,e3⟩:=bI e1;cases o<;>first| (cases e3;done)|skip
   all_goals
    dsimp only at e3;split at e3
    ·cases e3
    ·cases e3
  |_=>cases e1
 obtain⟨rfl,hl,w⟩:=rN (E:=o6 X A fe env 0 ρ κ s r st) G Cf H hv e1;have ok:=nF e2;obtain⟨f1,f2⟩:=ou env es (kZ e2 ok);rw[arm_assign_Tuple];refine aa (c7 ?_);unfold unpack;rw[f1,f2];refine aa (aQ (ao w ?_ λ_ _ z=>z));rintro vs s' ⟨bX,κ',h1,h2,N⟩;refine ao (mG es xs vs bX κ' l σ s' N.cfg N.hok h2 _ _ e2) ?_ ?_
 ·rintro _ s2 ⟨b,iR,iS,q1,q2,N2⟩;exact⟨b,iR,iS,q1,q2,N.trans N2⟩
 ·rintro v s2 ⟨b,iR,iS,q1,q2,N2⟩;exact⟨b,iR,iS,q1,q2.back N.ext.alive,N.trans N2⟩
end
end
section
open PySem.W.X
section
variable {M:Model} {A:Around} {E:Value->Shared->Prop} {s:Shared}
theorem Hv{ta tv:Sem Value} {k:Str} {Q:Args->Shared->Prop} (h:wpAny M A ta (λva s₁=>wpAny M A tv (λvk s₂=>Q ⟨[va],[(k,vk)]⟩ s₂) E s₁) E s):
  wpAny M A (evalArgs f true [(false,ta)] [(some k,tv)]) Q E s:=by
 unfold evalArgs;dsimp only;have sp:spliced [(false,ta)]=(ta>>=λv=>holding [v] (pure [])>>=λr=>pure ([v]++r)):=by
  unfold spliced spliced;simp [bind_assoc,pure_bind]
 rw[sp];refine aa (aa (ao h (λva s₁ fF=> ?_) λ_ _ z=>z));refine aa (aQ (ae (ae ?_)));refine aa (ae ?_);dsimp only;refine aQ ?_;rw[aD (by rfl)];have ea:evalAll (List.map (λx=>x.2) [(some k,tv)])=(tv>>=λv=>holding [v] (pure [])>>=λr=>pure (v::r)):=rfl;rw[ea];refine aa (aa (ao fF (λvk s₂ h₂=> ?_) λ_ _ z=>z));refine aa (aQ (ae (ae ?_)));exact aa (ae (ae h₂))
theorem xn{id:String} {ta tv:Sem Value} {k:Str} (h:wpAny M A ta (λva s₁=>wpAny M A tv (λvk s₂=>wpAny M A (call (.builtin id) [va] [(k,vk)]) Q E s₂) E s₁) E s):
  wpAny M A (callWith pos (.builtin id) [] [(false,ta)] [(some k,tv)]) Q E s:=by
 unfold callWith;refine aa (aQ (ao (Hv (Q:=λar s₂=>wpAny M A (call (.builtin id) ([]++ar.pos) ar.kw) Q E s₂) h) (λa s₁ fF=> ?_) λ_ _ z=>z));refine aa (c7 ?_);refine aa (ae ?_);dsimp only;exact aa (ao fF (λr s2 q=>aa (aQ (CG (ae q)))) λ_ _ z=>z)
end
structure jd (X:Bx) (A:Around) (C:Cx) (hd:Nat):Prop where
 G:bZ X
 hP:C.P=X.P
 hC:C.hd=hd
 hu:A.units+500<cLine
 call:hd=0->∀fe env,o8 X A fe env C.lv.call
 Mj:hd=0->∀fe env f xs vs ρ κ l σ s r st,Cfg X A fe env ρ κ l σ s->jq X A env 0 ρ κ s->bp ρ xs vs->(X.P.fns f).isSome=true->f≠X.P.dN->C.lv.call (.base f) xs ⟨l,σ⟩=some (r,st)->
  codeAny (M X) A (.call (.ref f) ⟨vs,[]⟩) (λq s'=>∃v,q= .ok (.ret v)/\mM X A fe env 0 VR ρ κ s r st v s') s
 O4:hd=0->∀fe env key f x v,aU X A.in1.in1 fe env 0 (λρ=>bC ρ key f/\bC ρ x v) (PySem.call f [v]) (C.lv.call key [x]) VR
 slt:hd=0->∀fe env x y v w,aU X A.in1.in1 fe env 0 (λρ=>bC ρ x v/\bC ρ y w) (keyLt' oneType' v w) (C.lv.lt x y) BR
section
variable {X:Bx} {A:Around} {fe:cn} {env:Env} {hd:Nat} {C:Cx}
theorem sH(K:jd X A C hd) (x:Str) (pos:Pos):aU X A fe env hd bg (eval (.Name x pos) env) (if x="__debug__" then PM.stuck else kF C fe x) VR:=by
 by_cases h:x="__debug__"
 ·rw[aD h];exact aU.stuck
 ·rw[aC h,eval_Name _ _ _ (aP.mpr h)];exact aU.d5 (mj K.G C K.hP x)
theorem wu(K:jd X A C hd) {f k:Str} {np kp:Pos} {a v:PySem.Expr} (hst:cC a=false) (ha:aU X A fe env hd bg (eval a env) (ev C a fe) VR) (hv:aU X A fe env hd bg (eval v env) (ev C v fe) VR):
  aU X A fe env hd bg (eval (.Call (.Name f np) [a] [⟨some k,v,kp⟩] pos) env) (do
   let fv<-(if f="__debug__" then PM.stuck else kF C fe f)
   if fv= .bi "sorted"/\k="key"/\C.hd=0 then do
    let x<-ev C a fe
    let key<-ev C v fe
    let xs<-eA x
    let ys<-PM.sure (fC C.lv key xs)
    let r<-PM.alloc (.list ys)
    PM.pure (.ref r)
   else PM.stuck) VR:=by
 have e1:eval (.Call (.Name f np) [a] [⟨some k,v,kp⟩] pos) env=(eval (.Name f np) env>>=λfv=>callWith pos fv [] (backTo pos (starEach [a] env)) [(some k,do let u<-eval v env;standAt pos;pure u)]):=rfl;have e2:backTo pos (starEach [a] env)=[(false,eval a env)]:=by rw[iJ hst];rfl
 rw[e1,e2];refine aU.fP (sH K f np) λfv fx=> ?_;by_cases hc:fx= .bi "sorted"/\k="key"/\C.hd=0
 case neg=>rw[aC hc];exact aU.stuck
 rw[aD hc];obtain⟨rfl,rfl,h0⟩:=hc;have:hd=0:=K.hC.symm.trans h0;subst this;intro ρ κ l σ s Cf H P r st e;have hf:fv= .builtin "sorted":=P;subst hf;refine xn ?_;rcases aH e with⟨x,s1,e3,e4⟩|⟨k',e3,rfl⟩
 case inr=>
  refine ao (ha ρ κ l σ s Cf H trivial _ _ e3) ?_ λv s' q=>q.cast λk z=>by cases z;rfl
  rintro a uO ⟨EY,iy,iG,h1,_⟩;cases h1
 refine ao (ha ρ κ l σ s Cf H trivial _ _ e3) ?_ (λv s' q=>absurd q fE);rintro va uO ⟨x',iy,iG,hx,Ca,N1⟩;cases hx;rcases aH e4 with⟨y,s2,e5,e6⟩|⟨k',e5,rfl⟩
 case inr=>
  refine aa (ao (hv iy iG s1.loc s1.hp uO N1.cfg N1.hok trivial _ _ e5) ?_ ?_)
  ·rintro a uO ⟨EY,iy,iG,h1,_⟩;cases h1
  ·rintro v s2 ⟨k2,iR,iS,h1,h2,N2⟩;cases h1;exact⟨_,iR,iS,rfl,h2.back N1.ext.alive,N1.trans N2⟩
 refine aa (ao (hv iy iG s1.loc s1.hp uO N1.cfg N1.hok trivial _ _ e5) ?_ (λv s' q=>absurd q fE));rintro vk s3 ⟨y',iR,iS,hy,RQ,N2⟩;cases hy;refine aa (c7 (ae ?_));have Ow:=N1.trans N2;refine ao (xU x y va vk (K.O4 rfl fe env y vk) (K.slt rfl fe env) iR iS s2.loc s2.hp s3 N2.cfg N2.hok ⟨Ca.mono N2.ext.sub,RQ⟩ _ _ e6) ?_ ?_
 ·rintro v s4 ⟨z,pn,qv,q1,q2,N3⟩;exact⟨z,pn,qv,q1,q2,Ow.trans N3⟩
 ·rintro v s4 ⟨z,pn,qv,q1,q2,N3⟩;exact⟨z,pn,qv,q1,q2.back Ow.ext.alive,Ow.trans N3⟩
theorem FA(es:List PySem.Expr) (pos:Pos) (hC:C.hd=hd) (h:∀x∈es,∀y,(y=x\/∃p,x= .Starred y p)->aU X A fe env hd bg (eval y env) (ev C y fe) VR):
  aU X A fe env hd bg (eval (.List es pos) env) (do
   let vs<-qu C es fe
   if vs.length<10000 then do
    let r<-PM.alloc (.list vs)
    PM.pure (.ref r)
   else PM.stuck) VR:=by
 have e1:eval (.List es pos) env=(standAt pos>>=λ_=>spliced (backTo pos (starEach es env))>>=λvs=>newList vs):=rfl;rw[e1];refine aU.d5 (aU.fP (kW hC pos es h) λvs xs=> ?_);by_cases hl:xs.length<10000
 case neg=>rw[aC hl];exact aU.stuck
 rw[aD hl];intro ρ κ l σ s Cf H hv r st e
 replace e:=bY e
 cases e;have hv:bp ρ xs vs:=hv;refine o9 ?_ (by rw[<-hv.length];have:=b9;omega);exact⟨_,_,κ,rfl,⟨_,Cf.newest,rfl⟩,bJ.push (o:= .list xs) Cf H (t:=s.toks) rfl λeo=>⟨vs,0,eo,hv.mono (Sub.append _ _),by omega⟩⟩
theorem C7(es:List PySem.Expr) (k:Nat) (pos:Pos) (hC:C.hd=hd) (h:∀x∈es,∀y,(y=x\/∃p,x= .Starred y p)->aU X A fe env hd bg (eval y env) (ev C y fe) VR):
  aU X A fe env hd bg (eval (.Tuple es k pos) env) (do
   let vs<-qu C es fe
   if vs.length<10000 then do
    let r<-PM.alloc (.tuple vs)
    PM.pure (.ref r)
   else PM.stuck) VR:=by
 have e1:eval (.Tuple es k pos) env=(standAt pos>>=λ_=>spliced (backTo pos (starEach es env))>>=λvs=>newTuple vs):=rfl;rw[e1];refine aU.d5 (aU.fP (kW hC pos es h) λvs xs=> ?_);by_cases hl:xs.length<10000
 case neg=>rw[aC hl];exact aU.stuck
 rw[aD hl];intro ρ κ l σ s Cf H hv r st e
 replace e:=bY e
 cases e;have hv:bp ρ xs vs:=hv;refine nI ?_ (by rw[<-hv.length];have:=b9;omega);exact⟨_,_,κ,rfl,⟨_,Cf.newest,rfl⟩,bJ.push (o:= .tuple xs) Cf H (t:=s.toks) rfl λeo=>⟨vs,0,eo,hv.mono (Sub.append _ _),by omega⟩⟩
theorem uN(pos:Pos):aU X A fe env hd bg (eval (.Dict [] [] pos) env) (do
  let r<-PM.alloc (.dict [] 0)
  PM.pure (.ref r)) VR:=by
 rw[eval_Dict_empty];refine aU.d5 ?_;intro ρ κ l σ s Cf H _ r st e
 replace e:=bY e
 cases e;show wpAny (M X) A newDict _ _ s;simp only [newDict,newObj];refine aa (uz (ae ?_));refine⟨_,_,κ,rfl,⟨_,Cf.newest,rfl⟩,bJ.push (o:= .dict [] 0) Cf H (t:=s.toks) rfl λeo=>⟨[], ?_,trivial,by simp⟩⟩;exact⟨_,#[],eo,⟨rfl,rfl,rfl⟩,rfl,(by intro e he;simp at he),.nil,by simp⟩
theorem wx(hd:Nat) (o:Option PySem.Expr) (h:∀x,o=some x->aU X A fe env hd bg (eval x env) (ev C x fe) VR):aU X A fe env hd bg (valueOrNone (evalOpt o env)) (lQ C o fe) VR:=by
 cases o with
 |none=>unfold lQ;exact aU.pure λ_ _=>rfl
 |some x=>unfold lQ;exact h x rfl
end
end
section
open PySem.W.X
section
variable {X:Bx} {A:Around} {fe:cn} {env:Env} {hd:Nat} {α β γ:Type}
theorem aU.post {R:List Addr->α->β->Prop} {R':List Addr->α->γ->Prop} {t:Sem α} {c:PM β} (h:aU X A fe env hd Pre t c R) (f:β->γ) (hr:∀ρ a b,R ρ a b->R' ρ a (f b)):aU X A fe env hd Pre t (c>>=λb=>PM.pure (f b)) R':=by
 intro ρ κ l σ s C H P r st e;rcases aH e with⟨b,s1,e1,e2⟩|⟨k,e1,rfl⟩
 ·cases e2;refine ao (h ρ κ l σ s C H P _ _ e1) ?_ ?_
  ·rintro a s' ⟨b',bX,κ',q1,q2,N⟩;cases q1;exact⟨_,bX,κ',rfl,hr _ _ _ q2,N⟩
  ·rintro a s' ⟨_,_,_,q,_⟩;cases q
 ·refine ao (h ρ κ l σ s C H P _ _ e1) ?_ ?_
  ·rintro a s' ⟨_,_,_,q,_⟩;cases q
  ·rintro a s' ⟨k',bX,κ',q1,q2,N⟩;cases q1;exact⟨k,bX,κ',rfl,q2,N⟩
theorem aU.map {R:List Addr->α->β->Prop} {R':List Addr->γ->β->Prop} {t:Sem α} {c:PM β} (h:aU X A fe env hd Pre t c R) (f:α->Sem γ) (hr:∀ρ a b,R ρ a b->∃c,f a=Pure.pure c/\R' ρ c b):aU X A fe env hd Pre (t>>=f) c R':=by
 intro ρ κ l σ s C H P r st e;refine aa (ao (h ρ κ l σ s C H P _ _ e) ?_ λ_ _ z=>z);rintro a s' ⟨b',bX,κ',q1,q2,N⟩;obtain⟨c',e1,e2⟩:=hr _ _ _ q2;rw[e1];exact ae ⟨b',bX,κ',q1,e2,N⟩
theorem aU.kR {R:List Addr->Unit->β->Prop} {t:Sem Unit} {c:PM β} {keep:List Value} (h:aU X A fe env hd Pre t c R):aU X A fe env hd Pre (t>>=λ_=>PySem.release vs keep) c R:=by
 intro ρ κ l σ s C H P r st e;exact aa (ao (h ρ κ l σ s C H P r st e) (λ_ _ q=>wa q) λ_ _ z=>z)
theorem aU.fY {R:List Addr->α->β->Prop} {t:Sem α} {c c':PM β} (e:c=c') (h:aU X A fe env hd Pre t c' R):aU X A fe env hd Pre t c R:=by rw[e];exact h
theorem jm(m:PM α) (f:α->PM β) (g:β->PM γ):((m>>=f)>>=g)=(m>>=λa=>f a>>=g):=by
 funext st
 show PM.bind (PM.bind m f) g st=PM.bind m (λa=>PM.bind (f a) g) st;unfold PM.bind;cases m st with
 |none=>rfl
 |some p=>obtain⟨r,s⟩:=p;cases r<;>rfl
theorem aU.LI {R:List Addr->α->β->Prop} {t:Sem α} {f:α->Sem α} {c:PM β} (h:aU X A fe env hd Pre t c R) (hf:∀a (s:Shared) (Q:α->Shared->Prop) E,Q a s->wpAny (M X) A (f a) Q E s):aU X A fe env hd Pre (t>>=f) c R:=by
 intro ρ κ l σ s C H P r st e;exact aa (ao (h ρ κ l σ s C H P r st e) (λa s' q=>hf a s' _ _ q) λ_ _ z=>z)
theorem aU.CQ {t:Sem Value} {c:PM Bool} (h:aU X A fe env hd Pre t c Ib):aU X A fe env hd Pre (t>>=λv=>PySem.holding [v] (truthy v)) c BR:=by
 intro ρ κ l σ s C H P r st e;refine aa (ao (h ρ κ l σ s C H P r st e) ?_ λ_ _ z=>z);rintro a s' ⟨b,bX,κ',q1,q2,N⟩;have q2:a= .bool b:=q2;subst q2;exact aQ (kL ⟨b,bX,κ',q1,rfl,N⟩)
theorem aU.guard {R:List Addr->α->β->Prop} {t:Sem α} {c:PM β} {p:Prop} [Decidable p] (h:¬p->aU X A fe env hd Pre t c R):aU X A fe env hd Pre t (if p then PM.stuck else c) R:=by
 by_cases hp:p
 ·rw[aD hp];exact aU.stuck
 ·rw[aC hp];exact h hp
end
structure jU (X:Bx) (A:Around) (C:Cx) (hd:Nat) (x:PySem.Expr):Prop where
 e:∀fe env,aU X A fe env hd bg (eval x env) (ev C x fe) VR
 t:∀fe env,aU X A fe env hd bg (isTrue x env (eval x env)) (cV C x fe (ev C x fe)) BR
 a:∀fe env y v,aU X A fe env hd (λρ=>bC ρ y v) (assign x env v) (cq C x fe y) UR
section
variable {X:Bx} {A:Around} {hd:Nat} {C:Cx}
theorem pG(K:jd X A C hd) (fe:cn) (env:Env) {l r:PySem.Expr} (op:CmpOp) (pos:Pos) (hs:cM r=false) (hl:aU X A fe env hd bg (eval l env) (ev C l fe) VR) (hr:aU X A fe env hd bg (eval r env) (ev C r fe) VR):
  aU X A fe env hd bg (do let a<-eval l env;let b<-holding [a] (markedBehindIn op r (eval r env));standAt pos;operate [a,b] (compareOp op a b)) (do
   let a<-ev C l fe
   let b<-ev C r fe
   lS C.P op a b) Ib:=by
 have hm:∀t,markedBehindIn op r t=t:=λt=>markedBehindIn_of_false (by cases r<;>first|rfl|cases hs)
 simp only [hm];refine aU.fP hl λa x=> ?_;refine aU.bind1 (aU.holding (hr.pre λ_ _=>trivial)) λb y=> ?_;refine aU.d5 (aU.operate ?_);rw[K.hP];exact x8 K.G K.hu op x y a b
theorem pE{x:PySem.Expr} {xs:List PySem.Expr} (h:x∈xs):sizeOf x<sizeOf xs:=OB h
theorem wm{P:PySem.Expr->Prop} (hn:sizeOf args<n) (h:∀y:PySem.Expr,sizeOf y<n->P y):∀x∈args,∀y,(y=x\/∃p,x= .Starred y p)->P y:=by
 intro x hx y hy;have:=pE hx;rcases hy with rfl|⟨p,rfl⟩
 ·exact h _ (by omega)
 ·rw[Expr.Starred.sizeOf_spec]at this;exact h _ (by omega)
theorem GY(ih:∀y:PySem.Expr,sizeOf y<n->jU X A C 0 y) (fe:cn) (env:Env) (g:Comprehension) (hg:sizeOf g<n):uw X A fe env C g:=by
 obtain⟨t,iter,ifs,as⟩:=g;rw[Ex]at hg;refine⟨λx v=>(ih t (by omega)).a fe env x v,vv ifs λx hx=>(ih x (by have:=pE hx;omega)).t fe env,(ih iter (by omega)).e fe env⟩
theorem ya(K:jd X A C hd) (ih:∀y:PySem.Expr,sizeOf y<sizeOf (PySem.Expr.ListComp elt gens scope pos)->jU X A C hd y) (fe:cn) (env:Env):
  aU X A fe env hd bg (eval (.ListComp elt gens scope pos) env) (ev C (.ListComp elt gens scope pos) fe) VR/\
  ∀(u:Value->Sem Unit) (uF:AV->PM Unit),(∀x v,aU X A fe env hd (λρ=>bC ρ x v) (u v) (uF x) UR)->
   aU X A fe env hd bg (evalThenUse (.ListComp elt gens scope pos) env u) (ev C (.ListComp elt gens scope pos) fe>>=uF) (λ_ _ _=>True):=by
 cases gens with
 |nil=>
  have e0:ev C (.ListComp elt [] scope pos) fe=PM.stuck:=by simp only [ev]
  rw[e0];exact⟨aU.stuck,λu uF _=>λ_ _ _ _ _ _ _ _ _ _ e=>by cases e⟩
 |cons g gs=>
  obtain⟨t,iter,ifs,as⟩:=g;by_cases hg:(cM iter||as !=0||C.hd !=0||scope.kind != .function|| !iT scope)=true
  ·have e0:ev C (.ListComp elt (⟨t,iter,ifs,as⟩::gs) scope pos) fe=PM.stuck:=by
    simp only [ev];rw[aD hg]
   rw[e0];exact⟨aU.stuck,λu uF _=>λ_ _ _ _ _ _ _ _ _ _ e=>by cases e⟩
  ·have e0:ev C (.ListComp elt (⟨t,iter,ifs,as⟩::gs) scope pos) fe=(do
     let x<-ev C iter fe
     let it<-rD x
     let acc<-PM.alloc (.list [])
     let cl<-PM.b8 (qh scope.names fe)
     let cells<-dJ scope.names cl
     PM.within [] (compLoop C.fuel (λv=>cq C t ⟨scope,cells,.none⟩ v) (jK C ifs ⟨scope,cells,.none⟩)
      (mw C gs ⟨scope,cells,.none⟩ (do
       let v<-ev C elt ⟨scope,cells,.none⟩
       sP acc v)) it)
     PM.pure (.ref acc)):=by
    simp only [ev];rw[aC hg]
   rw[e0];simp only [iQ,W7,qp,u6]at hg;obtain⟨⟨⟨⟨h1,rfl⟩,h3⟩,h4⟩,h5⟩:=hg;have h5:iT scope=true:=by simpa using h5
   have h0:hd=0:=K.hC.symm.trans h3;subst h0;have hsz:∀g∈(⟨t,iter,ifs,0⟩:Comprehension)::gs,sizeOf g<sizeOf (PySem.Expr.ListComp elt (⟨t,iter,ifs,0⟩::gs) scope pos):=λg hg=>by
    have:sizeOf g<sizeOf ((⟨t,iter,ifs,0⟩:Comprehension)::gs):=OB hg;rw[Ie];omega
   have hit:sizeOf iter<sizeOf (PySem.Expr.ListComp elt (⟨t,iter,ifs,0⟩::gs) scope pos):=by
    have:=hsz _ (aj ..);rw[Ex]at this;omega
   have KC:sizeOf elt<sizeOf (PySem.Expr.ListComp elt (⟨t,iter,ifs,0⟩::gs) scope pos):=by
    rw[Ie];omega
   refine⟨wz K.G h1 rfl h4 h5 ((ih _ hit).e fe env) (λir bE g hg=>GY ih ir bE g (hsz g hg)) λir bE=>(ih _ KC).e ir bE,λu uF hu=> ?_⟩;have e1:evalThenUse (.ListComp elt (⟨t,iter,ifs,0⟩::gs) scope pos) env u=(comprehension (.ListComp elt (⟨t,iter,ifs,0⟩::gs) scope pos) scope env (firstIterPos (⟨t,iter,ifs,0⟩::gs) pos) (newList []) false (eval iter env) (some u)>>=λ_=>pure ()):=rfl
   rw[e1];exact aU.map (qE K.G h1 rfl h4 h5 ((ih _ hit).e fe env) (λir bE g hg=>GY ih ir bE g (hsz g hg)) (λir bE=>(ih _ KC).e ir bE) hu) _ λ_ _ _ _=>⟨(),rfl,trivial⟩
end
end
section
open PySem.W.X
section
variable {X:Bx} {A:Around} {hd:Nat} {C:Cx}
theorem yw{fe:cn} {x:Str} {r:Res AV} (e:kF C fe x st=some (r,st')):∃v,r= .ok v:=by
 unfold kF at e;have cell:(if x="__classdict__" then PM.stuck else do
   let i<-PM.b8 (fe.cells.lookup x)
   match<-PM.obj i with
   | .cell (some v)=>PM.pure v
   |_=>PM.stuck:PM AV) st=some (r,st')->∃v,r= .ok v:=by
  intro e;split at e
  ·cases e
  ·obtain⟨i,_,e4⟩:=jF e;obtain⟨o,_,e5⟩:=bI e4;cases o with
   |cell v=>
    cases v with
    |none=>cases e5
    |some v=>cases e5;exact⟨_,rfl⟩
   |_=>cases e5
 cases hx:fe.scope.names.lookup x with
 |none=>rw[hx]at e;cases e
 |some k=>
  rw[hx]at e;cases k with
  |«local»=>
   change PM.ey x st=_ at e
   unfold PM.ey at e;split at e
   ·cases e;exact⟨_,rfl⟩
   ·cases e
  |cell=>exact cell e
  |free=>exact cell e
  |globalImplicit=>obtain⟨v,_,q,_⟩:=cY e;exact⟨v,q⟩
  |globalExplicit=>cases e
theorem De(K:jd X A C hd) {f:PySem.Expr} {Ga:List Keyword} (ih:∀y:PySem.Expr,sizeOf y<sizeOf (PySem.Expr.Call f args Ga pos)->jU X A C hd y) (fe:cn) (env:Env):
  aU X A fe env hd bg (eval (.Call f args Ga pos) env) (ev C (.Call f args Ga pos) fe) VR:=by
 have GU:∀x∈args,∀y,(y=x\/∃p,x= .Starred y p)->aU X A fe env hd bg (eval y env) (ev C y fe) VR:=
  wm (n:=sizeOf (PySem.Expr.Call f args Ga pos)) (P:=λy=>aU X A fe env hd bg (eval y env) (ev C y fe) VR) (by rw[lh];omega) λy hy=>(ih y hy).e fe env
 have hf:aU X A fe env hd bg (eval f env) (ev C f fe) VR:=(ih f (by rw[lh];omega)).e fe env;cases Ga with
 |nil=>
  by_cases Yn:∃o nm apos,f= .Attribute o nm apos
  ·obtain⟨o,nm,apos,rfl⟩:=Yn;have e0:ev C (.Call (.Attribute o nm apos) args [] pos) fe=(if apos.endLine≠pos.line\/29<=args.length\/j6 o=true then PM.stuck else do
     let ov<-ev C o fe
     let m<-ly C.P ov nm
     if args.any cC&&(C.hd !=0|| !qz C.P nm m)then PM.stuck else do
     let vs<-qu C args fe
     if C.hd=0 then PM.sure (gh C.lv.call m ov vs)else PM.sure (gh (λ_ _=>PM.stuck) m ov vs)):=by rw[ev]
   rw[e0];exact C9 K.G K.hP K.hC (λh=>K.call h fe env) (λh=>K.Mj h fe env) ((ih o (by rw[lh,nK];omega)).e fe env) GU
  ·have Og:∀o n p,f≠ .Attribute o n p:=λo n p q=>Yn ⟨o,n,p,q⟩;have e0:ev C (.Call f args [] pos) fe=(if C.hd=0 then do
     let fv<-ev C f fe
     let vs<-qu C args fe
     C.lv.call fv vs
    else PM.stuck):=by
    rw[ev];intro o n p q;exact absurd q (Og o n p)
   rw[e0];by_cases h0:C.hd=0
   ·rw[aD h0];have:hd=0:=K.hC.symm.trans h0;subst this;exact FK (K.call rfl fe env) h0 Og hf GU
   ·rw[aC h0];exact aU.stuck
 |cons kw Ga=>
  have st:(ev C (.Call f args (kw::Ga) pos) fe=PM.stuck)\/∃x np a k v kp,f= .Name x np/\args=[a]/\kw=⟨some k,v,kp⟩/\Ga=[]:=by
   by_cases h:∃x np a k v kp,f= .Name x np/\args=[a]/\kw=⟨some k,v,kp⟩/\Ga=[]
   ·exact .inr h
   ·refine .inl ?_;obtain⟨ko,v,kp⟩:=kw;cases f<;>first| (simp only [ev];done)|skip
    rename_i x np
    match args,ko,Ga,h with
    |[],_,_,_=>simp only [ev]
    |[a],some k,[],h=>exact absurd ⟨x,np,a,k,v,kp,rfl,rfl,rfl,rfl⟩ h
    |[a],none,[],_=>simp only [ev]
    |[a],none,_::_,_=>simp only [ev]
    |[a],some k,_::_,_=>simp only [ev]
    |a::b::r,_,_,_=>simp only [ev]
  rcases st with st|⟨x,np,a,k,v,kp,rfl,rfl,rfl,rfl⟩
  ·rw[st];exact aU.stuck
  ·have e0:ev C (.Call (.Name x np) [a] [⟨some k,v,kp⟩] pos) fe=(do
     let fv<-(if x="__debug__" then PM.stuck else kF C fe x)
     if fv= .bi "sorted"/\k="key"/\C.hd=0 then do
      let x<-ev C a fe
      let key<-ev C v fe
      let xs<-eA x
      let ys<-PM.sure (fC C.lv key xs)
      let r<-PM.alloc (.list ys)
      PM.pure (.ref r)
     else PM.stuck):=by rw[ev]
   rw[e0];have hv:sizeOf v<sizeOf (PySem.Expr.Call (.Name x np) [a] [⟨some k,v,kp⟩] pos):=by
    simp only [lh,iX,Keyword.mk.sizeOf_spec];omega
   by_cases hst:cC a=true
   ·obtain⟨y,p,rfl⟩:=ky hst;have e1:ev C (.Starred y p) fe=PM.stuck:=by simp only [ev]
    rw[e1];intro ρ κ l σ s Cf H _ r st e
    exfalso
    rcases aH e with⟨q,s1,e2,e3⟩|⟨k2,e2,_⟩
    ·split at e3
     ·cases e3
     ·cases e3
    ·split at e2
     ·cases e2
     ·obtain⟨_,q⟩:=yw e2;cases q
   ·exact wu K (by simpa using hst) (GU a (aj ..) a (.inl rfl)) ((ih v hv).e fe env)
theorem vA(K:jd X A C hd) (x:PySem.Expr) (ih:∀y:PySem.Expr,sizeOf y<sizeOf x->jU X A C hd y) (fe:cn) (env:Env):aU X A fe env hd bg (eval x env) (ev C x fe) VR:=by
 cases x with
 |BoolOp op vs pos=>
  have e0:ev C (.BoolOp op vs pos) fe=rK op (jQ C vs fe):=by simp only [ev]
  rw[e0];exact sI pos op vs λx hx=>(ih x (by have:=pE hx;rw[Li];omega)).e fe env
 |NamedExpr t value pos=>
  cases t with
  |Name nm np=>
   have e0:ev C (.NamedExpr (.Name nm np) value pos) fe=(do
    let v<-ev C value fe
    gO fe nm v
    PM.pure v):=by simp only [ev]
   rw[e0];have e1:eval (.NamedExpr (.Name nm np) value pos) env=(eval value env>>=λv=>holding [v] (standAt np>>=λ_=>bindName env nm v)>>=λ_=>pure v):=rfl;rw[e1];refine aU.fP ((ih value (by rw[Expr.NamedExpr.sizeOf_spec];omega)).e fe env) λv x=> ?_;refine aU.bind1 (R:=UR) (aU.holding (aU.d5 (ji nm x v))) λ_ _=> ?_;exact aU.pure λρ h=>h.1
  |_=>simp only [ev];exact aU.stuck
 |BinOp l op r pos=>
  have e0:ev C (.BinOp l op r pos) fe=(do
   let a<-ev C l fe
   let b<-ev C r fe
   JR op a b):=by simp only [ev]
  rw[e0,eval_BinOp];refine aU.fP ((ih l (by rw[NK];omega)).e fe env) λa x=> ?_;refine aU.bind1 (aU.holding (((ih r (by rw[NK];omega)).e fe env).pre λ_ _=>trivial)) λb y=> ?_;exact aU.d5 (aU.operate (z7 op x y a b))
 |UnaryOp op o pos=>
  have e1:eval (.UnaryOp op o pos) env=(eval o env>>=λv=>standAt pos>>=λ_=>holding [v] (unaryOp op v)):=rfl;have io:=(ih o (by rw[JZ];omega)).e fe env;cases op with
  |Not=>
   have e0:ev C (.UnaryOp .Not o pos) fe=(do
    let v<-ev C o fe
    let b<-ig v
    PM.pure (.bool !b)):=by simp only [ev]
   rw[e0,e1];refine aU.fP io λv x=>aU.d5 (aU.holding ?_);have:=aU.post (R':=VR) (IB (X:=X) (A:=A) (fe:=fe) (env:=env) (hd:=hd) x v) (λb=>AV.bool b) λρ a b h=>h;refine aU.fY ?_ this;simp only [jm];rfl
  |USub=>
   have e0:ev C (.UnaryOp .USub o pos) fe=(do
    match<-ev C o fe with
    | .int i=>PM.pure (.int (-i))
    |_=>PM.stuck):=by simp only [ev]<;>rfl
   rw[e0,e1];exact aU.fP io λv x=>aU.d5 (aU.holding (IC x v))
  |_=>simp only [ev];exact aU.stuck
 |Lambda params body scope pos=>
  by_cases hp:∃as d,params=⟨[],as,.none,[],[],.none,d⟩/\d=[]
  ·obtain⟨as,d,rfl,rfl⟩:=hp;have e0:ev C (.Lambda ⟨[],as,.none,[],[],.none,[]⟩ body scope pos) fe=(if fe.code.isNone then PM.stuck else do
     let cs<-PM.b8 (qh scope.names fe)
     let r<-PM.alloc (.lam ⟨[],as,.none,[],[],.none,[]⟩ body scope cs)
     PM.pure (.ref r)):=by simp only [ev]
   rw[e0];refine aU.guard λhc=> ?_;obtain⟨c,hc⟩:∃c,fe.code=some c:=by
    cases q:fe.code with
    |none=>rw[q]at hc;exact absurd rfl hc
    |some c=>exact⟨c,rfl⟩
   exact z5 K.G _ body scope pos rfl hc
  ·have e0:ev C (.Lambda params body scope pos) fe=PM.stuck:=by
    obtain⟨po,as,va,ko,kd,kw,d⟩:=params;cases po<;>cases va<;>cases ko<;>cases kd<;>cases kw<;>cases d<;>first| (simp only [ev];done)|exact absurd ⟨_,_,rfl,rfl⟩ hp
   rw[e0];exact aU.stuck
 |IfExp t b o pos=>
  have e0:ev C (.IfExp t b o pos) fe=(do
   let c<-cV C t fe (ev C t fe)
   if c then ev C b fe else ev C o fe):=by simp only [ev]
  have e1:eval (.IfExp t b o pos) env=(isTrue t env (eval t env)>>=λc=>if c=true then eval b env else eval o env):=rfl;rw[e0,e1];refine aU.fP ((ih t (by rw[fO];omega)).t fe env) λc c'=> ?_;intro ρ κ l σ s Cf H P r st e;have hb:c=c':=P;subst hb;cases c
  ·exact(ih o (by rw[fO];omega)).e fe env ρ κ l σ s Cf H trivial r st e
  ·exact(ih b (by rw[fO];omega)).e fe env ρ κ l σ s Cf H trivial r st e
 |Dict ks vs pos=>
  by_cases h:ks=[]/\vs=[]
  ·obtain⟨rfl,rfl⟩:=h;have e0:ev C (.Dict [] [] pos) fe=(do
    let r<-PM.alloc (.dict [] 0)
    PM.pure (.ref r)):=by simp only [ev]
   rw[e0];exact uN pos
  ·have e0:ev C (.Dict ks vs pos) fe=PM.stuck:=by
    cases ks<;>cases vs<;>first| (simp only [ev];done)|exact absurd ⟨rfl,rfl⟩ h
   rw[e0];exact aU.stuck
 |Compare l ops rs pos=>
  by_cases h:∃op r,ops=[op]/\rs=[r]
  ·obtain⟨op,r,rfl,rfl⟩:=h;have e0:ev C (.Compare l [op] [r] pos) fe=(if cM r then PM.stuck else do
    let a<-ev C l fe
    let b<-ev C r fe
    let c<-lS C.P op a b
    PM.pure (.bool c)):=by simp only [ev]
   rw[e0,eval_Compare1];refine aU.guard λhs=> ?_;have hl:=(ih l (by rw[jL];omega)).e fe env;have hr:=(ih r (by simp only [jL,iX];omega)).e fe env;have:=aU.post (R':=VR) (pG K fe env op pos (by simpa using hs) hl hr) (λb=>AV.bool b) λρ a b h=>h;refine aU.fY ?_ this;simp only [jm]
  ·have e0:ev C (.Compare l ops rs pos) fe=PM.stuck:=by
    match ops,rs,h with
    |[op],[r],h=>exact absurd ⟨op,r,rfl,rfl⟩ h
    |[],_,_=>simp only [ev]
    |_::_::_,_,_=>simp only [ev]
    |[_],[],_=>simp only [ev]
    |[_],_::_::_,_=>simp only [ev]
   rw[e0];exact aU.stuck
 |Call f args Ga pos=>exact De K ih fe env
 |Constant c k pos=>
  simp only [ev];exact Dd c
 |Attribute o nm pos=>
  have e0:ev C (.Attribute o nm pos) fe=(if j6 o then PM.stuck else do
   let ov<-ev C o fe
   jj C.P ov nm):=by simp only [ev]
  rw[e0];refine aU.guard λhs=> ?_;have e1:eval (.Attribute o nm pos) env=(attributeBase o nm env (eval o env)>>=λov=>standAt pos.atName>>=λ_=>holding [ov] (getAttr ov nm true)>>=λr=>letTemporaryGo o ov r>>=λ_=>pure r):=rfl;rw[e1,zf (by simpa using hs)];refine aU.fP ((ih o (by rw[nK];omega)).e fe env) λv x=>aU.d5 ?_;rw[K.hP];refine aU.LI (aU.holding (ro K.G x v nm true)) λr s Q E hq=>aa (wpAny_letTemporaryGo (ae hq))
 |Subscript o i pos=>
  have e0:ev C (.Subscript o i pos) fe=(do
   let ov<-ev C o fe
   let iv<-ev C i fe
   p6 C.P C.hd ov iv):=by simp only [ev]
  have e1:eval (.Subscript o i pos) env=(eval o env>>=λov=>holding [ov] (eval i env)>>=λiv=>standAt pos>>=λ_=>subscriptTail o i ov iv):=rfl;rw[e0,e1];refine aU.fP ((ih o (by rw[ju];omega)).e fe env) λa x=> ?_;refine aU.bind1 (aU.holding (((ih i (by rw[ju];omega)).e fe env).pre λ_ _=>trivial)) λb y=> ?_;rw[K.hP,K.hC];exact aU.d5 (FC K.G o i x y a b)
 |Name nm pos=>
  have e0:ev C (.Name nm pos) fe=(if nm="__debug__" then PM.stuck else kF C fe nm):=by simp only [ev]
  rw[e0];exact sH K nm pos
 |List es pos=>
  have e0:ev C (.List es pos) fe=(do
   let vs<-qu C es fe
   if vs.length<10000 then do
    let r<-PM.alloc (.list vs)
    PM.pure (.ref r)
   else PM.stuck):=by simp only [ev]
  rw[e0];exact FA es pos K.hC (wm (n:=sizeOf (PySem.Expr.List es pos)) (P:=λy=>aU X A fe env hd bg (eval y env) (ev C y fe) VR) (by rw[Expr.List.sizeOf_spec];omega) λy hy=>(ih y hy).e fe env)
 |Tuple es k pos=>
  have e0:ev C (.Tuple es k pos) fe=(do
   let vs<-qu C es fe
   if vs.length<10000 then do
    let r<-PM.alloc (.tuple vs)
    PM.pure (.ref r)
   else PM.stuck):=by simp only [ev]
  rw[e0];exact C7 es k pos K.hC (wm (n:=sizeOf (PySem.Expr.Tuple es k pos)) (P:=λy=>aU X A fe env hd bg (eval y env) (ev C y fe) VR) (by rw[Expr.Tuple.sizeOf_spec];omega) λy hy=>(ih y hy).e fe env)
 |Slice lo up st pos=>
  have e0:ev C (.Slice lo up st pos) fe=(do
   let l<-lQ C lo fe
   let u<-lQ C up fe
   let s<-lQ C st fe
   let r<-PM.alloc (.slice l u s)
   PM.pure (.ref r)):=by simp only [ev]
  have e1:eval (.Slice lo up st pos) env=(valueOrNone (evalOpt lo env)>>=λl=>holding [l] (valueOrNone (evalOpt up env))>>=λu=>holding [l,u] (valueOrNone (evalOpt st env))>>=λs=>newFields "slice" [l,u,s]):=rfl;rw[e0,e1];refine aU.fP (wx hd lo λx hx=>(ih x (by subst hx;simp only [qZ,qn];omega)).e fe env) λa x=> ?_;refine aU.bind1 (aU.holding ((wx hd up λx hx=>(ih x (by subst hx;simp only [qZ,qn];omega)).e fe env).pre λ_ _=>trivial)) λb y=> ?_;refine aU.Cy (R:=VR) (aU.holding ((wx hd st λx hx=>(ih x (by subst hx;simp only [qZ,qn];omega)).e fe env).pre λ_ _=>trivial)) λc z=> ?_;exact(wy x y z a b c).pre λρ h=>⟨h.1.1,h.1.2,h.2⟩
 |ListComp elt gens scope pos=>exact(ya K ih fe env).1
 |_=>simp only [ev];exact aU.stuck
end
end
section
open PySem.W.X
section
variable {X:Bx} {A:Around} {hd:Nat} {C:Cx}
theorem C8(K:jd X A C hd) (x:PySem.Expr) (ih:∀y:PySem.Expr,sizeOf y<sizeOf x->jU X A C hd y) (fe:cn) (env:Env):aU X A fe env hd bg (isTrue x env (eval x env)) (cV C x fe (ev C x fe)) BR:=by
 have whole:=vA K x ih fe env;have dflt:isTrue x env (eval x env)=(eval x env>>=λv=>standAt x.pos>>=λ_=>holding [v] (truthy v))->cV C x fe (ev C x fe)=(do
   let v<-ev C x fe
   ig v)->aU X A fe env hd bg (isTrue x env (eval x env)) (cV C x fe (ev C x fe)) BR:=λe1 e2=>by
  rw[e1,e2];exact aU.fP whole λv y=>aU.d5 (vw y v _)
 cases x with
 |UnaryOp op o pos=>
  cases op with
  |Not=>
   have e1:isTrue (.UnaryOp .Not o pos) env (eval (.UnaryOp .Not o pos) env)=(isTrue o env (eval o env)>>=λb=>pure !b):=rfl;have e2:cV C (.UnaryOp .Not o pos) fe (ev C (.UnaryOp .Not o pos) fe)=(do
    let b<-cV C o fe (ev C o fe)
    PM.pure (!b)):=by rw[cV]
   rw[e1,e2];refine aU.fP ((ih o (by rw[JZ];omega)).t fe env) λb c=> ?_;exact aU.pure λρ h=>dg (!·) h
  |_=>exact dflt rfl (by rw[cV]<;>(intros;rename_i q;cases q))
 |BoolOp op vs pos=>
  have e1:isTrue (.BoolOp op vs pos) env (eval (.BoolOp op vs pos) env)=allTrue op vs env:=rfl;have e2:cV C (.BoolOp op vs pos) fe (ev C (.BoolOp op vs pos) fe)=vU C op vs fe:=by rw[cV]
  rw[e1,e2];exact rp op vs λx hx=>(ih x (by have:=pE hx;rw[Li];omega)).t fe env
 |IfExp t b o pos=>
  have e1:isTrue (.IfExp t b o pos) env (eval (.IfExp t b o pos) env)=(isTrue t env (eval t env)>>=λc=>if c=true then isTrue b env (eval b env)else isTrue o env (eval o env)):=rfl;have e2:cV C (.IfExp t b o pos) fe (ev C (.IfExp t b o pos) fe)=(do
   let c<-cV C t fe (ev C t fe)
   if c then cV C b fe (ev C b fe)else cV C o fe (ev C o fe)):=by rw[cV]
  rw[e1,e2];refine aU.fP ((ih t (by rw[fO];omega)).t fe env) λc c'=> ?_;intro ρ κ l σ s Cf H P r st e;have hb:c=c':=P;subst hb;cases c
  ·exact(ih o (by rw[fO];omega)).t fe env ρ κ l σ s Cf H trivial r st e
  ·exact(ih b (by rw[fO];omega)).t fe env ρ κ l σ s Cf H trivial r st e
 |Compare l ops rs pos=>
  by_cases h:∃op r,ops=[op]/\rs=[r]
  ·obtain⟨op,r,rfl,rfl⟩:=h;have e2:cV C (.Compare l [op] [r] pos) fe (ev C (.Compare l [op] [r] pos) fe)=(if cM r then PM.stuck else do
    let a<-ev C l fe
    let b<-ev C r fe
    lS C.P op a b):=by rw[cV]
   rw[isTrue_Compare1,e2];refine aU.guard λhs=> ?_;have hl:=(ih l (by rw[jL];omega)).e fe env;have hr:=(ih r (by simp only [jL,iX];omega)).e fe env;have e3:(do let a<-eval l env;let b<-holding [a] (markedBehindIn op r (eval r env));standAt pos;let c<-operate [a,b] (compareOp op a b);holding [c] (truthy c):Sem Bool)=((do let a<-eval l env;let b<-holding [a] (markedBehindIn op r (eval r env));standAt pos;operate [a,b] (compareOp op a b))>>=λc=>holding [c] (truthy c)):=by
    simp only [bind_assoc]
   rw[e3];refine aU.CQ (pG K fe env op pos (by simpa using hs) hl hr)
  ·have e0:cV C (.Compare l ops rs pos) fe (ev C (.Compare l ops rs pos) fe)=PM.stuck:=by
    match ops,rs,h with
    |[op],[r],h=>exact absurd ⟨op,r,rfl,rfl⟩ h
    |[],_,_=>simp only [cV]
    |_::_::_,_,_=>simp only [cV]
    |[_],[],_=>simp only [cV]
    |[_],_::_::_,_=>simp only [cV]
   rw[e0];exact aU.stuck
 |_=>exact dflt rfl (by rw[cV]<;>(intros;rename_i q;cases q))
theorem Bf(o i:PySem.Expr) (pos:Pos) (env:Env) (v:Value):∃rs:Value->Value->List Value,assign (.Subscript o i pos) env v=(holding [v] (eval o env)>>=λov=>holding [v,ov] (eval i env)>>=λiv=>standAt pos>>=λ_=>holding [v,ov,iv] (setItem ov iv v)>>=λ_=>PySem.release (rs ov iv) []):=
 ⟨λov iv=>match i with| .Slice _ _ none _=>[iv,v,ov]|_=>[v,ov,iv],rfl⟩
theorem yg(K:jd X A C hd) (x:PySem.Expr) (ih:∀y:PySem.Expr,sizeOf y<sizeOf x->jU X A C hd y) (fe:cn) (env:Env) (y:AV) (v:Value):aU X A fe env hd (λρ=>bC ρ y v) (assign x env v) (cq C x fe y) UR:=by
 cases x with
 |Name nm pos=>
  have e0:cq C (.Name nm pos) fe y=gO fe nm y:=by simp only [cq]
  rw[e0];show aU X A fe env hd _ (standAt pos>>=λ_=>bindName env nm v) _ _;exact aU.d5 (ji nm y v)
 |Attribute o nm pos=>
  have e0:cq C (.Attribute o nm pos) fe y=(do
   let ov<-ev C o fe
   gf C.P ov nm y):=by simp only [cq]
  have e1:assign (.Attribute o nm pos) env v=(holding [v] (eval o env)>>=λov=>standAt pos.atName>>=λ_=>holding [v,ov] (setAttr ov nm v)>>=λ_=>PySem.release [v,ov] []):=rfl;rw[e0,e1];refine aU.bind1 (R:=VR) (aU.holding (((ih o (by rw[nK];omega)).e fe env).pre λ_ _=>trivial)) λov x=>aU.d5 ?_;rw[K.hP];exact aU.kR (aU.holding ((rm K.G x y ov v nm).pre λρ h=>⟨h.2,h.1⟩))
 |Subscript o i pos=>
  have e0:cq C (.Subscript o i pos) fe y=(do
   let ov<-ev C o fe
   let iv<-ev C i fe
   pH ov iv y):=by simp only [cq]
  obtain⟨rs,e1⟩:=Bf o i pos env v;rw[e0,e1];refine aU.bind1 (R:=VR) (aU.holding (((ih o (by rw[ju];omega)).e fe env).pre λ_ _=>trivial)) λov x=> ?_;refine aU.Cy (R:=VR) (aU.holding (((ih i (by rw[ju];omega)).e fe env).pre λ_ _=>trivial)) λiv z=>aU.d5 ?_;exact aU.kR (aU.holding ((xV K.G x z y ov iv v).pre λρ h=>⟨h.1.2,h.2,h.1.1⟩))
 |Tuple es k pos=>exact rP K.G K.hC es k pos y v
 |_=>simp only [cq];exact aU.stuck
theorem L2(K:jd X A C hd):∀(n:Nat) (x:PySem.Expr),sizeOf x<n->jU X A C hd x:=by
 intro n;induction n with
 |zero=>intro x h;exact absurd h (fB _)
 |succ n ihn=>
  intro x h;have ih:∀y:PySem.Expr,sizeOf y<sizeOf x->jU X A C hd y:=λy hy=>ihn y (by omega);exact⟨λfe env=>vA K x ih fe env,λfe env=>C8 K x ih fe env,λfe env y v=>yg K x ih fe env y v⟩
theorem jU.all (K:jd X A C hd) (x:PySem.Expr):jU X A C hd x:=L2 K _ x (dq _)
theorem x9(K:jd X A C hd) (fe:cn) (env:Env) (u:Value->Sem Unit) (uF:AV->PM Unit) (hu:∀x v,aU X A fe env hd (λρ=>bC ρ x v) (u v) (uF x) UR):
  aU X A fe env hd bg (evalThenUse (.ListComp elt gens scope pos) env u) (ev C (.ListComp elt gens scope pos) fe>>=uF) (λ_ _ _=>True):=
 (ya K (λy _=>jU.all K y) fe env).2 u uF hu
end
end
section
open PySem.W.X
section
variable {X:Bx} {A:Around} {fe:cn} {env:Env} {hd:Nat} {C:Cx}
theorem aU.Fb {c:PM β} (h:env.scope.kind= .function->aU X A fe env hd Pre t c R):aU X A fe env hd Pre t c R:=
 λρ κ l σ s C H P r st e=>h C.env.kind ρ κ l σ s C H P r st e
theorem aU.qx {γ:Type} {R:List Addr->α->γ->Prop} {f:β->PM γ}:aU X A fe env hd Pre t (PM.stuck>>=f) R:=λ_ _ _ _ _ _ _ _ _ _ e=>by cases e
theorem zb(m:PM Unit):(m>>=λ_=>PM.pure ())=m:=by
 funext st
 show PM.bind m (λ_=>PM.pure ()) st=m st;unfold PM.bind;cases m st with
 |none=>rfl
 |some p=>obtain⟨r,s⟩:=p;cases r<;>rfl
def AF (op:Operator) (x y:AV):PM AV:=match op,x,y with
 | .Add,.int a,.int b=>PM.pure (.int (a+b))
 | .Sub,.int a,.int b=>PM.pure (.int (a-b))
 |_,_,_=>PM.stuck
theorem BI(op:Operator) (x y:AV) (v w:Value):aU X A fe env hd (λρ=>bC ρ x v/\bC ρ y w) (inplaceOp op v w) (AF op x y) VR:=by
 intro ρ κ l σ s C H ⟨hv,hw⟩ r st e;unfold AF at e;split at e
 ·cases e;obtain⟨t,rfl⟩:=hv;obtain⟨u,rfl⟩:=hw;exact PyProof.Rows.iadd_int ⟨_,ρ,κ,rfl,⟨_,rfl⟩,bJ.toks C H⟩
 ·cases e;obtain⟨t,rfl⟩:=hv;obtain⟨u,rfl⟩:=hw;exact PyProof.Rows.isub_int ⟨_,ρ,κ,rfl,⟨_,rfl⟩,bJ.toks C H⟩
 ·cases e
theorem lq(K:jd X A C hd) (y:AV) (v:Value):∀ts:List PySem.Expr,aU X A fe env hd (λρ=>bC ρ y v) (assignAll v ((assignEach ts env).map (·.2))) (iW y (i8 C ts fe)) UR
 |[]=>aU.pure λ_ _=>trivial
 |t::r=>by
  have ih:=lq K y v r;have e0:iW y (i8 C (t::r) fe)=(cq C t fe y>>=λ_=>iW y (i8 C r fe)):=rfl;by_cases hs:cC t=true
  ·obtain⟨z,p,rfl⟩:=ky hs;have e1:cq C (.Starred z p) fe y=PM.stuck:=by simp only [cq]
   rw[e0,e1];exact aU.qx
  ·have e1:assignEach (t::r) env=(false,assign t env)::assignEach r env:=by
    cases t<;>first|rfl|exact absurd rfl hs
   rw[e0,e1];have ht:=(jU.all K t).a fe env y v;cases r with
   |nil=>
    show aU X A fe env hd _ (assign t env v) (cq C t fe y>>=λ_=>PM.pure ()) UR;rw[zb];exact ht
   |cons t' r'=>
    have e2:assignAll v (List.map (·.2) ((false,assign t env)::assignEach (t'::r') env))=(holding [v] (assign t env v)>>=λ_=>assignAll v ((assignEach (t'::r') env).map (·.2))):=by
     have:∃q,assignEach (t'::r') env=q::assignEach r' env:=by cases t'<;>exact⟨_,rfl⟩
     obtain⟨q,hq⟩:=this;rw[hq];rfl
    rw[e2];exact aU.bind1 (aU.holding ht) λ_ _=>ih.pre λρ h=>h.1
theorem sA{value:PySem.Expr} {t:Option PySem.Expr} {line:Nat} (h:tM value=false):swapsWith value t line env=pure false:=by
 cases value<;>first|rfl|cases h
theorem sC{ts:List PySem.Expr} {value:PySem.Expr} {line:Nat} (h:tM value=false):swapsWithSole ts value line env=pure false:=by
 match ts with
 |[]=>rfl
 |[t]=>exact sA h
 |_::_::_=>rfl
theorem wj{ts:List PySem.Expr} {value:PySem.Expr} (h:j5 ts=true):swappedStores ts value env=pure none:=by
 match ts,h with
 |[],_=>rfl
 |[t],h=>cases t<;>first|rfl|cases h
 |a::_::_,_=>cases a<;>rfl
theorem sD{ts:List PySem.Expr} {line:Nat}:∃b,swapsWithSole ts (.ListComp elt gens scope pos) line env=pure b:=by
 match ts with
 |[]=>exact⟨_,rfl⟩
 |[t]=>cases t<;>exact⟨_,rfl⟩
 |_::_::_=>exact⟨_,rfl⟩
theorem m8{c:PM Unit} {R:List Addr->α->Unit->Prop} (h:aU X A fe env hd Pre t c R):aU X A fe env hd Pre (t>>=λ_=>pure Flow.next) (c>>=λ_=>PM.pure dk.next) FR:=
 aU.post (R:=λ_ f _=>f=Flow.next) (aU.map h _ λ_ _ _ _=>⟨Flow.next,rfl,rfl⟩) (λ_=>dk.next) λρ a b h=>by
  have h:a=Flow.next:=h;subst h;exact trivial
theorem yh(K:jd X A C hd) (ts:List PySem.Expr) (value:PySem.Expr) (pos:Pos):aU X A fe env hd bg (exec (.Assign ts value pos) env) (if j5 ts then do
  let v<-ev C value fe
  iW v (i8 C ts fe)
  PM.pure .next
  else PM.stuck) FR:=by
 by_cases hp:j5 ts=true
 case neg=>rw[aC hp];exact aU.stuck
 rw[aD hp];have e1:∀b,swapsWithSole ts value pos.line env=pure b->exec (.Assign ts value pos) env=(standAt pos>>=λ_=>if b=true then(evalThenUse value env (λv=>assignAll v ((assignEach ts env).map (·.2)))>>=λ_=>pure Flow.next)else
   (eval value env>>=λv=>swappedStores ts value env>>=λsw=>assignStores env v sw ((assignEach ts env).map (·.2)))):=λb hb=>by
  show(standAt pos>>=λ_=>swapsWithSole ts value pos.line env>>=λc=>if c=true then(evalThenUse value env (λv=>assignAll v ((assignEach ts env).map (·.2)))>>=λ_=>pure Flow.next)else
   (eval value env>>=λv=>swappedStores ts value env>>=λsw=>assignStores env v sw ((assignEach ts env).map (·.2))))=_
  rw[hb];rfl
 have plain:aU X A fe env hd bg (eval value env>>=λv=>swappedStores ts value env>>=λsw=>assignStores env v sw ((assignEach ts env).map (·.2))) (do
   let v<-ev C value fe
   iW v (i8 C ts fe)
   PM.pure dk.next) FR:=by
  refine aU.fP ((jU.all K value).e fe env) λv x=> ?_;rw[wj hp,pure_bind];show aU X A fe env hd _ (assignAll v ((assignEach ts env).map (·.2))>>=λ_=>pure Flow.next) _ _;exact m8 (lq K x v ts)
 by_cases hc:tM value=true
 ·cases value<;>first|cases hc|skip
  ·rename_i elt gens scope p;obtain⟨b,hb⟩:=sD (env:=env) (ts:=ts) (elt:=elt) (gens:=gens) (scope:=scope) (pos:=p) (line:=pos.line);rw[e1 b hb];refine aU.d5 ?_;cases b with
   |false=>exact plain
   |true=>
    rw[aD rfl,<-jm];exact m8 (x9 K fe env _ _ λx v=>lq K x v ts)
  ·simp only [ev];exact aU.qx
  ·simp only [ev];exact aU.qx
 ·rw[e1 false (sC (by simpa using hc))];exact aU.d5 plain
theorem Dc(K:jd X A C hd) (x:PySem.Expr) (pos:Pos):aU X A fe env hd bg (exec (.Expr x pos) env) (if tM x then PM.stuck else do
  let _<-ev C x fe
  PM.pure .next) FR:=by
 refine aU.guard λhc=>aU.Fb λhk=> ?_;have hi:interactive env=false:=by unfold interactive;rw[hk];rfl
 have e1:exec (.Expr x pos) env=(standAt pos>>=λ_=>eval x env>>=λv=>dropValue x pos v):=by
  show(standAt pos>>=λ_=>if interactive env=true then printExpr (eval x env)else swapsWith x none pos.line env>>=λc=>if c=true then(evalThenUse x env (λ_=>point)>>=λ_=>pure Flow.next)else(eval x env>>=λv=>dropValue x pos v))=_
  rw[hi,sA (by simpa using hc)];rfl
 rw[e1];refine aU.d5 (aU.fP ((jU.all K x).e fe env) λv y=> ?_);intro ρ κ l σ s Cf H P r st e;cases e;exact wpAny_dropValue ⟨_,ρ,κ,rfl,trivial,bJ.refl Cf H⟩
theorem xW(K:jd X A C hd) (x:Option PySem.Expr) (pos:Pos):aU X A fe env hd bg (exec (.Return x pos) env) (do
  let v<-lQ C x fe
  PM.pure (.ret v)) FR:=by
 cases x with
 |none=>
  have e1:exec (.Return none pos) env=(standAt pos>>=λ_=>pure (Flow.ret .none)):=rfl;rw[e1];unfold lQ;refine aU.d5 ?_;intro ρ κ l σ s Cf H P r st e;cases e;exact ae ⟨_,ρ,κ,rfl,rfl,bJ.refl Cf H⟩
 |some x=>
  have e1:exec (.Return (some x) pos) env=(standAt pos>>=λ_=>eval x env>>=λv=>pure (Flow.ret v)):=rfl;rw[e1];unfold lQ;refine aU.d5 (aU.fP ((jU.all K x).e fe env) λv y=> ?_);exact aU.pure λρ h=>h
theorem ye(K:jd X A C hd) (x:Str) (TF:Pos) (op:Operator) (val:PySem.Expr) (pos:Pos):aU X A fe env hd bg (exec (.AugAssign (.Name x TF) op val pos) env) (do
  let old<-kF C fe x
  let v<-ev C val fe
  match op,old,v with
  | .Add,.int a,.int b=>do gO fe x (.int (a+b));PM.pure .next
  |_,_,_=>PM.stuck) FR:=by
 rw[exec_AugAssign_Name];refine aU.d5 (aU.fP (mj K.G C K.hP x) λo ox=> ?_);refine aU.bind1 (aU.holding (((jU.all K val).e fe env).pre λ_ _=>trivial)) λv vx=>aU.d5 ?_;have e0:(match op,ox,vx with
   | .Add,.int a,.int b=>do gO fe x (.int (a+b));PM.pure .next
   |_,_,_=>PM.stuck:PM dk)=(if op= .Add then(AF op ox vx>>=λn=>gO fe x n>>=λ_=>PM.pure .next)else PM.stuck):=by
  by_cases ho:op= .Add
  ·subst ho;rw[aD rfl];cases ox<;>cases vx<;>rfl
  ·rw[aC ho];cases op<;>first|exact absurd rfl ho|rfl
 rw[e0];by_cases ho:op= .Add
 case neg=>rw[aC ho];exact aU.stuck
 rw[aD ho];refine aU.Cy (aU.operate (BI op ox vx o v)) λn nx=>aU.d5 ?_;exact m8 ((ji x nx n).pre λρ h=>h.2)
theorem yf(K:jd X A C hd) (o:PySem.Expr) (x:Str) (Fl:Pos) (op:Operator) (val:PySem.Expr) (pos:Pos):aU X A fe env hd bg (exec (.AugAssign (.Attribute o x Fl) op val pos) env) (do
  let ov<-ev C o fe
  let old<-jj C.P ov x
  let v<-ev C val fe
  match op,old,v with
  | .Add,.int a,.int b=>do gf C.P ov x (.int (a+b));PM.pure .next
  | .Sub,.int a,.int b=>do gf C.P ov x (.int (a-b));PM.pure .next
  |_,_,_=>PM.stuck) FR:=by
 have e1:exec (.AugAssign (.Attribute o x Fl) op val pos) env=(standAt pos>>=λ_=>eval o env>>=λov=>holding [ov] (standAt Fl.atName>>=λ_=>getAttr ov x true>>=λold=>holding [old] (eval val env)>>=λv=>standAt pos>>=λ_=>operate [old,v] (inplaceOp op old v))>>=λnew=>
   standAt Fl.atName>>=λ_=>holding [new,ov] (setAttr ov x new)>>=λ_=>PySem.release [new,ov] []>>=λ_=>pure Flow.next):=rfl
 rw[e1];clear e1;refine aU.d5 (aU.fP ((jU.all K o).e fe env) λov ox=> ?_);have e0:∀old v,(match op,old,v with
   | .Add,.int a,.int b=>do gf C.P ox x (.int (a+b));PM.pure .next
   | .Sub,.int a,.int b=>do gf C.P ox x (.int (a-b));PM.pure .next
   |_,_,_=>PM.stuck:PM dk)=(AF op old v>>=λn=>gf C.P ox x n>>=λ_=>PM.pure .next):=λold v=>by
  cases op with
  |Add=>cases old with
   |int a=>cases v<;>rfl
   |_=>rfl
  |Sub=>cases old with
   |int a=>cases v<;>rfl
   |_=>rfl
  |_=>rfl
 simp only [e0];have inner:aU X A fe env hd (λρ=>bC ρ ox ov) (standAt Fl.atName>>=λ_=>getAttr ov x true>>=λold=>holding [old] (eval val env)>>=λv=>standAt pos>>=λ_=>operate [old,v] (inplaceOp op old v)) (do
   let old<-jj C.P ox x
   let v<-ev C val fe
   AF op old v) VR:=by
  refine aU.d5 ?_;rw[K.hP];refine aU.bind1 (ro K.G ox ov x true) λold TC=> ?_;refine aU.Cy (R:=VR) (aU.holding (((jU.all K val).e fe env).pre λ_ _=>trivial)) λv vx=>aU.d5 ?_;exact(aU.operate (BI op TC vx old v)).pre λρ h=>⟨h.1.2,h.2⟩
 have e2:(do
   let old<-jj C.P ox x
   let v<-ev C val fe
   AF op old v>>=λn=>gf C.P ox x n>>=λ_=>PM.pure .next:PM dk)=((do
   let old<-jj C.P ox x
   let v<-ev C val fe
   AF op old v)>>=λn=>gf C.P ox x n>>=λ_=>PM.pure .next):=by
  simp only [jm]
 rw[e2];refine aU.bind1 (aU.holding inner) λn nx=>aU.d5 ?_;have e3:(holding [n,ov] (setAttr ov x n)>>=λ_=>PySem.release [n,ov] []>>=λ_=>pure Flow.next)=((holding [n,ov] (setAttr ov x n)>>=λ_=>PySem.release [n,ov] [])>>=λ_=>pure Flow.next):=by simp only [bind_assoc]
 rw[e3,K.hP];exact m8 (aU.kR (aU.holding (rm K.G ox nx ov n x)))
theorem xZ(K:jd X A C hd) (o i:PySem.Expr) (p pos:Pos):aU X A fe env hd bg (exec (.Delete [.Subscript o i p] pos) env) (do
  let ov<-ev C o fe
  let iv<-ev C i fe
  lR ov iv
  PM.pure .next) FR:=by
 have e1:exec (.Delete [.Subscript o i p] pos) env=(standAt pos>>=λ_=>(eval o env>>=λov=>holding [ov] (eval i env)>>=λiv=>standAt p>>=λ_=>holding [ov,iv] (delItem ov iv)>>=λ_=>PySem.release [ov,iv] [])>>=λ_=>pure Flow.next):=by
  show(standAt pos>>=λ_=>((eval o env>>=λov=>holding [ov] (eval i env)>>=λiv=>standAt p>>=λ_=>holding [ov,iv] (delItem ov iv)>>=λ_=>PySem.release [ov,iv] [])>>=λ_=>pure ())>>=λ_=>pure Flow.next)=_
  simp only [bind_assoc,pure_bind]
 have e2:(do
   let ov<-ev C o fe
   let iv<-ev C i fe
   lR ov iv
   PM.pure .next:PM dk)=((do
   let ov<-ev C o fe
   let iv<-ev C i fe
   lR ov iv)>>=λ_=>PM.pure .next):=by simp only [jm]
 rw[e1,e2];refine aU.d5 (m8 (R:=UR) ?_);refine aU.fP ((jU.all K o).e fe env) λov ox=> ?_;refine aU.bind1 (R:=VR) (aU.holding (((jU.all K i).e fe env).pre λ_ _=>trivial)) λiv ix=>aU.d5 ?_;exact aU.kR (aU.holding (x7 K.G ox ix ov iv))
end
end
section
open PySem.W.X
section
variable {X:Bx} {A:Around} {fe:cn} {env:Env} {hd:Nat} {C:Cx}
theorem jd.mark {e:Option Value} {d:Nat} (K:jd X A C hd) (h:d≠0):jd X (A.mark e) {C with hd:=d} d:=
 ⟨K.G,K.hP,rfl,K.hu,λq=>absurd q h,λq=>absurd q h,λq=>absurd q h,λq=>absurd q h⟩
theorem FJ{s:PySem.Stmt} {r:List PySem.Stmt} (h1:aU X A fe env hd bg (exec s env) (mX C s fe) FR) (h2:aU X A fe env hd bg (execs r env) (gp C r fe) FR):aU X A fe env hd bg (execs (s::r) env) (gp C (s::r) fe) FR:=by
 rw[W9];simp only [gp];refine aU.fP h1 λf g=> ?_;intro ρ κ l σ s Cf H P rr st e;have P:FR ρ f g:=P;cases g with
 |next=>
  cases f<;>first|exact P.elim|skip
  exact h2 ρ κ l σ s Cf H trivial rr st e
 |_=>
  cases f<;>first|exact P.elim|skip
  cases e;exact ae ⟨_,ρ,κ,rfl,P,bJ.refl Cf H⟩
theorem IG{t:PySem.Expr} {b o:List PySem.Stmt} (pos:Pos) (K:jd X A C hd) (hb:aU X A fe env hd bg (execs b env) (gp C b fe) FR) (ho:aU X A fe env hd bg (execs o env) (gp C o fe) FR):
  aU X A fe env hd bg (exec (.If t b o pos) env) (do
   let c<-cV C t fe (ev C t fe)
   if c then gp C b fe else gp C o fe) FR:=by
 rw[exec_If];refine aU.d5 (aU.fP ((jU.all K t).t fe env) λc c'=> ?_);intro ρ κ l σ s Cf H P r st e;have hc:c=c':=P;subst hc;cases c
 ·exact ho ρ κ l σ s Cf H trivial r st e
 ·exact hb ρ κ l σ s Cf H trivial r st e
theorem kA{f:Flow} {g:dk} (h:∀ρ,FR ρ f g) (pos:Pos):aU X A fe env hd bg (standAt pos>>=λ_=>pure f) (PM.pure g) FR:=
 aU.d5 (aU.pure λρ _=>h ρ)
theorem xY(K:jd X A C hd) (hT:Top A env) {b:List PySem.Stmt} {T:Str} {np hp pos:Pos} {h:PySem.Stmt} (hb:aU X A fe env hd bg (execs b env) (gp C b fe) FR)
  (hh:∀e,aU X (A.mark (some (.ref e))) fe env 2 bg (execs (h::hs) env) (gp {C with hd:=2} (h::hs) fe) FR):
  aU X A fe env hd bg (exec (.Try b [.ExceptHandler (some (.Name T np)) .none (h::hs) hp] [] [] pos) env) (mX C (.Try b [.ExceptHandler (some (.Name T np)) .none (h::hs) hp] [] [] pos) fe) FR:=by
 simp only [mX];refine aU.guard λhg=> ?_;simp only [iQ,W7,xv,ne_eq,Zk,gT]at hg;obtain⟨h0,jc⟩:=hg;have:hd=0:=K.hC.symm.trans h0;subst this;refine z6 hT hb (λe=> ?_) (λst r st' e=>yw e) hh;have:=sH (fe:=fe) (env:=env) (K.mark (e:=some (.ref e)) (d:=2) (by decide)) T np;rw[aC jc]at this;exact this
theorem wA(K:jd X A C hd) (hT:Top A env) {b:List PySem.Stmt} {pos:Pos} {h:PySem.Stmt} (hb:aU X A fe env hd bg (execs b env) (gp C b fe) FR) (h0:aU X A fe env hd bg (execs (h::hs) env) (gp C (h::hs) fe) FR)
  (h1:∀e,aU X (A.mark (some (.ref e))) fe env 1 bg (execs (h::hs) env) (gp {C with hd:=1} (h::hs) fe) FR):
  aU X A fe env hd bg (exec (.Try b [] [] (h::hs) pos) env) (mX C (.Try b [] [] (h::hs) pos) fe) FR:=by
 have e0:mX C (.Try b [] [] (h::hs) pos) fe=(if C.hd !=0 then PM.stuck else do
  match<-PM.attempt (gp C b fe)with
  | .ok f=>do
   match<-gp C (h::hs) fe with
   | .next=>PM.pure f
   |_=>PM.stuck
  | .exc k=>if k= .late then PM.stuck else do
   match<-PM.attempt (gp {C with hd:=1} (h::hs) fe)with
   | .ok .next=>PM.raise k
   | .exc .late=>PM.raise .late
   |_=>PM.stuck):=by rw[mX]<;>rfl
 rw[e0];refine aU.guard λhg=> ?_;have hg:C.hd=0:=by simpa using hg
 have:hd=0:=K.hC.symm.trans hg;subst this;exact xX hT hb h0 h1
end
structure Hz (X:Bx) (n:Nat):Prop where
 s:∀s:PySem.Stmt,sizeOf s<n->∀(A:Around) (hd:Nat) (C:Cx) fe env,jd X A C hd->Top A env->aU X A fe env hd bg (exec s env) (mX C s fe) FR
 ss:∀ss:List PySem.Stmt,sizeOf ss<n->∀(A:Around) (hd:Nat) (C:Cx) fe env,jd X A C hd->Top A env->aU X A fe env hd bg (execs ss env) (gp C ss fe) FR
section
variable {X:Bx}
theorem Fz(s:PySem.Stmt) (I:Hz X (sizeOf s)) (A:Around) (hd:Nat) (C:Cx) (fe:cn) (env:Env) (K:jd X A C hd) (hT:Top A env):aU X A fe env hd bg (exec s env) (mX C s fe) FR:=by
 cases s with
 |Expr x pos=>simp only [mX];exact Dc K x pos
 |Pass pos=>simp only [mX];exact kA (f:= .next) (g:= .next) (λ_=>trivial) pos
 |Break pos=>simp only [mX];exact kA (f:= .brk) (g:= .brk) (λ_=>trivial) pos
 |Continue pos=>simp only [mX];exact kA (f:= .cont) (g:= .cont) (λ_=>trivial) pos
 |Return x pos=>simp only [mX];exact xW K x pos
 |Assign ts x pos=>simp only [mX];exact yh K ts x pos
 |AugAssign t op val pos=>
  cases t with
  |Name x np=>simp only [mX];exact ye K x np op val pos
  |Attribute o x tp=>simp only [mX];exact yf K o x tp op val pos
  |_=>exact aU.fY (by rw[mX]<;>(intros;rename_i q;cases q)) aU.stuck
 |Delete ts pos=>
  match ts with
  |[]=>exact aU.fY (by rw[mX]<;>(intros;rename_i q;cases q)) aU.stuck
  |[t]=>
   cases t with
   |Subscript o i p=>simp only [mX];exact xZ K o i p pos
   |_=>exact aU.fY (by rw[mX]<;>(intros;rename_i q;cases q)) aU.stuck
  |_::_::_=>exact aU.fY (by rw[mX]<;>(intros;rename_i q;cases q)) aU.stuck
 |If t b o pos=>
  simp only [mX];exact IG pos K (I.ss b (by rw[S6];omega) A hd C fe env K hT) (I.ss o (by rw[S6];omega) A hd C fe env K hT)
 |While t b o pos=>
  simp only [mX];exact CZ hT ((jU.all K t).t fe env) (I.ss b (by rw[NB];omega) A hd C fe env K hT) (I.ss o (by rw[NB];omega) A hd C fe env K hT)
 |For t i b o pos=>
  simp only [mX];refine aU.guard λhg=> ?_;simp only [iQ,W7,qp,u6]at hg;obtain⟨hs,h0⟩:=hg;have:hd=0:=K.hC.symm.trans h0;subst this;exact IH K.G hs ((jU.all K i).e fe env) (λx v=>(jU.all K t).a fe env x v) (I.ss b (by rw[Ru];omega) A 0 C fe env K hT) (I.ss o (by rw[Ru];omega) A 0 C fe env K hT)
 |Try b hs o f pos=>
  have hb:=I.ss b (by rw[uC];omega) A hd C fe env K hT
  match hs,o,f with
  |[],[],[]=>exact aU.fY (by rw[mX]<;>(intros;rename_i q;cases q)) aU.stuck
  |[],[],h::r=>
   have hz:sizeOf (h::r)<sizeOf (Stmt.Try b [] [] (h::r) pos):=by rw[uC];omega
   exact wA K hT hb (I.ss _ hz A hd C fe env K hT) λe=>I.ss _ hz _ 1 _ fe env (K.mark (by decide)) hT
  |[],_::_,_=>exact aU.fY (by rw[mX]<;>(intros;rename_i q;cases q)) aU.stuck
  |[.ExceptHandler ty nm body hp],o,f=>
   match ty,nm,body,o,f with
   |none,_,_,_,_=>exact aU.fY (by rw[mX]<;>(intros;rename_i q;cases q)) aU.stuck
   |some t,nm,body,o,f=>
    cases t with
    |Name T np=>
     match nm,body,o,f with
     |none,h::r,[],[]=>
      have hz:sizeOf (h::r)<sizeOf (Stmt.Try b [.ExceptHandler (some (.Name T np)) none (h::r) hp] [] [] pos):=by
       simp only [uC,iX,ExceptHandler.ExceptHandler.sizeOf_spec];omega
      exact xY K hT hb λe=>I.ss _ hz _ 2 _ fe env (K.mark (by decide)) hT
     |none,[],_,_=>exact aU.fY (by rw[mX]<;>(intros;rename_i q;cases q)) aU.stuck
     |none,_::_,_::_,_=>exact aU.fY (by rw[mX]<;>(intros;rename_i q;cases q)) aU.stuck
     |none,_::_,[],_::_=>exact aU.fY (by rw[mX]<;>(intros;rename_i q;cases q)) aU.stuck
     |some _,_,_,_=>exact aU.fY (by rw[mX]<;>(intros;rename_i q;cases q)) aU.stuck
    |_=>exact aU.fY (by rw[mX]<;>(intros;rename_i q;cases q)) aU.stuck
  |_::_::_,_,_=>exact aU.fY (by rw[mX]<;>(intros;rename_i q;cases q)) aU.stuck
 |_=>exact aU.fY (by rw[mX]<;>(intros;rename_i q;cases q)) aU.stuck
theorem LV:∀n,Hz X n:=by
 intro n;induction n with
 |zero=>exact⟨λ_ h=>absurd h (fB _),λ_ h=>absurd h (fB _)⟩
 |succ n ih=>
  have down:∀m,m<=n->Hz X m:=λm hm=>⟨λs hs=>ih.s s (by omega),λss hs=>ih.ss ss (by omega)⟩;have one:∀s:PySem.Stmt,sizeOf s<n+1->∀(A:Around) (hd:Nat) (C:Cx) fe env,jd X A C hd->Top A env->aU X A fe env hd bg (exec s env) (mX C s fe) FR:=λs hs=>Fz s (down _ (by omega));refine⟨one,λss=> ?_⟩;induction ss with
  |nil=>
   intro _ A hd C fe env K hT;rw[execs_nil];simp only [gp];exact aU.pure λ_ _=>trivial
  |cons s r ihr=>
   intro hz A hd C fe env K hT;rw[iX]at hz;exact FJ (one s (by omega) A hd C fe env K hT) (ihr (by omega) A hd C fe env K hT)
theorem nS{hd:Nat} {fe:cn} {env:Env} (K:jd X A C hd) (hT:Top A env) (ss:List PySem.Stmt):aU X A fe env hd bg (execs ss env) (gp C ss fe) FR:=
 (LV _).ss ss (dq _) A hd C fe env K hT
end
end
section
open PySem.W.X
section
variable {M:Model} {A:Around} {E:Value->Shared->Prop} {s:Shared}
theorem tI{K:Frag} {C:Addr} (xq:K.In s.heap) (hm:makesIn K C=true) {Q:Keeper->Shared->Prop} (h:∀k,Q k s):wpAny M A (keeperOf (.ref C)) Q E s:=by
 unfold makesIn at hm;split at hm
 ·rename_i oc od cd sl ho;simp only [cG,gT]at hm;have hs:=hm.1.2;unfold keeperOf;refine aa (dZ (xq _ _ ho) ?_);dsimp only;refine aa ((looks_specialIn xq hs).here ?_);split<;>exact ae (h _)
 ·cases hm
theorem nv(ho:s.heap.get? a=some o) (hd:o.data= .func fd) {Q:Keeper->Shared->Prop} (h:∀k,Q k s):wpAny M A (keeperOf (.ref a)) Q E s:=by
 unfold keeperOf;refine aa (dZ ho ?_);rw[hd];exact ae (h _)
end
structure Bl (X:Bx):Prop where
 fn:∃o fd,X.h₀.get? X.P.dN=some o/\o.data= .func fd/\X.P.dN∉X.eX
 call:∀(A:Around) (fe:cn) (env:Env) (g:AV) (v:Value),fk A 3->aU X A fe env 0 (λρ=>bC ρ g v) (call (.ref X.P.dN) [v]) (do
  let c<-PM.alloc (.cell (some g))
  let r<-PM.alloc (.jb c)
  PM.pure (.ref r)) VR
structure JV (X:Bx) (A:Around) (lv:ER):Prop where
 call:∀fe env,o8 X A fe env lv.call
 Mj:∀fe env f xs vs ρ κ l σ s r st,Cfg X A fe env ρ κ l σ s->jq X A env 0 ρ κ s->bp ρ xs vs->(X.P.fns f).isSome=true->f≠X.P.dN->lv.call (.base f) xs ⟨l,σ⟩=some (r,st)->
  codeAny (M X) A (.call (.ref f) ⟨vs,[]⟩) (λq s'=>∃v,q= .ok (.ret v)/\mM X A fe env 0 VR ρ κ s r st v s') s
 lt:∀fe env x y v w,aU X A fe env 0 (λρ=>bC ρ x v/\bC ρ y w) (keyLt' oneType' v w) (lv.lt x y) BR
section
variable {X:Bx} {A:Around} {fe:cn} {env:Env}
theorem IP(fuel:Nat):JV X A (gj X.P fuel 0):=
 ⟨λfe env=>⟨λf xs v vs=>aU.stuck,λf xs v ρ κ l σ s r st _ _ e=>(by cases e)⟩,λ_ _ _ _ _ _ _ _ _ _ _ _ _ _ _ _ _ e=>(by cases e),λ_ _ _ _ _ _=>aU.stuck⟩
theorem yY(G:bZ X) (ih:∀A,fk A (4*k)->JV X A (gj X.P fuel k)) (hr:fk A (4*k+2)):jd X A ⟨X.P,gj X.P fuel k,fuel,0⟩ 0:=by
 have h1:fk A.in1 (4*k+1):=fk.in1 (show fk A (4*k+1+1)from hr);have h2:fk A.in1.in1 (4*k):=fk.in1 h1;refine⟨G,rfl,rfl, ?_,λ_=>(ih A (hr.less (by omega))).call,λ_=>(ih A (hr.less (by omega))).Mj,λ_ fe env key f x v=> ?_,λ_ fe env=>(ih _ h2).lt fe env⟩
 ·have:=hr.u;omega
 ·exact(((ih _ h2).call fe env).call key [x] f [v]).pre λρ h=>⟨h.1,h.2,trivial⟩
theorem y9(C:Cfg X A fe env ρ κ l σ s) (H:jq X A env 0 ρ κ s) {it:Nat} (ho:σ[n]? =some (.nextOf it)) (ha:ρ[n]? =some a) {r:Res AV} {st:AS}
  (e:(do
   match<-fu (.obj it)with
   |some (v,_)=>PM.pure v
   | .none=>PM.raise .stop:PM AV) ⟨l,σ⟩=some (r,st)):wpAny (M X) A (call (.ref a) []) (mM X A fe env 0 VR ρ κ s r st) (o6 X A fe env 0 ρ κ s r st) s:=by
 have hh:=H.none_ rfl;obtain⟨ai,Sv,eo⟩:=C.rel.objs n _ a ho ha;refine CI eo λA' hA=> ?_;rcases aH e with⟨q,s1,e3,e4⟩|⟨k,e3,rfl⟩
 ·unfold fu at e3;obtain⟨o',uH,e5⟩:=bI e3;clear e3;cases o' with
  |eZ li i=>
   obtain⟨al,h1,h2⟩:=C.rel.objs it _ ai uH Sv;obtain⟨o2,ho2,e6⟩:=bI e5;clear e5;have O2:=C.rel.objs li o2 al ho2 h1;cases o2 with
   |list ys=>
    obtain⟨ws,m,eo,rv,hl⟩:=O2;cases hx:ys[i]? with
    |none=>
     simp only [hx]at e6;have e7:=gw e6;cases e7;cases e4;refine rA (hA.trans hh) h2 (cW eo) (by rw[ck];exact rv.none hx) λh' e ob t k1 k2 k3 k4 k5 k6=> ?_;obtain⟨t2,k2⟩:=k2;obtain⟨f1,f2,f3,f4,f5⟩:=C.fresh k3;exact⟨.stop,ρ,κ,rfl,⟨e,ob,t,.none,.none,.bool false,.none,.none,rfl,k3,k4,k5,k6,f1,f2,f3,f4,f5,λ_ _=>rfl,.inl rfl⟩,
      bJ.put (s':={s with heap:=h'}) C H Sv ⟨_,k2⟩ (λb ob hb e=>k1 b ob hb e) rfl rfl ⟨t2,k2⟩⟩
    |some x=>
     simp only [hx]at e6;have e7:=gw e6;cases e7;cases e4;obtain⟨u,hu,hr⟩:=rv.get hx;exact pS h2 (cW eo) (by rw[ck];exact hu) λh' k1 k2=>⟨x,ρ,κ,rfl,hr,bJ.put (s':={s with heap:=h'}) C H Sv ⟨_,k1⟩ (λb ob hb e=>(k2.2 b hb).trans e) rfl rfl ⟨al,h1,k1⟩⟩
   |_=>cases e6
  |_=>cases e5
 ·unfold fu at e3;obtain⟨o',uH,e5⟩:=bI e3;clear e3;cases o' with
  |eZ li i=>
   obtain⟨o2,ho2,e6⟩:=bI e5;cases o2 with
   |list ys=>
    cases hx:ys[i]? with
    |none=>simp only [hx]at e6;have e7:=gw e6;cases e7
    |some x=>simp only [hx]at e6;have e7:=gw e6;cases e7
   |_=>cases e6
  |_=>cases e5
theorem wB(G:bZ X) (GF:rL X) (GK:Ox X) (GC:Bl X) (ih:∀A,fk A (4*k)->JV X A (gj X.P fuel k)) (hr:fk A (4*k+4)) (f:AV) (xs:List AV) (v:Value) (vs:List Value):
  aU X A fe env 0 (λρ=>bC ρ f v/\bp ρ xs vs) (call v vs) (fj X.P fuel (gj X.P fuel k) f xs) VR:=by
 have body:∀(A':Around) (fi:fN) ir bE,fk A' (4*k+2)->Top A' bE->aU X A' ir bE 0 bg (execs fi.body bE) (gp ⟨X.P,gj X.P fuel k,fuel,0⟩ fi.body ir) FR:=λA' fi ir bE pj hT=>nS (yY G ih pj) hT fi.body;intro ρ κ l σ s C H ⟨hv,mS⟩ r st e;unfold fj at e;cases f with
 |base a=>
  have hv:v= .ref a:=hv;subst hv;dsimp only at e;by_cases KH:a=X.P.dN
  ·rw[aD KH]at e;subst KH
   match xs,vs,mS with
   |[],_,_=>cases e
   |[g],[w],mS=>exact GC.call A fe env g w (hr.less (by omega)) ρ κ l σ s C H mS.1 r st e
   |_::_::_,_,_=>cases e
  ·rw[aC KH]at e;cases yM:X.P.fns a with
   |some fi=>
    rw[yM]at e;exact gQ (dU (xf G GF (k:=4*k+2) (hr.less (by omega)) yM (λA' ir bE=>body A' fi ir bE) C H mS e) λq s' ⟨v,h1,h2⟩=>by subst h1;exact h2)
   |none=>
    rw[yM]at e;cases rT:X.P.clss a with
    |none=>rw[rT]at e;cases e
    |some ci=>
     rw[rT]at e;exact Ds G GF (C:=⟨X.P,gj X.P fuel k,fuel,0⟩) rfl (k:=4*k+2) hr rT body C H mS e
 |ref n=>
  obtain⟨a,ha,rfl⟩:=hv;dsimp only at e;obtain⟨o,ho,e2⟩:=bI e;clear e;cases o with
  |lam ps bd sc cs=>
   obtain⟨qual,pm,c,ct,cls,rs,eo,hc,mU,w0,rfl⟩:=C.rel.objs n _ a ho ha;exact Hk G (k:=4*k+2) (hr.less (by omega)) (λA' ir bE pj=>(jU.all (yY G ih pj) bd).e ir bE) C H eo rfl mU w0 mS e2
  |jb c=>exact Mm G GK (C:=⟨X.P,gj X.P fuel k,fuel,0⟩) rfl (k:=4*k+2) hr body C H ho ha mS e2
  |nextOf it=>
   match xs,vs,mS with
   |[],[],_=>exact y9 C H ho ha e2
   |_::_,_,_=>cases e2
  |_=>cases e2
 |bi id=>
  have hv:v= .builtin id:=hv;subst hv;dsimp only at e;by_cases hs:id="sorted"
  ·subst hs
   match xs,vs,mS with
   |[],_,_=>cases e
   |[x],[w],mS=>exact zY (by have:=hr.u;omega) x w ρ κ l σ s C H mS.1 r st e
   |_::_::_,_,_=>cases e
  ·exact yc G id hs xs vs ρ κ l σ s C H mS r st e
 |ty nm=>
  have hv:v= .type nm:=hv;subst hv;exact Fy G nm xs vs ρ κ l σ s C H mS r st e
 |_=>cases e
theorem IQ(G:bZ X) (GF:rL X) (GC:Bl X) {f:AV} {r:Res AV} (C:Cfg X A fe env ρ κ l σ s) (hv:bC ρ f v) (e:fj X.P fuel (gj X.P fuel k) f xs ⟨l,σ⟩=some (r,st))
  (Q:Keeper->Shared->Prop) (E:Value->Shared->Prop) (h:∀k,Q k s):wpAny (M X) A (keeperOf v) Q E s:=by
 unfold fj at e;cases f with
 |base a=>
  have hv:v= .ref a:=hv;subst hv;dsimp only at e;by_cases KH:a=X.P.dN
  ·subst KH;obtain⟨o,fd,h1,h2,h3⟩:=GC.fn;exact nv (C.rel.keep _ _ h1 h3) h2 h
  ·rw[aC KH]at e;cases yM:X.P.fns a with
   |some fi=>
    obtain⟨o,fd,c,h1,h2,h3,_⟩:=GF.fns a fi yM;exact nv (C.rel.keep _ _ h1 h2) h3 h
   |none=>
    rw[yM]at e;cases rT:X.P.clss a with
    |none=>rw[rT]at e;cases e
    |some ci=>exact tI (C.rel.zv G) (GF.makes a ci rT).1 h
 |ref n=>
  obtain⟨a,ha,rfl⟩:=hv;dsimp only at e;obtain⟨o,ho,e2⟩:=bI e;clear e;cases o with
  |lam ps bd sc cs=>
   obtain⟨qual,pm,c,ct,cls,rs,eo,_⟩:=C.rel.objs n _ a ho ha;exact nv eo rfl h
  |jb c=>
   obtain⟨ac,HX,ns,md,B,kr,tk,h1,t1,h2,t2,tm,e1,KP,m2,e3,m3,f1,f2⟩:=C.rel.objs n _ a ho ha;have q1:=B9 (a:=a) (ns:=ns) (md:=md) (B:=B) (tk:=tk) (tm:=tm) (r:=kr) (h1:=h1) (h2:=h2) (t1:=t1) (t2:=t2);exact tI (wN e1 KP e3) (yB q1) h
  |nextOf it=>
   obtain⟨ai,Sv,eo⟩:=C.rel.objs n _ a ho ha;unfold keeperOf;refine aa (dZ eo ?_);dsimp only;rw[aD (by decide)];exact ae (h _)
  |_=>cases e2
 |bi id=>
  have hv:v= .builtin id:=hv;subst hv;exact ae (h _)
 |ty nm=>
  have hv:v= .type nm:=hv;subst hv;exact ae (h _)
 |_=>cases e
theorem Pq(G:bZ X) (GF:rL X) (GK:Ox X) (GC:Bl X) (fuel:Nat):∀(k:Nat) (A:Around),fk A (4*k)->JV X A (gj X.P fuel k):=by
 intro k;induction k with
 |zero=>intro A _;exact IP fuel
 |succ k ih=>
  intro A hr;have hr:fk A (4*k+4):=hr;refine⟨λfe env=>⟨λf xs v vs=>wB G GF GK GC ih hr f xs v vs,λf xs v ρ κ l σ s r st C hv e Q E h=>IQ G GF GC C hv e Q E h⟩,λfe env f xs vs ρ κ l σ s r st C H mS hf KH e=> ?_,λfe env x y v w=> ?_⟩
  ·obtain⟨fi,yM⟩:=cJ.mp hf;have e':fj X.P fuel (gj X.P fuel k) (.base f) xs ⟨l,σ⟩=some (r,st):=e;unfold fj at e';dsimp only at e';rw[aC KH,yM]at e';exact xf G GF (k:=4*k+2) (hr.less (by omega)) yM (λA' ir bE pj hT=>nS (yY G ih pj) hT fi.body) C H mS e'
  ·exact IE G GK (k:=4*k+2) (hr.less (by omega)) (λA' fi ir bE pj hT=>nS (yY G ih pj) hT fi.body) x y v w
end
end
section
open PySem.W.X
structure HE (X:Bx):Prop where
 AK:∀cell,xt (X.kd 0) [(("mycmp":Str),cell)] []
 hok:∀cell i,1<=i->i<6->xt (X.kd i) [(("mycmp":Str),cell)] [(("mycmp":Str),cell)]
theorem zU:isSubtype (.type "type") (.type "type")=Pure.pure true:=by rw[jt];kernel_rfl
def HD (h:Heap) (b:Addr):Prop:=∃o,h.get? b=some o/\∀cd,o.data≠ .cls cd
theorem qH{q:Str} (x:h.CodeRec (.ref c) q):HD h c:=by
 obtain⟨c',o,vs,t,e,g,d,_⟩:=x;cases e;exact⟨o,g,λcd z=>by rw[d]at z;cases z⟩
section
variable {X:Bx} {A:Around} {fe:cn} {env:Env}
theorem A9(G:bZ X) (GD:HE X) (Cf:Cfg X A fe env ρ κ l σ s) (H:jq X A env 0 ρ κ s) (hi:fe.cells.lookup ("mycmp":Str)=some i) (gn:env.code= .ref X.kC) (wZ:A.depth<recursionLimit)
  {p:Nat->Pos} {line:Nat} {E:Value->Shared->Prop}:
  wpAny (M X) A (buildClass "K" fg [.type "object"] [] (tJ p X.kd) jP ["obj"] line env X.kpos none) (λv s'=>∃a κ',v= .ref a/\bJ X A fe env 0 ρ κ s ⟨l,σ++[.jb i]⟩ (ρ++[a]) (κ++κ') s') E s:=by
 have R:=Cf.rel;obtain⟨ac,HX,w0⟩:=Cf.env.cells _ i hi;obtain⟨mb,g1,g2,g3,g4,g5⟩:=G.glob;obtain⟨ms,LW,HO,OZ,HN⟩:=G.st;obtain⟨Sj,U9⟩:=G.kC;have EG:X.kP∈X.eX:=aj ..;have jc:CodeHd s.heap X.kC X.kP:=by
  obtain⟨o,vs,file,tf,flags,tg,uU,text,tt,e,r⟩:=Sj;exact⟨o,vs,file,tf,flags,tg,uU,text,tt,R.keep _ _ e U9,r⟩
 have apart_at:X.kC≠X.kP:=by
  obtain⟨o,vs,file,tf,flags,tg,uU,text,tt,_,_,_,_,_,_,_,_,_,z⟩:=Sj;exact z
 have Vu:¬X.kP∈κ:=λq=>by
  obtain⟨o,e⟩:=R.iz _ EG;rw[R.sS _ q]at e;cases e
 have hT:KTab s.heap X.kC X.kP X.kpos X.kd (· ∈κ):=by
  obtain⟨ps,e,t,r⟩:=R.tabs.kc;exact⟨ps,⟨jc,e,t⟩,r⟩
 obtain⟨vn,hnm⟩:=G.nm;obtain⟨osy,hsy⟩:=G.LQ;obtain⟨h,g,dr,t,os⟩:=s;refine build_class w0 Cf.env.glob Cf.env.bu (R.tX hsy) gn hT Vu apart_at (R.ns g1 g3) (R.bu G EG) (λq=>g3 (q▸EG)) G.lA (GD.AK ac) (GD.hok ac) (R.ns LW HN) HO OZ hnm (λq=>HN (q▸EG)) wZ VO zU VN ?_;intro a ns md B r s' hk Sx hC da QX QY WM dflt hg ho;obtain⟨h',g',dr',t',os'⟩:=s';simp only at hk Sx hC hg ho
 subst hg ho;obtain⟨tk,ea⟩:=hC.cls;obtain⟨h1,t1,h2,t2,SQ⟩:=hC.dict;obtain⟨tm,SU⟩:=hC.md;obtain⟨QW,c0,Q0,f0,r0,VC⟩:=hC.fns.fi;obtain⟨QV,c1,QZ,f1,r1,VB⟩:=hC.fns.t6;obtain⟨ps,T,hT2⟩:=Sx;obtain⟨more,Qc,hin⟩:∃more:List Addr,(∀b∈more,HD h' b)/\∀cv,codeAmong X.kpos ps.toList=some cv->∃kc P' gX,cv= .ref kc/\(kc∈κ\/h.get? kc=none)/\(P'∈κ\/h.get? P'=none)/\jn h' kc P' gX/\kc≠P'/\kc∈more/\P'∈more/\
   (∀x∈kPairs X.kd,∃c',codeAmong x.1 gX.toList=some (.ref c')/\h'.CodeRec (.ref c') x.2/\(c'∈κ\/h.get? c'=none)/\c'∈more):=by
  cases oU:codeAmong X.kpos ps.toList with
  |none=>exact⟨[],(λ_ m=>nomatch m),(λcv q=>nomatch q)⟩
  |some cv=>
   obtain⟨kc,P',gX,rfl,q1,q2,q3,q4,q5⟩:=hT2 cv oU;refine⟨kc::P'::(kPairs X.kd).filterMap λx=>match codeAmong x.1 gX.toList with|some (.ref c)=>some c|_=>none,λb hb=> ?_,λcv q=> ?_⟩
   ·rcases aK.mp hb with rfl|hb
    ·obtain⟨o,vs,_,_,_,_,_,_,_,e,_,d,_⟩:=q3.hd;exact⟨o,e,λcd z=>by rw[d]at z;cases z⟩
    ·rcases aK.mp hb with rfl|hb
     ·exact⟨_,q3.tab,λcd z=>by cases z⟩
     ·obtain⟨x,hx,e⟩:=d4.mp hb;obtain⟨c',z1,z2,_⟩:=q5 x hx;rw[z1]at e;cases e;exact qH z2
   ·cases q;refine⟨kc,P',gX,rfl,q1,q2,q3,q4,aj ..,ah _ (aj ..),λx hx=> ?_⟩;obtain⟨c',z1,z2,z3⟩:=q5 x hx;exact⟨c',z1,z2,z3,ah _ (ah _ (d4.mpr ⟨x,hx,by rw[z1]⟩))⟩
 have Qw:∀b∈[ns,md,r.fi,r.t6,c0,c1]++more,HD h' b:=λb hb=>by
  rcases au.mp hb with hb|hb
  ·simp only [aK,lH,Rr]at hb;rcases hb with rfl|rfl|rfl|rfl|rfl|rfl
   ·exact⟨_,SQ,λcd z=>by cases z⟩
   ·exact⟨_,SU,λcd z=>by cases z⟩
   ·exact⟨_,f0,λcd z=>by cases z⟩
   ·exact⟨_,f1,λcd z=>by cases z⟩
   ·exact qH r0
   ·exact qH r1
  ·exact Qc b hb
 have Jc:∀b,b∈[ns,md,r.fi,r.t6,c0,c1]++more->(b∈κ\/h.get? b=none)->b∈κ++([ns,md,r.fi,r.t6,c0,c1]++more).filter λb=>(h.get? b).isNone:=λb hb hq=>by
  rcases hq with q|q
  ·exact aI _ q
  ·exact aW _ (gx.mpr ⟨hb,by rw[q];rfl⟩)
 refine⟨a,([ns,md,r.fi,r.t6,c0,c1]++more).filter λb=>(h.get? b).isNone,rfl, ?_⟩;have kn:∀b,X.h₀.get? b=none->b≠X.kP:=λb e q=>by
  obtain⟨o,e'⟩:=R.iz _ EG;rw[q,e']at e;cases e
 refine bJ.Km EG Cf H da ⟨_,ea⟩ hk ⟨_,T.tab⟩ rfl rfl (λb hb=> ?_) ⟨λc P q m=> ?_, ?_⟩ ⟨ac,Sub.append _ _ _ _ HX,ns,md,B,r,tk,h1,t1,h2,t2,tm,ea,SQ,Jc _ (by simp) (.inr QX),SU,Jc _ (by simp) (.inr QY), ?_, ?_⟩
 ·obtain⟨m1,m2⟩:=gx.mp hb;obtain⟨o,e1,e2⟩:=Qw b m1;refine⟨Option.isNone_iff_eq_none.mp m2,⟨o,e1⟩, ?_⟩;rintro rfl;rw[ea]at e1;cases e1;exact e2 _ rfl
 ·obtain⟨Dh,e2,ZF,r2⟩:=R.tabs.lam c P q m;refine⟨Dh,hk _ _ (G.LK c P q m) e2,ZF,λpos cv hc=> ?_⟩;obtain⟨c',rfl,hm,hr⟩:=r2 pos cv hc;exact⟨c',rfl,aI _ hm,eu hr (hk _ · (kn _ (R.sS _ hm)))⟩
 ·refine⟨ps,T.tab,T.tri,λcv hc=> ?_⟩;obtain⟨kc,P',gX,rfl,q1,q2,q3,q4,q5,q6,q7⟩:=hin cv hc;refine⟨kc,P',gX,rfl,Jc _ (aW _ q5) q1,Jc _ (aW _ q6) q2,q3,q4,λx hx=> ?_⟩;obtain⟨c',z1,z2,z3,z4⟩:=q7 x hx;exact⟨c',z1,z2,Jc _ (aW _ z4) z3⟩
 ·exact⟨QW,c0,Q0,f0,Jc _ (by simp) (.inr WM),r0,Jc _ (by simp) VC⟩
 ·exact⟨QV,c1,QZ,f1,Jc _ (by simp) (.inr dflt),r1,Jc _ (by simp) VB⟩
end
end
section
open PySem.W.X
def xj (p:Nat->Pos) (d:Nat->FD) (q:Nat->Pos):List Stmt:=[.ClassDef "K" [.Name "object" (q 0)] [] (tJ p d) [] [] jP none "K" ["obj"] (q 1),.Return (some (.Name "K" (q 2))) (q 3)]
def j9:Scope:={kind:= .function,names:=[("mycmp",.cell),("K",.local),("object",.globalImplicit)],isGenerator:=false,isCoroutine:=false,more:=[]}
def qi (pp:Pos):Arguments:={posonlyargs:=[],args:=[{arg:="mycmp",annotation:=none,pos:=pp}],vararg:=none,kwonlyargs:=[],kw_defaults:=[],kwarg:=none,defaults:=[]}
structure CF (X:Bx):Prop where
 k:HE X
 fn:∃o fd p q pp,X.h₀.get? X.P.dN=some o/\X.P.dN∉X.eX/\o.data= .func fd/\rX X fd ⟨qi pp,xj p X.kd q,j9,[],none⟩ []/\fd.code= .ref X.kC/\X.h₀.CodeRec (.ref X.kC) fd.qualname/\fd.qualname="cmp_to_key"/\q 1=X.kpos
 bu:∃mb,X.h₀.Ns builtinsNs mb/\mb "object"=some (.type "object")/\mb "__build_class__"=some (.builtin "__build_class__")/\X.mg "object"=none
section
variable {X:Bx} {A:Around} {fe:cn} {env:Env}
theorem Ht{t:Sem Value} {M:Model} {Q:Args->Shared->Prop} (h:wpAny M A t (λv s₁=>Q ⟨[v],[]⟩ s₁) E s):wpAny M A (evalArgs f false [(false,t)] []) Q E s:=by
 unfold evalArgs;dsimp only;have sp:spliced [(false,t)]=(t>>=λv=>holding [v] (pure [])>>=λr=>pure ([v]++r)):=by
  unfold spliced spliced;simp [pure_bind]
 rw[sp];refine aa (aa (ao h (λva s₁ fF=> ?_) λ_ _ z=>z));refine aa (aQ (ae (ae ?_)));refine aa (ae ?_);dsimp only;refine aQ ?_;rw[aD (by rfl)];have ea:evalAll (List.map (λx=>x.2) ([]:List (Option Str×Sem Value)))=pure []:=rfl;rw[ea];refine aa (ae ?_);exact aa (ae (ae fF))
theorem A8(G:bZ X) (GD:CF X) (wZ:A.depth<recursionLimit) (gn:env.code= .ref X.kC) (hq:env.qual="cmp_to_key.<locals>.") (PY:fe.scope=j9) {p:Nat->Pos} {q:Nat->Pos} (wW:q 1=X.kpos):
  aU X A fe env 0 bg (exec (.ClassDef "K" [.Name "object" (q 0)] [] (tJ p X.kd) [] [] jP none "K" ["obj"] (q 1)) env) (do
   let i<-PM.b8 (fe.cells.lookup ("mycmp":Str))
   let r<-PM.alloc (.jb i)
   gO fe "K" (.ref r)
   PM.pure .next) FR:=by
 intro ρ κ l σ s Cf H _ r st e;obtain⟨i,hi,e2⟩:=jF e;clear e
 replace e2:=bY e2
 obtain⟨mb,b1,b2,b3,b4⟩:=GD.bu;obtain⟨mb0,g1,g2,g3,g4,g5⟩:=G.glob;have fw:∀x k,j9.names.lookup x=some k->k≠ .free->k≠ .cell->env.kindOf x=some k:=λx k h1 h2 h3=>by
  have:=(Cf.env.names x).h;rw[PY,h1]at this;rcases this with z|⟨z|z,_⟩
  ·exact z.symm
  ·cases z;exact absurd rfl h2
  ·cases z;exact absurd rfl h3
 show wpAny (M X) A (evalAll (evalEach [] env)>>=_) _ _ s;refine aa (ae ?_);refine aa (c7 ?_);refine aa ?_
 ·unfold buildClassGuard;rw[Cf.env.bu];refine aa (j0 (Cf.rel.ns b1 g4) ?_);rw[b3];refine ae ?_;refine aa (aQ ?_);refine aa (Ht ?_);rw[eval_Name _ _ _ (by decide)];refine aa (c7 ?_);refine W8 Cf.env.kind (fw "object" .globalImplicit rfl (by decide) (by decide)) ?_;unfold loadGlobal;rw[Cf.env.glob,Cf.env.bu];refine aa (j0 (Cf.rel.ns g1 g3) ?_);rw[b4];refine aa (j0 (Cf.rel.ns b1 g4) ?_);rw[b2];refine ae ?_;refine aa (c7 ?_);refine aQ ?_;have hqn:qualnameIn env "K" "K"=fg:=by
   unfold qualnameIn;rw[fw "K" .local rfl (by decide) (by decide),hq];rfl
  rw[hqn,wW];refine ao (A9 G GD.k Cf H hi gn wZ) ?_ λ_ _ z=>z;rintro v s' ⟨a,κ',rfl,N⟩;refine aa (ae ?_);refine aa (c7 ?_);rcases aH e2 with⟨⟨⟩,s2,e3,e4⟩|⟨k,e3,_⟩
  case inr=>cases qy e3
  cases e4;refine aa (ao (ji "K" (.ref σ.length) (.ref a) (ρ++[a]) (κ++κ') l (σ++[.jb i]) s' N.cfg N.hok ⟨a,Cf.newest,rfl⟩ _ _ e3) ?_ λv s' q=>absurd q fE);rintro _ s3 ⟨_,iR,iS,_,_,N2⟩;exact ae ⟨_,iR,iS,rfl,trivial,N.trans N2⟩
def Q2 (P:Prog) (fe:cn):PM dk:=do
 let f<-(do
   let i<-PM.b8 (fe.cells.lookup ("mycmp":Str))
   let r<-PM.alloc (.jb i)
   gO fe "K" (.ref r)
   PM.pure dk.next:PM dk)
 match f with
 |dk.next=>(do
  let v<-kF ⟨P,⟨λ_ _=>PM.stuck,λ_ _=>PM.stuck⟩,0,0⟩ fe "K"
  PM.pure (.ret v))
 |f=>PM.pure f
theorem JQ(G:bZ X) (GD:CF X) (wZ:A.depth<recursionLimit) (gn:env.code= .ref X.kC) (hq:env.qual="cmp_to_key.<locals>.") (PY:fe.scope=j9) {p:Nat->Pos} {q:Nat->Pos} (wW:q 1=X.kpos):
  aU X A fe env 0 bg (execs (xj p X.kd q) env) (Q2 X.P fe) FR:=by
 unfold xj;rw[W9];unfold Q2;refine aU.fP (A8 G GD wZ gn hq PY wW) λf g=> ?_;intro ρ κ l σ s Cf H P rr st e;have P:FR ρ f g:=P;cases g with
 |next=>
  cases f<;>first|exact P.elim|skip
  dsimp only at e ⊢;rw[W9];have t:aU X A fe env 0 bg (exec (.Return (some (.Name "K" (q 2))) (q 3)) env>>=λf=>match f with| .next=>execs [] env|f=>pure f) (do
    let v<-kF ⟨X.P,⟨λ_ _=>PM.stuck,λ_ _=>PM.stuck⟩,0,0⟩ fe "K"
    PM.pure (dk.ret v)) FR:=by
   rw[exec_Return_some,eval_Name _ _ _ (by decide)];simp only [bind_assoc,pure_bind];refine aU.d5 (aU.d5 ?_);refine aU.fP (mj G ⟨X.P,⟨λ_ _=>PM.stuck,λ_ _=>PM.stuck⟩,0,0⟩ rfl "K") λv x=> ?_;exact aU.pure λρ h=>h
  exact t ρ κ l σ s Cf H trivial rr st e
 |_=>
  cases f<;>first|exact P.elim|skip
  cases e;exact ae ⟨_,ρ,κ,rfl,P,bJ.refl Cf H⟩
theorem qj{m:PM α} {f:α->PM β} {a:α} (h:m st=some (.ok a,st')):(m>>=f) st=f a st':=by
 show PM.bind m f st=_;unfold PM.bind;rw[h]
theorem CK{m:PM α} {a:α} (h:m ⟨l,st.hp⟩=some (.ok a,st')):PM.within l m st=some (.ok a,⟨st.loc,st'.hp⟩):=by
 unfold PM.within;rw[h]
theorem Q1(P:Prog) (pp:Pos) (b:List Stmt) (g:AV) (l:Loc) (σ:Hp):sM ⟨qi pp,b,j9,[],none⟩ [] [g] (Q2 P) ⟨l,σ⟩=some (.ok (.ref (σ++[bP.cell (some g)]).length),⟨l,σ++[.cell (some g)]++[.jb σ.length]⟩):=by
 have h1:(σ++[bP.cell none])[σ.length]? =some (bP.cell none):=by simp
 have h2:(σ++[bP.cell none]).set σ.length (.cell (some g))=σ++[.cell (some g)]:=by simp
 have eb:mK (qi pp) [] [g] ⟨l,σ⟩=some (.ok [(("mycmp":Str),g)],⟨l,σ⟩):=rfl;have ec:dJ j9.names [] ⟨l,σ⟩=some (.ok [(("mycmp":Str),σ.length)],⟨l,σ++[.cell none]⟩):=rfl;have es:storeAll ⟨j9,[(("mycmp":Str),σ.length)],none⟩ [(("mycmp":Str),g)] ⟨[],σ++[.cell none]⟩=some (.ok (),⟨[],σ++[.cell (some g)]⟩):=by
  refine(qj (a:=()) (st':=⟨[],σ++[.cell (some g)]⟩) ?_).trans rfl;show(PM.obj σ.length>>=λo=>match o with| .cell _=>PM.cm σ.length (.cell (some g))|_=>PM.stuck:PM Unit) ⟨[],σ++[.cell none]⟩=_
  rw[kD (o:= .cell none) h1];show PM.cm _ _ _=_;unfold PM.cm;rw[aD (by simp)];dsimp only;rw[h2]
 have ek:Q2 P ⟨j9,[(("mycmp":Str),σ.length)],none⟩ ⟨[],σ++[.cell (some g)]⟩=some (.ok (.ret (.ref (σ++[bP.cell (some g)]).length)),⟨[(("K":Str),.ref (σ++[bP.cell (some g)]).length)],σ++[.cell (some g)]++[.jb σ.length]⟩):=rfl;unfold sM;rw[qj eb,qj ec];refine CK (st:=⟨l,σ++[.cell none]⟩) (a:=AV.ref (σ++[bP.cell (some g)]).length) (st':=⟨[(("K":Str),.ref (σ++[bP.cell (some g)]).length)],σ++[.cell (some g)]++[.jb σ.length]⟩) ?_;rw[qj es,qj ek];rfl
theorem Bl.of (G:bZ X) (GD:CF X):Bl X:=by
 obtain⟨o,fd,p,q,pp,h1,h2,h3,h4,h5,h6,h7,h8⟩:=GD.fn;refine⟨⟨o,fd,h1,h3,h2⟩,λA fe env g v hr=> ?_⟩;intro ρ κ l σ s C H hv r st e;have e':(sM ⟨qi pp,xj p X.kd q,j9,[],none⟩ [] [g] (Q2 X.P)) ⟨l,σ⟩=some (r,st):=by
  rw[Q1];rw[<-e];rfl
 have hc0:=eu h6 λo e=>C.rel.keep _ _ e G.kC.2;refine gQ (dU (uc G (k:=1) (hr.less (by omega)) h4 (λA' ir bE pj hT gn Kq PY=> ?_) C H (C.rel.keep _ _ h1 h2) h3 (by rw[h5];exact hc0) (cl:=[]) trivial (xs:=[g]) (vs:=[v]) ⟨hv,trivial⟩ e') λq s' ⟨v,h1,h2⟩=>by subst h1;exact h2);rw[h7]at Kq;exact JQ G GD (eT (by omega) pj.d) (gn.trans h5) Kq PY h8
end
end
section
open PySem.W.X
section
variable {X:Bx} {A:Around}
def qK (pp:Pos):Arguments:={posonlyargs:=[],args:=[{arg:="script",annotation:=none,pos:=pp}],vararg:=none,kwonlyargs:=[],kw_defaults:=[],kwarg:=none,defaults:=[]}
theorem Hm{pp:Pos} (hp:fd.params=qK pp) (hd:fd.defaults= .none):bindArgs fd ⟨[v],[]⟩=pure [(("script":Str),v)]:=by
 obtain⟨a1,a2,a3,a4,a5,a6,a7,a8,a9,a10,a11,a12⟩:=fd;simp only at hp hd
 subst hp hd;kernel_rfl
theorem Fn(G:bZ X) (GF:rL X) (GK:Ox X) (GC:Bl X) (hh:A.handled=none) (HV:zj X A [] [] s) (iM:fk A (4*k+3)) {fa:Addr} (ho:s.heap.get? fa=some o) (DY:o.data= .func fd) (F:rX X fd fi [])
  (zC:fd.code= .ref c) (Ol:s.heap.CodeRec (.ref c) fd.qualname) (R:Rel X [] [] [] s) {pp:Pos} (hp:fi.params=qK pp) (hd:fd.defaults= .none) (wY:fi.rJ=[]) {x:AV} {v:Value} (hv:bC [] x v) {r:Res AV} {st:AS}
  (e:cX ⟨X.P,gj X.P fuel k,fuel,0⟩ fi [] [x] ⟨[],[]⟩=some (r,st)):
  codeAny (M X) A (.call (.ref fa) ⟨[v],[]⟩) (λq s'=>∃w y ρ κ,q= .ok (.ret w)/\r= .ok y/\bC ρ y w/\Rel X ρ κ st.hp s') s:=by
 unfold cX at e;rcases aH e with⟨bs,jD,e0,e⟩|⟨k',e0,_⟩
 case inr=>obtain⟨_,q,_⟩:=kJ e0;cases q
 have eb:bs=[(("script":Str),x)]/\jD=⟨[],[]⟩:=by
  rw[hp,wY]at e0;have z:mK (qK pp) [] [x] ⟨[],[]⟩=some (.ok [(("script":Str),x)],⟨[],[]⟩):=rfl;rw[z]at e0;cases e0;exact⟨rfl,rfl⟩
 obtain⟨rfl,rfl⟩:=eb;rcases aH e with⟨cells,LW,e1,e⟩|⟨k',e1,_⟩
 case inr=>obtain⟨_,q,_⟩:=ew e1;cases q
 obtain⟨res,HN,e5,rfl,rfl⟩:=iY e;clear e;rcases aH e5 with⟨⟨⟩,HO,e2,e⟩|⟨k',e2,_⟩
 case inr=>cases kT e2
 rcases aH e with⟨w7,OZ,e3,e⟩|⟨k',e3,q⟩
 case inr=>cases q
 have e4:HN=OZ/\(∀x,w7= .ret x->res=x)/\((∀x,w7≠ .ret x)->res= .none):=by
  cases w7<;>cases e<;>refine⟨rfl, ?_, ?_⟩
  all_goals first
   | (intro x q;cases q;rfl)
   | (intro _;rfl)
   | (intro q;exact absurd rfl (q _))
   | (intro x q;cases q)
 obtain⟨rfl,rH,oj⟩:=e4;refine OA (eT (by omega) iM.d) ho DY (F.scope▸F.co) (F.scope▸F.gen) F.body (by rw[zC];exact Ol) ?_;refine bo (Hm (F.params.trans hp) hd) ?_;rw[F.scope,F.glob,F.clos,F.bu];refine t7 (A:=A.in1) (lP:=fi.code) (around:=none) R ⟨HV.fs,HV.ok⟩ hh F.kind rfl (λo q=>nomatch q) F.code (cl:=[]) trivial (bs:=[(("script":Str),x)]) ⟨⟨rfl,hv⟩,trivial⟩ (l':=[]) (by exact e1) (by exact e2) λbE iR iS s2 AU C2 H2 E2 Oo=> ?_;have GP:bE.frame=some bE.locals:=by rw[AU];rfl
 refine⟨C2.rel.nolimit G,codeAny_func ?_⟩;obtain⟨C3,SD⟩:=(C2.around (A':=A) rfl).deeper GP;have H3:jq X (A.deeper bE) bE 0 iR iS s2:=⟨λ_=>hh,λq=>absurd q (by decide)⟩;have K:=yY G (fuel:=fuel) (k:=k) (A:=A.deeper bE) (Pq G GF GK GC fuel k) (iM.deeper (k:=4*k+2));refine ao (nS K (Cfg.top (C2.around (A':=A) rfl) bE) fi.body iR iS HO.loc HO.hp s2 C3 H3 trivial _ _ e3) ?_ ?_
 case pI=>rintro v s3 ⟨_,_,_,q,_⟩;cases q
 rintro f s3 ⟨QQ,pn,qv,q,hf,N3⟩;cases q;have GA:∀w:Value,(∀v,f= .ret v->w=v)->((∀v,f≠ .ret v)->w= .none)->bC pn res w:=by
  intro w PL MB;cases w7 with
  |ret x=>cases f<;>first|exact hf.elim| (rw[rH x rfl,PL _ rfl];exact hf)
  |next=>cases f<;>first|exact hf.elim| (rw[oj (λx q=>nomatch q),MB (λx q=>nomatch q)];rfl)
  |brk=>cases f<;>first|exact hf.elim| (rw[oj (λx q=>nomatch q),MB (λx q=>nomatch q)];rfl)
  |cont=>cases f<;>first|exact hf.elim| (rw[oj (λx q=>nomatch q),MB (λx q=>nomatch q)];rfl)
 refine⟨_,res,pn,qv,rfl,rfl, ?_,N3.cfg.rel⟩;cases f with
 |ret v=>exact GA v (λw q=>Flow.ret.inj q) λq=>absurd rfl (q v)
 |_=>exact GA .none (λw q=>nomatch q) λ_=>rfl
end
end
section
open PySem.W.X
theorem BL{es:Array DictEntry} {ep:Nat} (n:h.Ns a m) (ho:h.get? a=some o) (hd:o.data= .dict es ep):∀x,m x=nsFind es x:=by
 obtain⟨o',es',uW,h1,h2,_,h3⟩:=n;rw[ho]at h1;cases h1;rw[hd]at h2;cases h2;exact λx=>(h3 x).symm
theorem lookup_mem{α β:Type} [BEq α] [LawfulBEq α] {x:α} {v:β}:∀{l:List (α×β)},l.lookup x=some v->(x,v)∈l
 | (y,w)::l,e=>by
  rw[az]at e;split at e
  ·rename_i h;cases e;rw[gT.mp h];exact aj ..
  ·exact ah _ (lookup_mem e)
def Frag.less (K:Frag) (T:List Addr):Frag:=K.filter λp=> !T.contains p.1
theorem rB{T:List Addr} {a:Addr}:∀{K:Frag},a∉T->(Frag.less K T).lookup a=K.lookup a
 |[],_=>rfl
 | (b,o)::K,h=>by
  unfold Frag.less;rw[fX];by_cases hb:a=b
  ·subst hb;rw[aD (by simpa using h),az,az,cj]
  ·have ih:=rB (K:=K) h;unfold Frag.less at ih;split
   ·rw[az,az,aP.mpr hb];exact ih
   ·rw[az,aP.mpr hb];exact ih
theorem less_none{T:List Addr} {a:Addr}:∀{K:Frag},a∈T->(Frag.less K T).lookup a=none
 |[],_=>rfl
 | (b,o)::K,h=>by
  have ih:=less_none (K:=K) h;unfold Frag.less at ih ⊢;rw[fX];split
  ·rename_i hc;rw[az];have:(a==b)=false:=by
    rw[aP];rintro rfl;simp [h]at hc
   rw[this];exact ih
  ·exact ih
theorem IU{K:Frag} {T:List Addr} (x:K.In h):(Frag.less K T).In h:=λa o e=>by
 by_cases ha:a∈T
 ·rw[less_none ha]at e;cases e
 ·rw[rB ha]at e;exact x a o e
theorem codeRec_of{K:Frag} (x:K.In h) {q:Str} {vs:Array Value} {t:Tok} (e:K.lookup c=some o) (d:o.data= .fields vs) (hq:vs[1]? =some (.str q t)):h.CodeRec (.ref c) q:=⟨c,o,vs,t,rfl,x _ _ e,d,hq⟩
def Wg (b:List Stmt) (i:Nat):FD:=match b[i]? with
 |some (.FunctionDef _ args body _ _ _ sc _ _ pos)=>⟨args,body,sc,pos⟩
 |_=>⟨⟨[],[],.none,[],[],.none,[]⟩,[],⟨.function,[],false,false,[]⟩,⟨0,0,0,0⟩⟩
def um (b:List Stmt) (i k:Nat):Pos:=match(b[i]?:Option Stmt)with
 |some (.Assign [t] v p)=>if k=0 then t.pos else if k=1 then v.pos else p
 |_=>⟨0,0,0,0⟩
def TR (b:List Stmt) (n:Nat):Pos:=if n<3 then um b 0 n else if n=3 then um b 1 0 else if n=4 then(match(b[1]?:Option Stmt)with
  |some (.Assign _ (.List [x] _) _)=>x.pos
  |_=>⟨0,0,0,0⟩)else if n=5 then um b 1 1 else if n=6 then um b 1 2 else um b 8 (n-7)
theorem kH{sc:Scope} {a b:Str} {cell:Addr} (hs:sc.names=[(a,.local),(b,.local),(("mycmp":Str),.free)]) (env:Env) (he:env.cells=[(("mycmp":Str),cell)]):closureFor sc env=pure [(("mycmp":Str),cell)]:=by
 have hc:cellOf env ("mycmp":Str)=pure cell:=by unfold cellOf;rw[he];rfl
 have q:closureFor sc env=((forIn sc.names ([]:List (Str×Addr)) fun(x:Str×NameKind) (r:List (Str×Addr))=>(if(x.2==NameKind.free)=true then(do let a<-cellOf env x.1;pure (ForInStep.yield ((x.1,a)::r)))else pure (ForInStep.yield r):Sem _))>>=λr=>pure r):=rfl;rw[q,hs];simp only [dX,eG];rw[aC (by decide),pure_bind];dsimp only;rw[aC (by decide),pure_bind];dsimp only;rw[aD (by decide),hc];simp only [pure_bind]
theorem DF{d:Nat->FD} (h:((List.range 6).all λi=>(List.range 6).all λj=>i==j|| !((d i).pos.line==(d j).pos.line&&(d i).pos.col==(d j).pos.col))=true):lA d:=by
 intro i j hi hj apart_at ⟨h1,h2⟩;have a:=ee.mp (ee.mp h i (dh.mpr hi)) j (dh.mpr hj);simp [apart_at,h1,h2]at a
end
section
local macro_rules | `(tactic|k_head)=> `(tactic|x_head)
set_option maxRecDepth 100000 in
set_option maxHeartbeats 0 in
open_top hd for PySem.Challenge.rw_ij0212_01
end
def bK {α:Type} (m:PM α) (Q:α->AS->Prop) (E:Exc->AS->Prop) (st:AS):Prop:=match m st with
 |some (.ok a,st')=>Q a st'
 |some (.exc k,st')=>E k st'
 | .none=>False
section
variable {α β:Type} {Q:α->AS->Prop} {E:Exc->AS->Prop} {st:AS}
theorem we{m:PM α} {a:α} (h:m st=some (.ok a,st')) (q:Q a st'):bK m Q E st:=by unfold bK;rw[h];exact q
theorem RB{m:PM α} {st:AS} (h:bK m Q (λ_ _=>False) st):∃a st',m st=some (.ok a,st')/\Q a st':=by
 unfold bK at h;split at h
 ·exact⟨_,_,by assumption,h⟩
 ·exact h.elim
 ·exact h.elim
theorem E5(m:PM β) (f:β->PM α):bK (m>>=f) Q E st=bK m (λa s=>bK (f a) Q E s) E st:=by
 show bK (PM.bind m f) Q E st=_;unfold bK PM.bind;cases m st with
 |none=>rfl
 |some p=>obtain⟨r,s⟩:=p;cases r<;>rfl
theorem OJ(a:α):bK (PM.pure a) Q E st=Q a st:=rfl
theorem NT (a:α):bK (Pure.pure a:PM α) Q E st=Q a st:=rfl
theorem NR:bK (PM.stuck:PM α) Q E st=False:=rfl
theorem NS(k:Exc):bK (PM.raise k:PM α) Q E st=E k st:=rfl
theorem Td{Q:Hp->AS->Prop}:bK PM.hp Q E ⟨l,σ⟩=Q σ ⟨l,σ⟩:=rfl
theorem OI(a:α):bK (PM.b8 (some a)) Q E st=Q a st:=rfl
theorem Il{o:bP} {Q:bP->AS->Prop} (h:σ[n]? =some o):bK (PM.obj n) Q E ⟨l,σ⟩=Q o ⟨l,σ⟩:=by
 unfold bK PM.obj;dsimp only;rw[h]
theorem CJ(o:bP) {Q:Nat->AS->Prop}:bK (PM.alloc o) Q E ⟨l,σ⟩=Q σ.length ⟨l,σ++[o]⟩:=rfl
theorem zF{o:bP} {Q:Unit->AS->Prop} (h:n<σ.length):bK (PM.cm n o) Q E ⟨l,σ⟩=Q () ⟨l,σ.set n o⟩:=by
 unfold bK PM.cm;dsimp only;rw[aD h]
theorem Lv(x:Str) (v:AV) {Q:Unit->AS->Prop}:bK (PM.gd x v) Q E ⟨l,σ⟩=Q () ⟨hV x v l,σ⟩:=rfl
theorem zG{x:Str} {v:AV} {Q:AV->AS->Prop} (h:l.lookup x=some v):bK (PM.ey x) Q E ⟨l,σ⟩=Q v ⟨l,σ⟩:=by
 unfold bK PM.ey;dsimp only;rw[h]
theorem zE(l':Loc) (m:PM α):bK (PM.within l' m) Q E ⟨l,σ⟩=bK m (λa s=>Q a ⟨l,s.hp⟩) (λ_ _=>False) ⟨l',σ⟩:=by
 unfold bK PM.within;dsimp only;cases m ⟨l',σ⟩with
 |none=>rfl
 |some p=>obtain⟨r,s⟩:=p;cases r<;>rfl
theorem E1(m:PM α):bK (PM.sure m) Q E st=bK m Q (λ_ _=>False) st:=by
 unfold bK PM.sure;cases m st with
 |none=>rfl
 |some p=>obtain⟨r,s⟩:=p;cases r<;>rfl
theorem xE(m:PM α) {Q:Res α->AS->Prop}:bK (PM.attempt m) Q E st=bK m (λa s=>Q (.ok a) s) (λk s=>Q (.exc k) s) st:=by
 unfold bK PM.attempt;cases m st with
 |none=>rfl
 |some p=>obtain⟨r,s⟩:=p;cases r<;>rfl
theorem E4{m:PM α} {Q':α->AS->Prop} {E':Exc->AS->Prop} (h:bK m Q E st) (q:∀a s,Q a s->Q' a s) (e:∀k s,E k s->E' k s):bK m Q' E' st:=by
 unfold bK at h ⊢;split at h
 ·exact q _ _ h
 ·exact e _ _ h
 ·exact h
theorem RE{c:Prop} [Decidable c] {m n:PM α}:bK (if c then m else n) Q E st=if c then bK m Q E st else bK n Q E st:=by
 split<;>rfl
theorem RC{c:Prop} [Decidable c] {m n:PM α} (h:c):bK (if c then m else n) Q E st=bK m Q E st:=by rw[aD h]
theorem RD{c:Prop} [Decidable c] {m n:PM α} (h:¬c):bK (if c then m else n) Q E st=bK n Q E st:=by rw[aC h]
end
def dfl:fN:=⟨⟨[],[],.none,[],[],.none,[]⟩,[],⟨.function,[],false,false,[]⟩,[],.none⟩
def fnAt (b:List Stmt) (i:Nat) (ds:List AV) (c:Option Addr):fN:=match b[i]? with
 |some (.FunctionDef _ args body _ _ _ sc _ _ _)=>⟨args,body,sc,ds,c⟩
 |_=>dfl
def clsAt (b:List Stmt) (i:Nat):List Stmt:=match b[i]? with
 |some (.ClassDef _ _ _ body _ _ _ _ _ _ _)=>body
 |_=>[]
def Hl (b:List Stmt) (i:Nat):List Stmt:=match b[i]? with
 |some (.FunctionDef _ _ body _ _ _ _ _ _ _)=>body
 |_=>[]
abbrev PW:PySem.Program:=PySem.Challenge.pw_ij0212_01
abbrev PB:List Stmt:=PW.main.body
def wQ:List Stmt:=clsAt (Hl PB 8) 0
def tG:fN:=fnAt PB 21 [] none
def G8:List (Addr×fN):=[(36,fnAt (clsAt PB 4) 1 [] none),(73,fnAt (clsAt PB 6) 0 [.none] none),(80,fnAt (clsAt PB 6) 1 [] none),(87,fnAt (clsAt PB 6) 2 [] none),(92,fnAt (clsAt PB 6) 3 [] none),(99,fnAt (clsAt PB 6) 4 [] none),
 (106,fnAt (clsAt PB 6) 5 [] none),(120,fnAt (clsAt PB 6) 7 [] none),(127,fnAt (clsAt PB 6) 8 [] none),(157,fnAt PB 10 [.base 149] none),(164,fnAt PB 12 [] none),(171,fnAt PB 13 [] none),
 (176,fnAt PB 15 [] none),(181,fnAt PB 16 [] (some 180)),(188,fnAt PB 17 [] none),(193,fnAt PB 18 [] none),(198,fnAt PB 19 [] none),(203,fnAt PB 20 [] none),(208,tG)]
def ud:List (Addr×k7):=[(40,⟨["node","npredecessors","successors"],[],false,36,[]⟩),
 (137,⟨[],["_node2info","_ready_nodes","_npassedout","_nfinished"],true,73,[("_get_nodeinfo",80),("add",87),("prepare",92),("get_ready",99),("is_active",106),("done",120),("_find_cycle",127)]⟩)]
def w3:List (Str×AV):=[("_NodeInfo",.base 40),("TopologicalSorter",.base 137),("cmp_to_key",.base 148),("_initial_missing",.base 149),("reduce",.base 157),("sorted_list_difference",.base 164),("three_way_cmp",.base 171),
 ("_law_told",.base 176),("_law_lines",.base 181),("_law_corner",.base 188),("_law_passes",.base 193),("_law_laid",.base 198),("_law_from",.base 203),("_NODE_OUT",.int (-1)),("_NODE_DONE",.int (-2)),
 ("len",.bi "len"),("sum",.bi "sum"),("isinstance",.bi "isinstance"),("iter",.bi "iter"),("next",.bi "next"),("sorted",.bi "sorted"),("tuple",.ty "tuple"),("list",.ty "list"),("set",.ty "set"),("bool",.ty "bool"),("range",.ty "range"),
 ("IndexError",.ty "IndexError"),("StopIteration",.ty "StopIteration")]
def iL (sa:Addr) (xs:List Int):Prog:=
 {fns:=λa=>G8.lookup a,clss:=λa=>ud.lookup a,glob:=λx=>w3.lookup x,pV:=fnAt wQ 2 [] none,klt:=fnAt wQ 3 [] none,dN:=148,missing:=149,script:=some (sa,xs)}
section
open PySem.W.X
noncomputable abbrev GW (P:Params):Frag:=hd.Sr P
abbrev IX:List (Addr×Addr×Str):=[(180,178,"_law_lines.<locals>.")]
abbrev Y0:Addr:=147
abbrev ckP:Addr:=143
def XK (i:Nat):FD:=Wg wQ (i+2)
def YZ (n:Nat):Pos:=match n,Hl PB 8 with
 |0,.ClassDef _ [x] _ _ _ _ _ _ _ _ _::_=>x.pos
 |1,.ClassDef _ _ _ _ _ _ _ _ _ _ p::_=>p
 |2,[_,.Return (some x) _]=>x.pos
 |3,[_,.Return _ p]=>p
 |_,_=>⟨0,0,0,0⟩
noncomputable def Dq (P:Params) (a:Addr):Str->Option Value:=match(GW P).lookup a with
 |some o=>(match o.data with| .dict es _=>nsFind es|_=>λ_=>none)
 |none=>λ_=>none
noncomputable def X1 (w:World) (h:Heap) (os:OsState) (sa:Addr) (xs:List Int):Bx:=
 {prog:=PW,w:=w,h₀:=h,os:=os,P:=iL sa xs,tabs:=IX,kC:=Y0,kP:=ckP,kpos:=YZ 1,kd:=XK,mg:=Dq w.params 3,K:=Frag.less (GW w.params) [143,178]}
section
variable {w:World} {h:Heap} {os:OsState} {sa:Addr} {xs:List Int} (hK:(GW w.params).In h)
include hK
theorem OH(a:Addr) (o:Obj) (es:Array DictEntry) (ep:Nat) (e:(GW w.params).lookup a=some o) (hd:o.data= .dict es ep) (hm:Dq w.params a=nsFind es) (n:h.Ns a m):h.Ns a (Dq w.params a):=by
 obtain⟨o',es',uW,h1,h2,h3,h4⟩:=n;have ho:=hK _ _ e;rw[ho]at h1;cases h1;rw[hd]at h2;cases h2;exact⟨o,es,ep,ho,hd,h3,λx=>by rw[hm]⟩
theorem Lk:∀p∈G8,∃o fd c,h.get? p.1=some o/\p.1∉(X1 w h os sa xs).eX/\o.data= .func fd/\rX (X1 w h os sa xs) fd p.2 []/\fd.code= .ref c/\c∉(X1 w h os sa xs).eX/\h.CodeRec (.ref c) fd.qualname:=by
 have none_:∀(a c:Addr) (fi:fN) (o:Obj) (fd:FuncData) (oc:Obj) (vs:Array Value) (t:Tok),(GW w.params).lookup a=some o->o.data= .func fd->a∉[143,178]->c∉[143,178]->fd.code= .ref c->(GW w.params).lookup c=some oc->oc.data= .fields vs->vs[1]? =some (.str fd.qualname t)->
   rX (X1 w h os sa xs) fd fi []->∃o fd c,h.get? a=some o/\a∉(X1 w h os sa xs).eX/\o.data= .func fd/\rX (X1 w h os sa xs) fd fi []/\fd.code= .ref c/\c∉(X1 w h os sa xs).eX/\h.CodeRec (.ref c) fd.qualname:=by
  intro a c fi o fd oc vs t e1 e2 e3 e4 e5 e6 e7 e8 F;exact⟨o,fd,c,hK _ _ e1,e3,e2,F,e5,e4,codeRec_of hK e6 e7 e8⟩
 have plain:∀(a c:Addr) (fi:fN) (o:Obj) (fd:FuncData) (oc:Obj) (vs:Array Value) (t:Tok),(GW w.params).lookup a=some o->o.data= .func fd->a∉[143,178]->c∉[143,178]->fd.code= .ref c->(GW w.params).lookup c=some oc->oc.data= .fields vs->vs[1]? =some (.str fd.qualname t)->
   fd.params=fi.params->fd.body= .stmts fi.body->fd.scope=fi.scope->fd.globals=mainGlobals->fd.closure=[]->fd.builtins=builtinsNs->fd.defaults= .none->fi.rJ=[]->fi.scope.isCoroutine=false->fi.scope.isGenerator=false->fi.scope.kind= .function->fi.code=none->
   ∃o fd c,h.get? a=some o/\a∉(X1 w h os sa xs).eX/\o.data= .func fd/\rX (X1 w h os sa xs) fd fi []/\fd.code= .ref c/\c∉(X1 w h os sa xs).eX/\h.CodeRec (.ref c) fd.qualname:=by
  intro a c fi o fd oc vs t e1 e2 e3 e4 e5 e6 e7 e8 f1 f2 f3 f4 f5 f6 f7 f8 f9 G9 JI SN;exact none_ a c fi o fd oc vs t e1 e2 e3 e4 e5 e6 e7 e8 ⟨f1,f2,f3,f4,f5,f6,.inl ⟨f7,f8⟩,f9,G9,JI,λc q=>by rw[SN]at q;cases q⟩
 unfold G8;repeat' (refine d9.mpr ⟨?_, ?_⟩)
 all_goals first
  |exact fH _
  |exact plain _ _ _ _ _ _ _ _ rfl rfl (by decide) (by decide) rfl rfl rfl rfl rfl rfl rfl rfl rfl rfl rfl rfl rfl rfl rfl rfl
  |exact none_ _ _ _ _ _ _ _ _ rfl rfl (by decide) (by decide) rfl rfl rfl rfl ⟨rfl,rfl,rfl,rfl,rfl,rfl,.inr ⟨_,[.none],0,rfl,(show _∉[143,178] by decide),hK _ _ rfl,λ_=>⟨rfl,trivial⟩⟩,rfl,rfl,rfl,λc q=>by cases q⟩
  |exact none_ _ _ _ _ _ _ _ _ rfl rfl (by decide) (by decide) rfl rfl rfl rfl ⟨rfl,rfl,rfl,rfl,rfl,rfl,.inr ⟨_,[.ref 149],0,rfl,(show _∉[143,178] by decide),hK _ _ rfl,λ_=>⟨rfl,trivial⟩⟩,rfl,rfl,rfl,λc q=>by cases q⟩
  |exact none_ _ _ _ _ _ _ _ _ rfl rfl (by decide) (by decide) rfl rfl rfl rfl ⟨rfl,rfl,rfl,rfl,rfl,rfl,.inl ⟨rfl,rfl⟩,rfl,rfl,rfl,λc q=>by cases q;exact⟨rfl,_,aj ..⟩⟩
theorem EZ:rL (X1 w h os sa xs):=by
 refine⟨λa fi e=>Lk hK _ (lookup_mem e),λc ci e=> ?_⟩;have:∀p∈ud,makesIn (X1 w h os sa xs).K p.1=true/\findIn (X1 w h os sa xs).K (.ref p.1) "__init__"=some (some (.ref p.2.init))/\typeIn (X1 w h os sa xs).K (.ref p.2.init)=some (.type "function"):=by
  unfold ud;repeat' (refine d9.mpr ⟨?_, ?_⟩)
  all_goals first
   |exact fH _
   |exact⟨by kernel_rfl,by kernel_rfl,by kernel_rfl⟩
 exact this _ (lookup_mem e)
omit hK in
theorem Lr:Ox (X1 w h os sa xs):=⟨rfl,rfl,λi hi=>by
 match i,hi with
 |0,_=>exact⟨rfl,rfl,rfl⟩
 |1,_=>exact⟨rfl,rfl,rfl⟩⟩
omit hK in
theorem Lp:HE (X1 w h os sa xs):=by
 refine⟨λcell=>⟨rfl,rfl,λenv=>rfl,λenv _=>by kernel_rfl⟩,λcell i h1 h2=> ?_⟩
 match i,h1,h2 with
 |1,_,_=>exact⟨rfl,rfl,λenv=>rfl,kH rfl⟩
 |2,_,_=>exact⟨rfl,rfl,λenv=>rfl,kH rfl⟩
 |3,_,_=>exact⟨rfl,rfl,λenv=>rfl,kH rfl⟩
 |4,_,_=>exact⟨rfl,rfl,λenv=>rfl,kH rfl⟩
 |5,_,_=>exact⟨rfl,rfl,λenv=>rfl,kH rfl⟩
theorem Lq(hb:h.Ns builtinsNs mb):CF (X1 w h os sa xs):=by
 refine⟨Lp,⟨_,_,TR wQ,YZ,_,hK _ _ rfl,(show(148:Addr)∉[143,178] by decide),rfl,⟨rfl,rfl,rfl,rfl,rfl,rfl,.inl ⟨rfl,rfl⟩,rfl,rfl,rfl,λc q=>by cases q⟩,rfl,codeRec_of hK rfl rfl rfl,rfl,rfl⟩,⟨mb,hb, ?_, ?_,by kernel_rfl⟩⟩
 ·rw[BL hb (hK _ _ rfl) rfl];kernel_rfl
 ·rw[BL hb (hK _ _ rfl) rfl];kernel_rfl
omit hK in
theorem Ln:∀p∈ud,Lc (X1 w h os sa xs).K p.1 p.2:=by
 unfold ud;repeat' (refine d9.mpr ⟨?_, ?_⟩)
 all_goals first
  |exact fH _
  |skip
 ·refine{ga:=by kernel_rfl,QK:=by kernel_rfl,sa:=by kernel_rfl,plain:=by kernel_rfl,cd:=by kernel_rfl,BD:=by kernel_rfl,attrs:=λx m=>(nomatch m),slots:=λi x e=> ?_,meths:=λx f e=>(nomatch e),few:=by decide,n0:=λq=>absurd rfl q}
  match i,e with
  |0,e=>cases e;exact⟨_,⟨rfl,rfl,rfl,rfl,rfl⟩⟩
  |1,e=>cases e;exact⟨_,⟨rfl,rfl,rfl,rfl,rfl⟩⟩
  |2,e=>cases e;exact⟨_,⟨rfl,rfl,rfl,rfl,rfl⟩⟩
  |i+3,e=>cases e
 ·refine{ga:=by kernel_rfl,QK:=by kernel_rfl,sa:=by kernel_rfl,plain:=by kernel_rfl,cd:=by kernel_rfl,BD:=by kernel_rfl,attrs:= ?_,slots:=λi x e=>(nomatch e),meths:=λx f e=> ?_,few:=by decide,n0:=λ_=>rfl}
  ·dsimp only;repeat' (refine d9.mpr ⟨by kernel_rfl, ?_⟩)
   exact fH _
  ·have all:∀p∈([("_get_nodeinfo",80),("add",87),("prepare",92),("get_ready",99),("is_active",106),("done",120),("_find_cycle",127)]:List (Str×Addr)),findIn (X1 w h os sa xs).K (.ref 137) p.1=some (some (.ref p.2))/\typeIn (X1 w h os sa xs).K (.ref p.2)=some (.type "function"):=by
    repeat' (refine d9.mpr ⟨⟨by kernel_rfl,by kernel_rfl⟩, ?_⟩)
    exact fH _
   exact all _ (lookup_mem e)
theorem Ik{mg:Str->Option Value} (hg:h.Ns mainGlobals mg) (hb:h.Ns builtinsNs mb) (hs:∃vs,h.IsList sa vs.toArray/\IntsAre vs xs) (hx:xs.length<=1000) (PZ:sa∉[143,178]) (hT:TabsAt [(147,143),(180,178)] h):bZ (X1 w h os sa xs):=by
 have sq:=BL hb (hK _ _ rfl) rfl;have Sn:h.Ns mainGlobals (Dq w.params 3):=OH hK mainGlobals _ _ _ rfl rfl rfl hg;refine{glob:=⟨mb,Sn,hb,show _∉[143,178] by decide,show _∉[143,178] by decide,λx v e=> ?_⟩,st:= ?_,kC:=⟨(hT _ (aj ..)).1,show Y0∉[143,178] by decide⟩,lam:= ?_,nm:=⟨_,rfl⟩,bu:= ?_,Y1:= ?_,miss:= ?_,script:= ?_,OW:= ?_,LK:= ?_,zv:=IU hK,Pu:=λP hP=>less_none hP,cls:=λc ci e=>Ln _ (lookup_mem e),LQ:=⟨_,hK _ _ rfl⟩,lA:=DF (d:=XK) (by decide+kernel)}
 ·have all:∀p∈w3,∃rv,(∀ρ,bC ρ p.2 rv)/\(Dq w.params 3 p.1=some rv\/(Dq w.params 3 p.1=none/\mb p.1=some rv)):=by
   unfold w3;repeat' (refine d9.mpr ⟨?_, ?_⟩)
   all_goals first
    |exact fH _
    |exact⟨.ref _,λρ=>rfl,.inl (by kernel_rfl)⟩
    |exact⟨.builtin _,λρ=>rfl,.inr ⟨by kernel_rfl,by rw[sq];kernel_rfl⟩⟩
    |exact⟨.type _,λρ=>rfl,.inr ⟨by kernel_rfl,by rw[sq];kernel_rfl⟩⟩
    |exact⟨_,λρ=>⟨_,rfl⟩,.inl rfl⟩
  exact all _ (lookup_mem e)
 ·exact⟨λ_=>none,⟨_,#[],0,hK _ _ rfl,rfl,(λe he=>by simp at he),λname=>rfl⟩,rfl,rfl,show _∉[143,178] by decide⟩
 ·intro c P q m;simp only [X1,aA]at m;cases m;exact⟨(hT _ (ah _ (aj ..))).1,show _∉[143,178] by decide⟩
 ·intro P hP;have hP:P∈[143,178]:=hP;refine⟨4,_,rfl,by decide,by decide, ?_,hK _ _ rfl,rfl,rfl,rfl⟩;rintro rfl;exact absurd hP (by decide)
 ·intro bm e;have e':some (Value.ref 4)=some (.ref bm):=e;cases e';exact show _∉[143,178] by decide
 ·exact⟨show 149∉[143,178] by decide,_,hK _ _ rfl,λq=>absurd (c6 q) (by decide)⟩
 ·intro b ns e;cases e;obtain⟨vs,h1,h2⟩:=hs;exact⟨PZ,vs,h1,h2,hx⟩
 ·intro c P q c' P' q' m m' _;simp only [X1,aA]at m m';cases m;cases m';rfl
 ·intro c P q m;simp only [X1,aA]at m;cases m;exact show(178:Nat)≠143 by decide
end
end
section
open PySem.W.X
theorem Ij{P:Params} (hK:(GW P).In h):TabsAt [(147,143),(180,178)] h:=by
 refine d9.mpr ⟨⟨codeHd_of_K hK (by kernel_rfl),hK _ _ rfl⟩,d9.mpr ⟨⟨codeHd_of_K hK (by kernel_rfl),hK _ _ rfl⟩,fH _⟩⟩
theorem Aq{T:List (Addr×Addr)} (hT:TabsAt T h) {sa:Addr} {its:Array Value} (hL:h.IsList sa its):sa∉T.map (·.2):=λm=>by
 obtain⟨q,hq,rfl⟩:=aR.mp m;have e:=(hT q hq).2;obtain⟨o,h0,h1,h2,h3⟩:=hL;rw[e]at h0;cases h0;cases h1
theorem Df{T:List (Addr×Addr)} (hT:TabsAt T s.heap) (h0:X.h₀=s.heap) (ho:X.os=s.os) (hg:s.gens= #[]) (hm:∀P∈X.eX,P∈T.map (·.2)):Rel X [] [] [] s:=by
 have at_:∀P∈X.eX,s.heap.get? P=some (tabObj #[]):=λP m=>by
  obtain⟨q,hq,rfl⟩:=aR.mp (hm P m);exact(hT q hq).2
 refine{len:=rfl,nodup:=kN,dis:=λ_ m=>(nomatch m),own:=λ_ m=>(nomatch m),sS:=λ_ m=>(nomatch m),al:=λ_ m=>(nomatch m),JU:=λ_ m=>(nomatch m),objs:=λi o a e=>by simp at e,keep:=λb o e _=>h0▸e,iz:=λP m=>⟨_,h0▸at_ P m⟩,tabs:=⟨λc P q m=>⟨#[],at_ _ (ah _ (aR.mpr ⟨_,m,rfl⟩)),trivial,λpos cv e=>by cases e⟩,⟨#[],at_ _ (aj ..),trivial,λcv e=>by cases e⟩⟩,gens:=hg,os:=ho.symm}
theorem FY{T:List (Addr×Addr)} (hT:TabsAt T s.heap) (h0:X.h₀=s.heap) (hm:∀P∈X.eX,P∈T.map (·.2)) (R:Rel X ρ κ σ s'):OldK s.heap s'.heap:=by
 have tab:∀P∈X.eX,∃ps,s'.heap.get? P=some (tabObj ps):=λP m=>by
  rcases aK.mp m with rfl|m
  ·obtain⟨ps,e,_⟩:=R.tabs.kc;exact⟨ps,e⟩
  ·obtain⟨⟨c,P',q⟩,m',rfl⟩:=aR.mp m;obtain⟨ps,e,_⟩:=R.tabs.lam c P' q m';exact⟨ps,e⟩
 refine⟨λb o e=> ?_,λb o e=> ?_⟩
 ·by_cases hb:b∈X.eX
  ·obtain⟨q,hq,rfl⟩:=aR.mp (hm b hb);have e2:=(hT q hq).2;rw[e]at e2;cases e2;obtain⟨ps,hP⟩:=tab _ hb;exact .inr (.inl ⟨((hT q hq).1.tab (hT q hq).2).isCodeTable,rfl,#[],ps,rfl,by rw[Array.empty_append];exact hP⟩)
  ·exact .inl (R.keep b o (h0▸e) hb)
 ·by_cases hb:b∈X.eX
  ·obtain⟨ps,hP⟩:=tab b hb;exact⟨_,hP⟩
  ·exact⟨o,R.keep b o (h0▸e) hb⟩
theorem D9:zj X callerA [] [] s:=⟨⟨[],rfl,λ_ m=>(nomatch m)⟩,λ_ m=>(nomatch m)⟩
theorem Ab(h:k<=60):fk callerA k:=⟨show 301+50+10*k<1000 by omega,show 4+500+20*k<cLine by unfold cLine;omega⟩
theorem Dx{mg:Str->Option Value} (hK:(GW w.params).In s.heap) (hg:s.heap.Ns mainGlobals mg) (hb:s.heap.Ns builtinsNs mb) (Qm:s.gens= #[]) {sa:Addr} {xs:List Int} (hL:s.heap.IsList sa vs.toArray) (hI:IntsAre vs xs) (hx:xs.length<=63)
  {st:AS} (e:cX ⟨iL sa xs,gj (iL sa xs) 1000 12,1000,0⟩ tG [] [.base sa] ⟨[],[]⟩=some (.ok (.bool true),st)):
  codeAny (model PW w) callerA (.call (.ref 208) ⟨[.ref sa],[]⟩) (λq s'=>q= .ok (.ret (.bool true))/\OldK s.heap s'.heap/\s'.os=s.os/\s'.gens= #[]) s:=by
 have hT:=Ij hK;have hm:∀P∈(X1 w s.heap s.os sa xs).eX,P∈[(147,143),((180:Addr),(178:Addr))].map (·.2):=show ∀P∈[143,178],P∈[143,178]from λ_ m=>m;have PZ:sa∉[143,178]:=Aq hT hL;have G:bZ (X1 w s.heap s.os sa xs):=Ik hK hg hb ⟨vs,hL,hI⟩ (cy hx (by decide)) PZ hT;have GF:rL (X1 w s.heap s.os sa xs):=EZ hK;have GC:Bl (X1 w s.heap s.os sa xs):= .of G (Lq hK hb);have R:Rel (X1 w s.heap s.os sa xs) [] [] [] s:=Df hT rfl rfl Qm hm;obtain⟨o,fd,c,h1,h2,h3,h4,h5,h6,h7⟩:=GF.fns 208 tG rfl;have GQ:fd.defaults= .none:=by
  have e1:s.heap.get? 208=some o:=h1;rw[hK 208 _ rfl]at e1;cases e1;cases h3;rfl
 refine dU (Fn (X:=X1 w s.heap s.os sa xs) (A:=callerA) G GF Lr GC (k:=12) rfl D9 (Ab (by decide)) h1 h3 h4 h5 h7 R (pp:= ?pp) ?hp GQ rfl (x:= .base sa) (v:= .ref sa) rfl e) λq s' g=> ?_
 case hp=>exact rfl
 ·obtain⟨v,y,ρ,κ,rfl,e2,h8,R'⟩:=g;cases e2;cases h8;exact⟨rfl,FY hT rfl hm R',R'.os,R'.gens⟩
set_option maxHeartbeats 0 in
theorem IY(WZ:∀sa xs,xs.length<=63->∃st,cX ⟨iL sa xs,gj (iL sa xs) 1000 12,1000,0⟩ tG [] [.base sa] ⟨[],[]⟩=some (.ok (.bool true),st)):PySem.Challenge.rw_ij0212_01.Holds:=by
 refine Mine.hd ?_;intro w bD s₁ mg mb G Y fa o pm cd doc dV kV ho hd zC hD hmg hg args vals as Ut UM Ko DK UK;have hK:=kIn_of Y;refine Ground.open G ?_;intro T B D TE TW
 wrow_args Ut UM Ko DK UK
 all_goals first|refine callC_kw (enter_call ?_)|refine enter_call ?_
 rename_i xs hs X8 hL1 rH hl2 as4 as3 sa vs as0 hL ra w1 r0 hI hr hc1 hc;have hx:xs.length<=63:=by omega
 have MU:fa=208:=by
  have e:=BL T.g (hK _ _ rfl) rfl ("law":Str);have e2:mg ("law":Str)=some (.ref fa):=hmg;rw[e2]at e;have e3:nsFind (match((GW w.params).lookup 3)with|some o=>(match o.data with| .dict es _=>es|_=> #[])|none=> #[]) ("law":Str)=some (.ref 208):=by kernel_rfl
  exact Value.ref.inj (bV (e.trans e3))
 subst MU;obtain⟨st,e⟩:=WZ sa xs hx;refine dU (Dx hK T.g T.b hg hL hI hx e) λq s' ⟨h1,h2,h3,h4⟩=> ?_;subst h1;refine⟨.inl ⟨.bool true,.bool true,[],rfl,λ_=>rfl,.bool _, ?_,λ_=>⟨kN,λ_ m=>(nomatch m)⟩⟩,h2,h3,.of_eq h4⟩
 wrow_post
end
end Mine
namespace Mine
open PM (hV)
variable {c:AV->AV->Bool} {m n fuel a b i r j s:Nat} {args vs ys as:List AV} {Q:List AV->AS->Prop} {P:Prog} {k x y:Int} {v:AV} {o:bP} {F M N:Nat->Prop} {σ τ bj:Hp} {I:cA} {p:Array Nat} {f:Int×List Int->Int×List Int} {ss D:List Int} {es:List (Int×AV)} {it:pk} {α β:Type} {l:Loc} {E:List (Int×Int)} {st:u3} {bs gs:List Nat} {bH:fU} {rows:List (List Nat)} {T:Nat->Int×Int} {grown:List (List Int)} {V:Int->Prop}
variable {ds:List α}
section
variable {α β:Type} {Q:α->AS->Prop} {E:Exc->AS->Prop} {st:AS} {l:Loc} {σ τ:Hp}
theorem wb{m:PM β} {f:β->PM α} (h:bK m (λa s=>bK (f a) Q E s) E st):bK (PM.bind m f) Q E st:=(E5 m f).mpr h
theorem jf{Q:bP->AS->Prop} {n:Nat} {o:bP} (h:σ[n]? =some o) (q:Q o ⟨l,σ⟩):bK (PM.obj n) Q E ⟨l,σ⟩:=by rw[Il h];exact q
theorem xI{Q:Unit->AS->Prop} {n:Nat} {o:bP} (h:n<σ.length) (q:Q () ⟨l,σ.set n o⟩):bK (PM.cm n o) Q E ⟨l,σ⟩:=by rw[zF h];exact q
theorem Fd{l':Loc} {m:PM α} (h:bK m (λa s=>Q a ⟨l,s.hp⟩) (λ_ _=>False) ⟨l',σ⟩):bK (PM.within l' m) Q E ⟨l,σ⟩:=by rw[zE];exact h
theorem Lx{m:PM α} (h:bK m Q (λ_ _=>False) st):bK (PM.sure m) Q E st:=by rw[E1];exact h
theorem CM{m:PM α} {Q:Res α->AS->Prop} (h:bK m (λa s=>Q (.ok a) s) (λk s=>Q (.exc k) s) st):bK (PM.attempt m) Q E st:=by rw[xE];exact h
theorem OM{x:Option α} {a:α} (h:x=some a) (q:Q a st):bK (PM.b8 x) Q E st:=by subst h;exact q
theorem Xl{c:Prop} [Decidable c] {m n:PM α} (h:c) (q:bK m Q E st):bK (if c then m else n) Q E st:=by rw[aD h];exact q
theorem Xm{c:Prop} [Decidable c] {m n:PM α} (h:¬c) (q:bK n Q E st):bK (if c then m else n) Q E st:=by rw[aC h];exact q
theorem iI{C:Cx} {fi:fN} {clos:List (Str×Nat)} {Q:AV->AS->Prop}
  (h:bK (PM.bind (mK fi.params fi.rJ args) λbinds=>PM.bind (dJ fi.scope.names clos) λcells=>PM.within [] (PM.bind (storeAll ⟨fi.scope,cells,fi.code⟩ binds) λ_=>PM.bind (gp C fi.body ⟨fi.scope,cells,fi.code⟩) λr=>match r with| .ret v=>PM.pure v|_=>PM.pure .none)) Q E st):bK (cX C fi clos args) Q E st:=h
theorem w_call{k:Nat} {a:Addr} {fi:fN} {Q:AV->AS->Prop} (h:P.fns a=some fi) (apart_at:a≠P.dN) (q:bK (cX ⟨P,gj P fuel k,fuel,0⟩ fi [] args) Q E st):
  bK ((gj P fuel (k+1)).call (.base a) args) Q E st:=by
 show bK (fj P fuel (gj P fuel k) (.base a) args) Q E st;unfold fj;dsimp only;rw[aC apart_at,h];exact q
theorem Ff{Q:AV->AS->Prop} (h:mm v=PM.pure v) (q:Q v st):bK (mm v) Q E st:=by rw[h];exact q
theorem cL{m:PM α} {Q':α->AS->Prop} {E':Exc->AS->Prop} (h:bK m Q' E' st) (q:∀a s,Q' a s->Q a s) (e:∀k s,E' k s->E k s):bK m Q E st:=E4 h q e
theorem Ly{c:Prop} {i:Decidable c} {f:¬c->PM α} {t:c->PM α} (h:c) (q:bK (t h) Q E st):bK (Decidable.rec (motive:=λ_=>PM α) f t i) Q E st:=by
 cases i with
 |isTrue _=>exact q
 |isFalse h'=>exact absurd h h'
theorem Lz{c:Prop} {i:Decidable c} {f:¬c->PM α} {t:c->PM α} (h:¬c) (q:bK (f h) Q E st):bK (Decidable.rec (motive:=λ_=>PM α) f t i) Q E st:=by
 cases i with
 |isTrue h'=>exact absurd h' h
 |isFalse _=>exact q
theorem Iw{Q:Nat->AS->Prop} {B τ EX:Hp} {L m:Nat} {o:bP} (hB:B.length=L) (hm:τ.length=m) (h':τ++[o]=EX) (q:Q (L+m) ⟨l,B++EX⟩):bK (PM.alloc o) Q E ⟨l,B++τ⟩:=by
 subst hB hm h';rw[CJ,af,bc];exact q
theorem Fu{Q:Nat->AS->Prop} {B:Hp} {L:Nat} {o:bP} (hB:B.length=L) (q:Q L ⟨l,B++[o]⟩):bK (PM.alloc o) Q E ⟨l,B⟩:=by
 subst hB;exact q
theorem J8{Q:bP->AS->Prop} {B τ:Hp} {L j:Nat} {o:bP} (hB:B.length=L) (h:τ[j]? =some o) (q:Q o ⟨l,B++τ⟩):bK (PM.obj (L+j)) Q E ⟨l,B++τ⟩:=by
 subst hB;refine jf ?_ q;rw[aY (by omega)];rw[cB];exact h
theorem LN{Q:bP->AS->Prop} {B τ:Hp} {L:Nat} {o:bP} (hB:B.length=L) (h:τ[0]? =some o) (q:Q o ⟨l,B++τ⟩):bK (PM.obj L) Q E ⟨l,B++τ⟩:=J8 (j:=0) hB h q
theorem Fq{Q:bP->AS->Prop} {B τ:Hp} {n:Nat} {o:bP} (h:B[n]? =some o) (q:Q o ⟨l,B++τ⟩):bK (PM.obj n) Q E ⟨l,B++τ⟩:=
 jf (by rw[cF (bx.mp h).1];exact h) q
theorem J7{Q:Unit->AS->Prop} {B τ EX:Hp} {L j:Nat} {o:bP} (hB:B.length=L) (h:decide (j<τ.length)=true) (h':τ.set j o=EX) (q:Q () ⟨l,B++EX⟩):bK (PM.cm (L+j) o) Q E ⟨l,B++τ⟩:=by
 subst hB h';have h:=dE h;refine xI (by rw[af];omega) ?_;rw[rY (B.length+j) o (by omega),cB];exact q
theorem LL{Q:Unit->AS->Prop} {B τ EX:Hp} {L:Nat} {o:bP} (hB:B.length=L) (h:decide (0<τ.length)=true) (h':τ.set 0 o=EX) (q:Q () ⟨l,B++EX⟩):bK (PM.cm L o) Q E ⟨l,B++τ⟩:=J7 (j:=0) hB h h' q
theorem Fp{Q:Unit->AS->Prop} {B τ:Hp} {n:Nat} {o:bP} (h:n<B.length) (q:Q () ⟨l,B.set n o++τ⟩):bK (PM.cm n o) Q E ⟨l,B++τ⟩:=by
 refine xI (by rw[af];omega) ?_;rw[Rx n o h];exact q
theorem IV{B:Hp} {n L:Nat} {o:bP} (h:B.length=L):(B.set n o).length=L:=by rw[aV];exact h
theorem Ft{Q:AV->AS->Prop} {x:Str} {v:AV} (h:l.lookup x=some v) (q:Q v ⟨l,σ⟩):bK (PM.ey x) Q E ⟨l,σ⟩:=by rw[zG h];exact q
theorem yv{x:Str} {v:AV}:∀{l:Loc},(hV x v l).lookup x=some v
 |[]=>by unfold hV;rw[az,cj]
 | (y,w)::l=>by
  unfold hV;by_cases h:y=x
  ·rw[aD h,az,cj]
  ·rw[aC h,az,aP.mpr (dF h)];exact yv
theorem rz{x y:Str} {v w:AV} (apart_at:y≠x):∀{l:Loc},l.lookup y=some w->(hV x v l).lookup y=some w
 |[],h=>by cases h
 | (z,u)::l,h=>by
  unfold hV;rw[az]at h;by_cases e:z=x
  ·subst e;rw[aD rfl,az,aP.mpr apart_at];rw[aP.mpr apart_at]at h;exact h
  ·rw[aC e,az];by_cases q:y=z
   ·subst q;rw[cj]at h ⊢;exact h
   ·rw[aP.mpr q]at h ⊢;exact rz apart_at h
abbrev er (l:Loc) (x:Str) (v:AV):Prop:=l.lookup x=some v
theorem eM:(σ++[o])[σ.length]? =some o:=by simp
theorem bh(h:σ[n]? =some o):(σ++τ)[n]? =some o:=by
 rw[cF (bx.mp h).1];exact h
theorem get_set(h:n<σ.length):(σ.set n o)[n]? =some o:=by simp [h]
theorem aM{o':bP} (apart_at:m≠n) (h:σ[n]? =some o):(σ.set m o')[n]? =some o:=by rw[uG apart_at];exact h
theorem aN(h:σ[n]? =some o):n<σ.length:=(bx.mp h).1
theorem cS{o':bP} (h:σ[n]? =some o) (h':σ[m]? =some o') (apart_at:o≠o'):n≠m:=λe=>by
 rw[e,h']at h;cases h;exact apart_at rfl
theorem Mp(h:n<σ.length):n<(σ++τ).length:=by rw[af];omega
theorem Mo:σ.length<(σ++[o]).length:=by simp
theorem Aj(h:n<σ.length):n<(σ.set m o).length:=by rw[aV];exact h
end
local macro_rules | `(tactic|f_list)=> `(tactic|first|assumption|exact yv| (refine rz (by decide) ?_;f_list))
local macro_rules | `(tactic|f_tup)=> `(tactic|first|assumption|exact aN (by assumption)|exact Mo| (refine Aj ?_;f_tup)| (refine Mp ?_;f_tup)| (simp only [af,aV,aq,bO]at*;omega))
local macro_rules | `(tactic|apart_at)=> `(tactic|first|assumption| (refine dF ?_;assumption)| (refine cS (by assumption) (by assumption) ?_;(intro h;cases h;done))|exact dW (by f_tup)|exact NC (by f_tup)|omega)
local macro_rules | `(tactic|ints_of)=> `(tactic|first|assumption|exact eM| (refine bh ?_;ints_of;done)| (refine get_set ?_;f_tup;done)| (refine aM ?_ ?_<;>first| (apart_at;done)| (ints_of;done)))
theorem Tf{P:Prog} {fuel k:Nat} {l:Loc} {σ:Hp} {E:Exc->AS->Prop} {Q:AV->AS->Prop} {id:String} {args:List AV} (q:bK (cg id args) Q E ⟨l,σ⟩):bK ((gj P fuel (k+1)).call (.bi id) args) Q E ⟨l,σ⟩:=q
theorem Te{P:Prog} {fuel k:Nat} {l:Loc} {σ:Hp} {E:Exc->AS->Prop} {Q:AV->AS->Prop} {id:String} {args:List AV} (q:bK (bM id args) Q E ⟨l,σ⟩):bK ((gj P fuel (k+1)).call (.ty id) args) Q E ⟨l,σ⟩:=q
local macro_rules | `(tactic|k_tabat)=> `(tactic|first|assumption|omega| (rw[qp];assumption)| (intro h;cases h.2;done)| (simp only [af,aG,aq,bO,aV,List.length_replicate];omega))
section
open Lean Meta Elab Tactic
def Fc (e:Lean.Expr):MetaM Lean.Expr:=
 withTransparency .default (whnf e)
def Lw (e:Lean.Expr):MetaM Lean.Expr:=do
 if e.hasFVar||e.hasMVar then whnf e else ofExceptKernelException (Kernel.whnf (<-getEnv) (<-getLCtx) e)
def yt:Nat->Lean.Expr->MetaM Lean.Expr
 |0,e=>return e
 |fuel+1,e=>do
 let e<-whnf e
 match e.getAppFnArgs with
 | (``List.cons,#[t,x,r])=>do
  let r<-yt fuel r
  let x'<-(do
   let y<-whnf x
   match y.getAppFnArgs with
   | (``Prod.mk,#[a,b,c,d])=>do
    let c<-whnfCore c
    let c<-(do
     if let .const n _:=c.getAppFn then
      if(<-getProjectionFnInfo? n).isSome then
       match<-unfoldDefinition? c with
       |some c'=>return<-whnfCore c'
       |none=>return c
     return c)
    return mkAppN (.const ``Prod.mk [Level.zero,Level.zero]) #[a,b,c,d]
   |_=>return x)
  return mkApp3 (.const ``List.cons [Level.zero]) t x' r
 |_=>return e
def BO (e:Lean.Expr):MetaM Lean.Expr:=yt 200 e
structure WP where
 α:Lean.Expr
 m:Lean.Expr
 Q:Lean.Expr
 E:Lean.Expr
 st:Lean.Expr
def KO (g:MVarId):MetaM (Option WP):=do
 let t:=(<-instantiateMVars (<-g.getType)).consumeMData
 let t:=t.headBeta
 match t.getAppFnArgs with
 | (``bK,#[α,m,Q,E,st])=>return some ⟨α,m,Q,E,st⟩
 |_=>
  let t<-(if t.getAppFn.isConstOf `Mine.CD then(do
   match<-unfoldDefinition? t with
   |some t'=>pure t'
   |none=>pure t)else pure t)
  let t'<-whnfCore t
  match t'.getAppFnArgs with
  | (``bK,#[α,m,Q,E,st])=>return some ⟨α,m,Q,E,st⟩
  |_=>return none
def mP (w:WP):Lean.Expr:=mkAppN (.const ``bK []) #[w.α,w.m,w.Q,w.E,w.st]
def Iz (st:Lean.Expr):MetaM (Lean.Expr×Lean.Expr):=do
 let s<-whnf st
 match s.getAppFnArgs with
 | (``AS.mk,#[l,h])=>do
  let l<-(if l.isProj||l.isApp&&l.getAppFn.isConstOf ``AS.loc then whnfCore l else pure l)
  let h<-(if h.isProj||h.isApp&&(h.getAppFn.isConstOf ``AS.hp)then(do
   let r<-withTransparency .instances (whnf h)
   pure r)else pure h)
  return (l,h)
 |_=>throwError "px: no state"
def yx:Nat->Lean.Expr->MetaM (Option (Array Lean.Expr))
 |0,_=>return none
 |fuel+1,e=>do
 match(<-whnf e).getAppFnArgs with
 | (``List.cons,#[_,x,r])=>do
  match<-yx fuel r with
  |some xs=>return some (#[x]++xs)
  |none=>return none
 | (``List.nil,_)=>return some #[]
 |_=>return none
def pU (e:Lean.Expr):MetaM (Option (Array Lean.Expr)):=yx 200 e
def wK (t:Lean.Expr) (xs:Array Lean.Expr):Lean.Expr:=xs.foldr (λx r=>mkApp3 (.const ``List.cons [Level.zero]) t x r) (mkApp (.const ``List.nil [Level.zero]) t)
def oQ (xs:Array Lean.Expr):MetaM Lean.Expr:=return wK (.const ``bP []) xs
def nh (B:Lean.Expr) (xs:Array Lean.Expr):MetaM Lean.Expr:=do
 if xs.isEmpty then return B
 let t:=mkApp (.const ``List [Level.zero]) (.const ``bP [])
 let _:=t
 let hp:=Lean.Expr.const ``Hp []
 return mkAppN (.const ``HAppend.hAppend [Level.zero,Level.zero,Level.zero]) #[hp,hp,hp,mkApp2 (.const ``instHAppendOfAppend [Level.zero]) hp (mkApp (.const ``List.instAppend [Level.zero]) (.const ``bP [])),B,<-oQ xs]
def qA (h:Lean.Expr):MetaM (Lean.Expr×Array Lean.Expr):=do
 match h.getAppFnArgs with
 | (``HAppend.hAppend,#[_,_,_,_,B,t])=>do
  match<-pU t with
  |some xs=>return (B,xs)
  |none=>return (h,#[])
 |_=>return (h,#[])
def F3:Nat->Lean.Expr->MetaM (Lean.Expr×Lean.Expr)
 |0,_=>throwError "px: a heap too deep"
 |fuel+1,B=>do
 match B.getAppFnArgs with
 | (``List.set,#[_,C,n,o])=>do
  let (L,p)<-F3 fuel C
  return (L,mkAppN (.const ``IV []) #[C,n,L,o,p])
 |_=>do
  let L:=mkApp2 (.const ``List.length [Level.zero]) (.const ``bP []) B
  return (L,<-mkEqRefl L)
def lenOf (B:Lean.Expr):MetaM (Lean.Expr×Lean.Expr):=F3 200 B
def F0 (L:Lean.Expr) (k:Nat) (n:Lean.Expr):MetaM (Option Nat):=do
 if k=0 then return none
 let n<-(if n.isFVar then pure n else do
  let n'<-instantiateMVars n
  pure n')
 if<-withReducible (isDefEq n L)then return some 0
 match n.getAppFnArgs with
 | (``HAdd.hAdd,#[_,_,_,_,a,b])=>do
  if<-withReducible (isDefEq a L)then
   match(<-whnf b).rawNatLit?<|>b.nat? with
   |some j=>return if j<k then some j else none
   |none=>return none
  return none
 |_=>return none
def BM (o:Lean.Expr):MetaM Lean.Expr:=do
 let o<-whnfCore o
 match o.getAppFnArgs with
 | (``bP.slots,#[c,vs])=>do
  match<-pU vs with
  |some xs=>return mkApp2 (.const ``bP.slots []) c (wK (mkApp (.const ``Option [Level.zero]) (.const ``AV [])) xs)
  |none=>return o
 | (``bP.list,#[vs])=>do
  match<-pU vs with
  |some xs=>return mkApp (.const ``bP.list []) (wK (.const ``AV []) xs)
  |none=>return o
 | (``bP.tuple,#[vs])=>do
  match<-pU vs with
  |some xs=>return mkApp (.const ``bP.tuple []) (wK (.const ``AV []) xs)
  |none=>return o
 | (``bP.ns,#[m])=>return mkApp (.const ``bP.ns []) (<-BO m)
 |_=>return o
def FP (g:MVarId):TacticM (Option MVarId):=g.withContext do
 let some w<-KO g|return none
 let w₀:=w
 let m<-Fc w.m
 let (l,h)<-Iz w.st
 let st:=mkApp2 (.const ``AS.mk []) l h
 let w:={w with m:=m,st:=st}
 let to (t:Lean.Expr):MetaM MVarId:=do
  let t:=t.headBeta
  g.replaceTargetDefEq t
 let Cw (n:Name):TacticM (List MVarId):=do
  let g<-g.replaceTargetDefEq (mP w)
  let c<-mkConstWithFreshMVarLevels n
  g.apply c
 match m.getAppFnArgs with
 | (``PM.bind,_)=>do
  let gs<-Cw ``wb
  return gs.head?
 | (``PM.pure,#[_,a])=>return some (<-to (mkApp2 w.Q a st))
 | (``PM.hp,_)=>return some (<-to (mkApp2 w.Q h st))
 | (``PM.raise,#[_,k])=>return some (<-to (mkApp2 w.E k st))
 | (``PM.alloc,#[o])=>do
  let o<-BM o
  let w:={w with m:=mkApp (.const ``PM.alloc []) o}
  let (B,τ)<-qA h
  let (L,hB)<-lenOf B
  if τ.isEmpty then do
   let w:={w with st:=mkApp2 (.const ``AS.mk []) l B}
   let h'<-nh B #[o]
   let q<-mkFreshExprSyntheticOpaqueMVar (mkApp2 w.Q L (mkApp2 (.const ``AS.mk []) l h')).headBeta
   let g<-g.replaceTargetDefEq (mP w)
   g.assign (mkAppN (.const ``Fu []) #[w.E,l,w.Q,B,L,o,hB,q])
   return some q.mvarId!
  else do
   let m:=mkNatLit τ.size
   let Lj<-oQ τ
   let zD<-oQ (τ.push o)
   let n:=mkNatAdd L m
   let q<-mkFreshExprSyntheticOpaqueMVar (mkApp2 w.Q n (mkApp2 (.const ``AS.mk []) l (<-nh B (τ.push o)))).headBeta
   let g<-g.replaceTargetDefEq (mP {w with st:=mkApp2 (.const ``AS.mk []) l (<-nh B τ)})
   g.assign (mkAppN (.const ``Iw []) #[w.E,l,w.Q,B,Lj,zD,L,m,o,hB,<-mkEqRefl m,<-mkEqRefl zD,q])
   return some q.mvarId!
 | (``PM.ey,#[x])=>do
  let v<-whnf (<-mkAppM ``List.lookup #[x,l])
  match v.getAppFnArgs with
  | (``Option.some,#[_,a])=>return some (<-to (mkApp2 w.Q a st))
  |_=>do
   let saved<-getGoals
   let a<-mkFreshExprSyntheticOpaqueMVar (.const ``AV [])
   let hT<-mkAppM ``Eq #[<-mkAppM ``List.lookup #[x,l],<-mkAppM ``Option.some #[a]]
   let hm<-mkFreshExprSyntheticOpaqueMVar hT
   setGoals [hm.mvarId!]
   try evalTactic (<- `(tactic|f_list)) catch _=>throwError "px: no local {x} in {l}"
   let a<-instantiateMVars a
   let q<-mkFreshExprSyntheticOpaqueMVar (mkApp2 w.Q a st).headBeta
   let g<-g.replaceTargetDefEq (mP w)
   g.assign (mkAppN (.const ``Ft []) #[w.E,l,h,w.Q,x,a,hm,q])
   setGoals saved
   return some q.mvarId!
 | (``PM.gd,#[x,v])=>do
  let l'<-(do
   let e<-mkAppM ``PM.hV #[x,v,l]
   match<-pU l with
   |some _=>BO e
   |none=>pure e)
  return some (<-to (mkApp2 w.Q (.const ``Unit.unit []) (mkApp2 (.const ``AS.mk []) l' h)))
 | (``PM.within,_)=>return (<-Cw ``Fd).head?
 | (``PM.sure,_)=>return (<-Cw ``Lx).head?
 | (``PM.attempt,_)=>return (<-Cw ``CM).head?
 | (``PM.b8,#[_,x])=>do
  let v<-Fc x
  match v.getAppFnArgs with
  | (``Option.some,#[_,a])=>return some (<-to (mkApp2 w.Q a st))
  |_=>do
   let saved<-getGoals
   let a<-mkFreshExprSyntheticOpaqueMVar w.α
   let hT<-mkAppM ``Eq #[x,<-mkAppM ``Option.some #[a]]
   let hm<-mkFreshExprSyntheticOpaqueMVar hT
   setGoals [hm.mvarId!]
   let ok<-(try
    evalTactic (<- `(tactic|first|assumption|exact aD (by assumption)|exact aC (by assumption)))
    pure true
   catch _=>pure false)
   if ok then
    let a<-instantiateMVars a
    let q<-mkFreshExprSyntheticOpaqueMVar (mkApp2 w.Q a st).headBeta
    let g<-g.replaceTargetDefEq (mP w)
    g.assign (mkAppN (.const ``OM []) #[w.α,w.Q,w.E,st,x,a,hm,q])
    setGoals saved
    return some q.mvarId!
   else
    let g'<-g.replaceTargetDefEq (mP w)
    setGoals [g']
    return none
 | (``Decidable.rec,#[c,_,f,t,inst])=>do
  let saved<-getGoals
  let OV (neg:Bool):TacticM (Option MVarId):=do
   let s<-saveState
   try
    let p<-mkFreshExprSyntheticOpaqueMVar (if neg then mkNot c else c)
    setGoals [p.mvarId!]
    evalTactic (<- `(tactic|k_tabat))
    let p<-instantiateMVars p
    let q<-mkFreshExprSyntheticOpaqueMVar (mP {w with m:=(Lean.Expr.app (if neg then f else t) p).headBeta})
    let g<-g.replaceTargetDefEq (mP w)
    g.assign (mkAppN (.const (if neg then ``Lz else ``Ly) []) #[w.α,w.Q,w.E,st,c,inst,f,t,p,q])
    setGoals saved
    return some q.mvarId!
   catch _=>do
    s.restore
    return none
  if let some q<-OV false then return some q
  if let some q<-OV true then return some q
  setGoals [g]
  return none
 | (``PM.obj,#[n])=>do
  let (B,τ)<-qA h
  let (L,hB)<-lenOf B
  match<-F0 L τ.size n with
  |some j=>do
   let some o:=τ[j]?|throwError "px: obj"
   let st':=mkApp2 (.const ``AS.mk []) l (<-nh B τ)
   let q<-mkFreshExprSyntheticOpaqueMVar (mkApp2 w.Q o st').headBeta
   let Lj<-oQ τ
   let so<-mkAppM ``Option.some #[o]
   if j=0 then
    let g<-g.replaceTargetDefEq (mP {w with m:=mkApp (.const ``PM.obj []) L,st:=st'})
    g.assign (mkAppN (.const ``LN []) #[w.E,l,w.Q,B,Lj,L,o,hB,<-mkEqRefl so,q])
   else
    let g<-g.replaceTargetDefEq (mP {w with m:=mkApp (.const ``PM.obj []) (mkNatAdd L (mkNatLit j)),st:=st'})
    g.assign (mkAppN (.const ``J8 []) #[w.E,l,w.Q,B,Lj,L,mkNatLit j,o,hB,<-mkEqRefl so,q])
   return some q.mvarId!
  |none=>do
   let o<-mkFreshExprSyntheticOpaqueMVar (.const ``bP [])
   let hT<-mkAppM ``Eq #[<-mkAppM ``GetElem?.getElem? #[B,n],<-mkAppM ``Option.some #[o]]
   let hm<-mkFreshExprSyntheticOpaqueMVar hT
   let saved<-getGoals
   setGoals [hm.mvarId!]
   let ok<-(try
    evalTactic (<- `(tactic|ints_of))
    pure true
   catch _=>pure false)
   let o<-instantiateMVars o
   let st':=mkApp2 (.const ``AS.mk []) l (<-nh B τ)
   let q<-mkFreshExprSyntheticOpaqueMVar (mkApp2 w.Q o st').headBeta
   let g<-g.replaceTargetDefEq (mP {w with m:=mkApp (.const ``PM.obj []) n,st:=st'})
   if τ.isEmpty then
    g.assign (mkAppN (.const ``jf []) #[w.E,l,B,w.Q,n,o,hm,q])
   else
    g.assign (mkAppN (.const ``Fq []) #[w.E,l,w.Q,B,<-oQ τ,n,o,hm,q])
   if ok then
    setGoals saved
    return some q.mvarId!
   else
    setGoals [hm.mvarId!,q.mvarId!]
    return none
 | (``PM.cm,#[n,o])=>do
  let o<-BM o
  let (B,τ)<-qA h
  let (L,hB)<-lenOf B
  match<-F0 L τ.size n with
  |some j=>do
   let EX:=τ.set! j o
   let st':=mkApp2 (.const ``AS.mk []) l (<-nh B τ)
   let q<-mkFreshExprSyntheticOpaqueMVar (mkApp2 w.Q (.const ``Unit.unit []) (mkApp2 (.const ``AS.mk []) l (<-nh B EX))).headBeta
   let Lj<-oQ τ
   let zD<-oQ EX
   let tr<-mkEqRefl (.const ``Bool.true [])
   if j=0 then
    let g<-g.replaceTargetDefEq (mP {w with m:=mkApp2 (.const ``PM.cm []) L o,st:=st'})
    g.assign (mkAppN (.const ``LL []) #[w.E,l,w.Q,B,Lj,zD,L,o,hB,tr,<-mkEqRefl zD,q])
   else
    let g<-g.replaceTargetDefEq (mP {w with m:=mkApp2 (.const ``PM.cm []) (mkNatAdd L (mkNatLit j)) o,st:=st'})
    g.assign (mkAppN (.const ``J7 []) #[w.E,l,w.Q,B,Lj,zD,L,mkNatLit j,o,hB,tr,<-mkEqRefl zD,q])
   return some q.mvarId!
  |none=>do
   let g<-g.replaceTargetDefEq (mP {w with m:=mkApp2 (.const ``PM.cm []) n o,st:=mkApp2 (.const ``AS.mk []) l (<-nh B τ)})
   let gs<-g.apply (<-mkConstWithFreshMVarLevels (if τ.isEmpty then ``xI else ``Fp))
   match gs with
   |[h,q]=>do
    setGoals [h]
    evalTactic (<- `(tactic|f_tup))
    return some q
   |_=>throwError "px: setObj"
 | (``cg,_)| (``bM,_)=>do
  let g'<-g.replaceTargetDefEq (mP w)
  let saved<-getGoals
  setGoals [g']
  let ok<-(try
   evalTactic (<- `(tactic|fresh_at))
   pure true
  catch _=>pure false)
  if ok then
   match<-getGoals with
   |[q]=>do
    setGoals saved
    return some q
   |_=>throwError "px: built-in"
  else
   setGoals [g']
   return none
 |_=>do
  let lvl:Option (Lean.Expr×Array Lean.Expr):=match m.getAppFn with
   | .proj ``ER 0 lv=>some (lv,m.getAppArgs)
   | .const ``ER.call _=>if m.getAppNumArgs=3 then some (m.getArg! 0,m.getAppArgs.drop 1)else none
   |_=>none
  match lvl with
  |some (lv,as)=>do
   let lv<-whnfCore lv
   let lv<-(if lv.isAppOf ``gj then pure lv else do
    match<-unfoldDefinition? lv with
    |some x=>whnfCore x
    |none=>pure lv)
   let f<-whnf as[0]!
   let g'<-g.replaceTargetDefEq (mP {w with m:=mkAppN (.const ``ER.call []) #[lv,f,as[1]!]})
   match f.getAppFn with
   | .const ``AV.bi _=>return (<-g'.apply (.const ``Tf [])).head?
   | .const ``AV.ty _=>return (<-g'.apply (.const ``Te [])).head?
   |_=>do
    setGoals [g']
    return none
  |none=>do
   if let .const c _:=m.getAppFn then
    if(<-isIrreducible c)then
     let g'<-g.replaceTargetDefEq (mP w)
     setGoals [g']
     return none
   let m'<-whnfCore w₀.m
   let g'<-(if m'.getAppFn.isConstOf ``Decidable.rec||m'.getAppFn.isConstOf ``Decidable.casesOn then pure g else g.replaceTargetDefEq (mP {w with m:=m'}))
   setGoals [g']
   return none
def FQ:Nat->TacticM Unit
 |0=>return
 |n+1=>do
 let gs<-getGoals
 match gs with
 |[]=>return
 |g::rest=>do
  setGoals [g]
  match<-FP g with
  |some g'=>do
   setGoals (g'::rest)
   FQ n
  |none=>do
   let now<-getGoals
   setGoals (now++rest)
def Ka:Nat->TacticM Unit
 |0=>throwError "px_try: no try"
 |n+1=>do
 let gs<-getGoals
 match gs with
 |[]=>throwError "px_try: no try"
 |g::rest=>do
  let PE<-g.withContext do
   match<-KO g with
   |some w=>do
    let m<-Fc w.m
    return m.getAppFn.isConstOf ``PM.attempt
   |none=>return false
  setGoals [g]
  match<-FP g with
  |some g'=>do
   setGoals (g'::rest)
   if PE then return
   Ka n
  |none=>throwError "px_try: no try"
end
local macro_rules | `(tactic|k_cls)=> `(tactic|run_tac Ka 2000)
local macro_rules | `(tactic|f_are)=> `(tactic|run_tac FQ 2000)
local macro_rules | `(tactic|f_look)=> `(tactic|run_tac FQ 1)
abbrev WT:Addr:=137
abbrev uJ:Addr:=40
abbrev ac9:Addr:=36
abbrev ac8:Addr:=73
abbrev Q9:Addr:=80
abbrev Rc:Addr:=87
abbrev KV:Addr:=92
abbrev Ra:Addr:=99
abbrev Rd:Addr:=106
abbrev KY:Addr:=120
abbrev Rb:Addr:=127
abbrev Q8:Addr:=157
abbrev Nt:Addr:=164
abbrev Q7:Addr:=171
abbrev mV:Addr:=148
abbrev cNI:Nat:=4
abbrev cTS:Nat:=6
abbrev aae:Nat:=10
abbrev aad:Nat:=12
abbrev aac:Nat:=13
abbrev PP (sa:Addr) (xs:List Int):Prog:=iL sa xs
abbrev Ck (sa:Addr) (xs:List Int) (k:Nat):Cx:=⟨PP sa xs,gj (PP sa xs) 1000 k,1000,0⟩
section
seal PM.bind PM.pure PM.obj PM.cm PM.alloc PM.ey PM.gd PM.within PM.sure PM.attempt PM.hp PM.b8 PM.stuck PM.raise forLoop whileLoop compLoop dj dC sortBy gj bK cX eY cg bM
abbrev cA:=List (Int×Int×List Int)
def cP (k:Int) (f:Int×List Int->Int×List Int) (I:cA):cA:=I.map λp=>if p.1=k then(p.1,f p.2)else p
def cO (k:Int) (I:cA):cA:=if(I.lookup k).isSome then I else I++[(k,0,[])]
def dictOf (sl:Int->Nat) (I:cA):List (Int×AV):=I.map λp=>(p.1,.ref (sl p.1))
structure mL (σ:Hp) (F:Nat->Prop) (s d D ep:Nat) (rd:AV) (po fi:Int) (I:cA) (sl su:Int->Nat):Prop where
 inst:σ[s]? =some (.inst WT d)
 ns:σ[d]? =some (.ns [("_node2info",.ref D),("_ready_nodes",rd),("_npassedout",.int po),("_nfinished",.int fi)])
 dict:σ[D]? =some (.dict (dictOf sl I) ep)
 slot:∀p∈I,σ[sl p.1]? =some (.slots (.base uJ) [some (.int p.1),some (.int p.2.1),some (.ref (su p.1))])
 succ:∀p∈I,σ[su p.1]? =some (.list (p.2.2.map .int))
 wt:∀p∈I,∀q∈I,p.1≠q.1->sl p.1≠sl q.1
 wh:∀p∈I,∀q∈I,p.1≠q.1->su p.1≠su q.1
 nd:(I.map (·.1)).Nodup
 fp:F s/\F d/\F D/\∀p∈I,F (sl p.1)/\F (su p.1)
structure Fr (F:Nat->Prop) (σ bj:Hp):Prop where
 len:σ.length<=bj.length
 keep:∀i o,¬F i->σ[i]? =some o->bj[i]? =some o
theorem Fr.refl:Fr F σ σ:=⟨aJ _,λ_ _ _ e=>e⟩
theorem Fr.trans {J2 xD:Hp} (x:Fr F σ J2) (y:Fr F J2 xD):Fr F σ xD:=⟨cy x.len y.len,λi o h e=>y.keep i o h (x.keep i o h e)⟩
theorem Fr.app:Fr F σ (σ++τ):=⟨by simp,λ_ _ _ e=>bh e⟩
theorem Fr.set {F:Nat->Prop} {σ:Hp} {n:Nat} {o:bP} (h:F n):Fr F σ (σ.set n o):=⟨by simp,λi o' hi e=>aM (λq=>hi (q▸h)) e⟩
theorem Fr.mono {G:Nat->Prop} (x:Fr F σ bj) (h:∀i<σ.length,F i->G i):Fr G σ bj:=⟨x.len,λi o hi e=>x.keep i o (λq=>hi (h i (aN e) q)) e⟩
theorem gJ(sl:Int->Nat) (k:Int):∀(I:cA),(dictOf sl I).lookup k=(I.lookup k).map λ_=>AV.ref (sl k)
 |[]=>rfl
 | (a,b)::I=>by
  show((a,AV.ref (sl a))::dictOf sl I).lookup k=_
  rw[az,az];by_cases h:k=a
  ·subst h;simp
  ·rw[aP.mpr h];exact gJ sl k I
theorem mem_of_lookup{v:Int×List Int} (h:I.lookup k=some v):(k,v)∈I:=by
 induction I with
 |nil=>cases h
 |cons p I ih=>
  obtain⟨a,b⟩:=p;rw[az]at h;by_cases q:k=a
  ·subst q;rw[cj]at h;cases h;exact aj ..
  ·rw[aP.mpr q]at h;exact ah _ (ih h)
theorem lu(h:I.lookup k=none):∀p∈I,p.1≠k:=by
 induction I with
 |nil=>intro p hp;cases hp
 |cons p I ih=>
  obtain⟨a,b⟩:=p;rw[az]at h;by_cases q:k=a
  ·subst q;rw[cj]at h;cases h
  ·rw[aP.mpr q]at h;intro p hp;rcases aK.mp hp with rfl|hp
   ·exact λe=>q e.symm
   ·exact ih h p hp
theorem tu(nd:(I.map (·.1)).Nodup) {p q:Int×Int×List Int} (hp:p∈I) (hq:q∈I) (e:p.1=q.1):p=q:=by
 induction I with
 |nil=>cases hp
 |cons a I ih=>
  rw[aS,bA]at nd;rcases aK.mp hp with rfl|hp<;>rcases aK.mp hq with rfl|hq
  ·rfl
  ·exact absurd (show p.1∈I.map (·.1)from aR.mpr ⟨q,by assumption,e.symm⟩) nd.1
  ·exact absurd (show q.1∈I.map (·.1)from aR.mpr ⟨p,by assumption,e⟩) nd.1
  ·exact ih nd.2 hp hq
theorem kg:(cP k f I).map (·.1)=I.map (·.1):=by
 unfold cP;rw[eD];refine dc λp _=> ?_;show(if p.1=k then(p.1,f p.2)else p).1=p.1
 split<;>rfl
theorem ve{sl:Int->Nat}:dictOf sl (cP k f I)=dictOf sl I:=by
 unfold dictOf cP;rw[eD];refine dc λp _=> ?_;show((if p.1=k then(p.1,f p.2)else p).1,AV.ref (sl (if p.1=k then(p.1,f p.2)else p).1))=_
 split<;>rfl
theorem dH{p:Int×Int×List Int} (h:p∈cP k f I):∃q∈I,q.1=p.1/\((p.1=k/\p.2=f q.2)\/(p.1≠k/\p=q)):=by
 obtain⟨q,hq,rfl⟩:=aR.mp h;refine⟨q,hq, ?_⟩;by_cases e:q.1=k
 ·rw[aD e];exact⟨rfl,.inl ⟨e,rfl⟩⟩
 ·rw[aC e];exact⟨rfl,.inr ⟨e,rfl⟩⟩
section
variable {σ:Hp} {F:Nat->Prop} {s d D ep:Nat} {rd:AV} {po fi:Int} {I:cA} {sl su:Int->Nat}
theorem mL.app (H:mL σ F s d D ep rd po fi I sl su) (τ:Hp):mL (σ++τ) F s d D ep rd po fi I sl su:=
 ⟨bh H.inst,bh H.ns,bh H.dict,λp h=>bh (H.slot p h),λp h=>bh (H.succ p h),H.wt,H.wh,H.nd,H.fp⟩
theorem mL.mono {G:Nat->Prop} (H:mL σ F s d D ep rd po fi I sl su) (h:∀i<σ.length,F i->G i):mL σ G s d D ep rd po fi I sl su:=
 ⟨H.inst,H.ns,H.dict,H.slot,H.succ,H.wt,H.wh,H.nd,h _ (aN H.inst) H.fp.1,h _ (aN H.ns) H.fp.2.1,h _ (aN H.dict) H.fp.2.2.1,λp hp=>⟨h _ (aN (H.slot p hp)) (H.fp.2.2.2 p hp).1,h _ (aN (H.succ p hp)) (H.fp.2.2.2 p hp).2⟩⟩
theorem mL.other (H:mL σ F s d D ep rd po fi I sl su) (x:Fr (λi=>¬F i) σ bj):mL bj F s d D ep rd po fi I sl su:=
 ⟨x.keep _ _ (λq=>q H.fp.1) H.inst,x.keep _ _ (λq=>q H.fp.2.1) H.ns,x.keep _ _ (λq=>q H.fp.2.2.1) H.dict,λp h=>x.keep _ _ (λq=>q (H.fp.2.2.2 p h).1) (H.slot p h),λp h=>x.keep _ _ (λq=>q (H.fp.2.2.2 p h).2) (H.succ p h),H.wt,H.wh,H.nd,H.fp⟩
theorem mL.BJ (H:mL σ F s d D ep rd po fi I sl su) {n:Int} {np:Int} (hk:(k,np,ss)∈I):
  mL (σ.set (sl k) (.slots (.base uJ) [some (.int k),some (.int n),some (.ref (su k))])) F s d D ep rd po fi (cP k (λq=>(n,q.2)) I) sl su:=by
 have hs:=H.slot _ hk;refine⟨aM (cS hs H.inst nofun) H.inst,aM (cS hs H.ns nofun) H.ns, ?_,λp hp=> ?_,λp hp=> ?_,λp hp q hq=> ?_,λp hp q hq=> ?_,by rw[kg];exact H.nd,H.fp.1,H.fp.2.1,H.fp.2.2.1,λp hp=> ?_⟩
 ·rw[ve];exact aM (cS hs H.dict nofun) H.dict
 ·obtain⟨q,hq,e1,h⟩:=dH hp;rcases h with⟨e2,e3⟩|⟨e2,rfl⟩
  ·have:q=(k,np,ss):=tu H.nd hq hk (e1.trans e2);subst this;rw[e2,e3];exact get_set (aN hs)
  ·exact aM (H.wt _ hk _ hq (dF e2)) (H.slot _ hq)
 ·obtain⟨q,hq,e1,h⟩:=dH hp;have hu:=H.succ _ hq;rw[e1]at hu;refine aM (cS hs hu (by intro h;cases h)) ?_;rcases h with⟨e2,e3⟩|⟨e2,rfl⟩
  ·rw[e3];exact hu
  ·exact hu
 ·obtain⟨p',yJ,e1,_⟩:=dH hp;obtain⟨q',zB,e2,_⟩:=dH hq;rw[<-e1,<-e2];exact H.wt _ yJ _ zB
 ·obtain⟨p',yJ,e1,_⟩:=dH hp;obtain⟨q',zB,e2,_⟩:=dH hq;rw[<-e1,<-e2];exact H.wh _ yJ _ zB
 ·obtain⟨p',yJ,e1,_⟩:=dH hp;rw[<-e1];exact H.fp.2.2.2 _ yJ
theorem mL.O1 (H:mL σ F s d D ep rd po fi I sl su) {np:Int} {ss':List Int} (hk:(k,np,ss)∈I):
  mL (σ.set (su k) (.list (ss'.map .int))) F s d D ep rd po fi (cP k (λq=>(q.1,ss')) I) sl su:=by
 have hs:=H.succ _ hk;refine⟨aM (cS hs H.inst nofun) H.inst,aM (cS hs H.ns nofun) H.ns, ?_,λp hp=> ?_,λp hp=> ?_,λp hp q hq=> ?_,λp hp q hq=> ?_,by rw[kg];exact H.nd,H.fp.1,H.fp.2.1,H.fp.2.2.1,λp hp=> ?_⟩
 ·rw[ve];exact aM (cS hs H.dict nofun) H.dict
 ·obtain⟨q,hq,e1,h⟩:=dH hp;have hu:=H.slot _ hq;rw[e1]at hu;refine aM (cS hs hu (by intro h;cases h)) ?_;rcases h with⟨e2,e3⟩|⟨e2,rfl⟩
  ·rw[e3];exact hu
  ·exact hu
 ·obtain⟨q,hq,e1,h⟩:=dH hp;rcases h with⟨e2,e3⟩|⟨e2,rfl⟩
  ·have:q=(k,np,ss):=tu H.nd hq hk (e1.trans e2);subst this;rw[e2,e3];exact get_set (aN hs)
  ·exact aM (H.wh _ hk _ hq (dF e2)) (H.succ _ hq)
 ·obtain⟨p',yJ,e1,_⟩:=dH hp;obtain⟨q',zB,e2,_⟩:=dH hq;rw[<-e1,<-e2];exact H.wt _ yJ _ zB
 ·obtain⟨p',yJ,e1,_⟩:=dH hp;obtain⟨q',zB,e2,_⟩:=dH hq;rw[<-e1,<-e2];exact H.wh _ yJ _ zB
 ·obtain⟨p',yJ,e1,_⟩:=dH hp;rw[<-e1];exact H.fp.2.2.2 _ yJ
theorem mL.FN (H:mL σ F s d D ep rd po fi I sl su) (XB:AV) (XD YN:Int):
  mL (σ.set d (.ns [("_node2info",.ref D),("_ready_nodes",XB),("_npassedout",.int XD),("_nfinished",.int YN)])) F s d D ep XB XD YN I sl su:=by
 have hs:=H.ns;exact⟨aM (cS hs H.inst nofun) H.inst,get_set (aN hs),aM (cS hs H.dict nofun) H.dict,λp hp=>aM (cS hs (H.slot p hp) nofun) (H.slot p hp),λp hp=>aM (cS hs (H.succ p hp) nofun) (H.succ p hp),H.wt,H.wh,H.nd,H.fp⟩
theorem mL.IM (H:mL σ F s d D ep rd po fi I sl su) {uW:Nat} (hk:I.lookup k=none) (xC:es=dictOf sl I++[(k,.ref a)])
  (ha:σ[a]? =some (.slots (.base uJ) [some (.int k),some (.int 0),some (.ref b)])) (hb:σ[b]? =some (.list [])) (na:∀p∈I,sl p.1≠a) (nb:∀p∈I,su p.1≠b) (fa:F a) (fb:F b):
  mL (σ.set D (.dict es uW)) F s d D uW rd po fi (I++[(k,0,[])]) (λx=>if x=k then a else sl x) (λx=>if x=k then b else su x):=by
 have hs:=H.dict;have hn:=lu hk;have mem:∀p∈I++[(k,(0:Int),([]:List Int))],(p∈I/\p.1≠k)\/p=(k,0,[]):=λp hp=>by
  rcases au.mp hp with h|h
  ·exact .inl ⟨h,hn p h⟩
  ·exact .inr (aA.mp h)
 refine⟨aM (cS hs H.inst nofun) H.inst,aM (cS hs H.ns nofun) H.ns, ?_,λp hp=> ?_,λp hp=> ?_,λp hp q hq apart_at=> ?_,λp hp q hq apart_at=> ?_, ?_,H.fp.1,H.fp.2.1,H.fp.2.2.1,λp hp=> ?_⟩
 ·rw[get_set (aN hs),xC];congr 2
  unfold dictOf;rw[bq];congr 1
  ·exact dc λp hp=>by dsimp only;rw[aC (hn p hp)]
  ·simp
 ·rcases mem p hp with⟨h1,h2⟩|rfl
  ·rw[aC h2,aC h2];exact aM (cS hs (H.slot p h1) nofun) (H.slot p h1)
  ·dsimp only;rw[aD rfl,aD rfl];exact aM (cS hs ha nofun) ha
 ·rcases mem p hp with⟨h1,h2⟩|rfl
  ·rw[aC h2];exact aM (cS hs (H.succ p h1) nofun) (H.succ p h1)
  ·dsimp only;rw[aD rfl];exact aM (cS hs hb nofun) hb
 ·rcases mem p hp with⟨h1,h2⟩|rfl<;>rcases mem q hq with⟨h3,h4⟩|rfl
  ·rw[aC h2,aC h4];exact H.wt _ h1 _ h3 apart_at
  ·rw[aC h2,aD rfl];exact na p h1
  ·rw[aD rfl,aC h4];exact(na q h3).symm
  ·exact absurd rfl apart_at
 ·rcases mem p hp with⟨h1,h2⟩|rfl<;>rcases mem q hq with⟨h3,h4⟩|rfl
  ·rw[aC h2,aC h4];exact H.wh _ h1 _ h3 apart_at
  ·rw[aC h2,aD rfl];exact nb p h1
  ·rw[aD rfl,aC h4];exact(nb q h3).symm
  ·exact absurd rfl apart_at
 ·rw[bq,bT];refine⟨H.nd,by simp,λx hx y hy=> ?_⟩;obtain⟨p,hp,rfl⟩:=aR.mp hx;simp only [aS,qX,aA]at hy;subst hy;exact hn p hp
 ·rcases mem p hp with⟨h1,h2⟩|rfl
  ·rw[aC h2,aC h2];exact H.fp.2.2.2 p h1
  ·rw[aD rfl,aD rfl];exact⟨fa,fb⟩
end
end
section
section
variable {Q:AV->AS->Prop} {E:Exc->AS->Prop} {l:Loc} {σ:Hp}
theorem Iu{k:Nat} {a:Addr} {ci:k7} {fi:fN} (h:P.fns a=none) (apart_at:a≠P.dN) (hc:P.clss a=some ci) (hi:P.fns ci.init=some fi) (hd:ci.hasDict=false)
  (q:bK (cX ⟨P,gj P fuel k,fuel,0⟩ fi [] (.ref σ.length::args)) (λv s=>v= .none/\Q (.ref σ.length) s) E ⟨l,σ++[.slots (.base a) (ci.slotNames.map λ_=> .none)]⟩):
  bK ((gj P fuel (k+1)).call (.base a) args) Q E ⟨l,σ⟩:=by
 show bK (fj P fuel (gj P fuel k) (.base a) args) Q E ⟨l,σ⟩;unfold fj;dsimp only;rw[aC apart_at,h,hc];dsimp only;rw[hd,hi];refine wb ?_;show bK _ _ _ ⟨l,σ++_⟩;refine wb (cL q (λv s=> ?_) λ_ _ e=>e);rintro⟨rfl,h⟩;exact h
theorem Fi{k:Nat} {a:Addr} {ci:k7} {fi:fN} (h:P.fns a=none) (apart_at:a≠P.dN) (hc:P.clss a=some ci) (hi:P.fns ci.init=some fi) (hd:ci.hasDict=true)
  (q:bK (cX ⟨P,gj P fuel k,fuel,0⟩ fi [] (.ref (σ.length+1)::args)) (λv s=>v= .none/\Q (.ref (σ.length+1)) s) E ⟨l,σ++[.ns []]++[.inst a σ.length]⟩):
  bK ((gj P fuel (k+1)).call (.base a) args) Q E ⟨l,σ⟩:=by
 show bK (fj P fuel (gj P fuel k) (.base a) args) Q E ⟨l,σ⟩;unfold fj;dsimp only;rw[aC apart_at,h,hc];dsimp only;rw[hd,hi];refine wb (wb ?_);have e:(σ++[bP.ns []]).length=σ.length+1:=by simp
 show bK (cX _ _ _ (.ref (σ++[bP.ns []]).length::args)) (λr s=>bK (match r with| .none=>PM.pure (.ref (σ++[bP.ns []]).length)|_=>PM.stuck) Q E s) E ⟨l,σ++[.ns []]++[.inst a σ.length]⟩;rw[e];refine cL q (λv s=> ?_) λ_ _ e=>e;rintro⟨rfl,h⟩;exact h
end
seal PM.bind PM.pure PM.obj PM.cm PM.alloc PM.ey PM.gd PM.within PM.sure PM.attempt PM.hp PM.b8 PM.stuck PM.raise forLoop whileLoop compLoop dj dC sortBy gj bK cX eY cg bM
section
variable {sa:Addr} {xs:List Int} {k:Nat} {l:Loc} {σ:Hp} {E:Exc->AS->Prop} {Q:AV->AS->Prop}
theorem IL{node:Int} (q:Q (.ref σ.length) ⟨l,σ++[.slots (.base uJ) [some (.int node),some (.int 0),some (.ref (σ.length+1))],.list []]⟩):
  bK ((gj (PP sa xs) 1000 (k+1)).call (.base uJ) [.int node]) Q E ⟨l,σ⟩:=by
 refine Iu rfl (show uJ≠mV by decide) rfl rfl rfl (iI ?_);f_are
 exact⟨rfl,q⟩
variable {F:Nat->Prop} {s d D ep:Nat} {rd:AV} {po fi:Int} {I:cA} {sl su:Int->Nat}
def Left (σ:Hp) (F:Nat->Prop) (s d D:Nat) (rd:AV) (po fi:Int) (I:cA) (bj:Hp):Prop:=
 ∃ep sl su,mL bj F s d D ep rd po fi I sl su/\Fr F σ bj
theorem oX{k:Int} {I:cA} {v:Int×List Int} (h:I.lookup k=some v):cO k I=I:=by unfold cO;rw[h];rfl
theorem oW{k:Int} {I:cA} (h:I.lookup k=none):cO k I=I++[(k,0,[])]:=by unfold cO;rw[h];rfl
theorem nB(v:AV) {k:Int}:∀{es:List (Int×AV)},es.lookup k=none->dictPut k v es=es++[(k,v)]
 |[],_=>rfl
 | (a,b)::es,h=>by
  rw[az]at h;unfold dictPut;by_cases q:a=k
  ·subst q;rw[cj]at h;cases h
  ·rw[aC q,bG];congr 1;refine nB v ?_;rw[aP.mpr (dF q)]at h;exact h
theorem nj{k:Int} {v:Int×List Int}:∀{I:cA},I.lookup k=none->(I++[(k,v)]).lookup k=some v
 |[],_=>by simp
 | (a,b)::I,h=>by
  rw[az]at h;rw[bG,az];by_cases q:k=a
  ·subst q;rw[cj]at h;cases h
  ·rw[aP.mpr q]at h ⊢;exact nj h
theorem yP{node:Int} (H:mL σ F s d D ep rd po fi I sl su) (hF:∀i,σ.length<=i->F i) (hl:I.length<1000)
  (q:∀bj uW zX ZJ np ss,mL bj F s d D uW rd po fi (cO node I) zX ZJ->Fr F σ bj->(node,np,ss)∈cO node I->Q (.ref (zX node)) ⟨l,bj⟩):
  bK ((gj (PP sa xs) 1000 (k+2)).call (.base Q9) [.ref s,.int node]) Q E ⟨l,σ⟩:=by
 refine w_call rfl (show Q9≠mV by decide) (iI ?_);have hs:=H.inst;have hd:=H.ns;have hD:=H.dict;have pZ:=gJ sl node I;cases e:I.lookup node with
 |some v=>
  rw[e]at pZ;f_are
  rw[pZ];f_are
  exact q σ ep sl su v.1 v.2 (by rw[oX e];exact H) Fr.refl (by rw[oX e];exact mem_of_lookup e)
 |none=>
  rw[e]at pZ;f_are
  rw[pZ];f_are
  refine IL ?_;have hlen:(dictOf sl I).length<1000:=by unfold dictOf;rw[aG];exact hl
  f_are
  have hDl:=aN hD;have hnl:(dictOf sl I).lookup node=none:=pZ;have H1:=H.app [.slots (.base uJ) [some (.int node),some (.int 0),some (.ref (σ.length+1))],.list []];have g0:(σ++[bP.slots (.base uJ) [some (.int node),some (.int 0),some (.ref (σ.length+1))],.list []])[σ.length]? =some (.slots (.base uJ) [some (.int node),some (.int 0),some (.ref (σ.length+1))]):=by simp
  have g1:(σ++[bP.slots (.base uJ) [some (.int node),some (.int 0),some (.ref (σ.length+1))],.list []])[σ.length+1]? =some (.list []):=by
   rw[aY (by omega),cB];rfl
  have H2:=H1.IM (k:=node) (a:=σ.length) (b:=σ.length+1) (uW:=if((dictOf sl I).lookup node).isSome=true then ep else ep+1) e (es:=dictPut node (.ref σ.length) (dictOf sl I)) (nB _ hnl) g0 g1 (λp hp=>by have:=aN (H.slot p hp);omega) (λp hp=>by have:=aN (H.succ p hp);omega) (hF _ (aJ _)) (hF _ (by omega));rw[Rx _ _ hDl,<-oW e]at H2;have fr:Fr F σ (σ.set D (.dict (dictPut node (.ref σ.length) (dictOf sl I)) (if((dictOf sl I).lookup node).isSome=true then ep else ep+1))++[.slots (.base uJ) [some (.int node),some (.int 0),some (.ref (σ.length+1))],.list []]):=(Fr.set H.fp.2.2.1).trans .app;have hq:=q _ _ _ _ 0 [] H2 fr (by rw[oW e];simp);rw[aD rfl]at hq;exact hq
end
end
def zg:pk->pk
 | .list n i=> .list n (i+1)
 | .tup n i=> .tup n (i+1)
 | .mH a b=> .mH (a+1) b
 | .jz n i len ep=> .jz n (i+1) len ep
 | .gy n i len ep=> .gy n (i+1) len ep
 | .obj n=> .obj n
def Es (σ:Hp):pk->List AV->Prop
 | .list n i,vs=>∃xs,σ[n]? =some (.list xs)/\xs.drop i=vs
 | .tup n i,vs=>∃xs,σ[n]? =some (.tuple xs)/\xs.drop i=vs
 | .mH a b,vs=>intsFrom a (b-a).toNat=vs
 | .jz n i len ep,vs=>∃es,σ[n]? =some (.dict es ep)/\es.length=len/\(es.map λe=>AV.int e.1).drop i=vs
 | .gy n i len ep,vs=>∃es,σ[n]? =some (.dict es ep)/\es.length=len/\(es.map (·.2)).drop i=vs
 | .obj _,_=>False
def fq (σ bj:Hp):pk->Prop
 | .list n _| .tup n _| .jz n _ _ _| .gy n _ _ _=>∀o,σ[n]? =some o->bj[n]? =some o
 |_=>True
theorem Es.keep (h:Es σ it vs) (k:fq σ bj it):Es bj it vs:=by
 cases it with
 |list n i=>obtain⟨xs,a,b⟩:=h;exact⟨xs,k _ a,b⟩
 |tup n i=>obtain⟨xs,a,b⟩:=h;exact⟨xs,k _ a,b⟩
 |mH a b=>exact h
 |jz n i len ep=>obtain⟨xs,a,b⟩:=h;exact⟨xs,k _ a,b⟩
 |gy n i len ep=>obtain⟨xs,a,b⟩:=h;exact⟨xs,k _ a,b⟩
 |obj n=>exact h.elim
theorem fq.zg {σ bj:Hp} {it:pk} (k:fq σ bj it):fq σ bj (zg it):=by cases it<;>exact k
theorem fq.back (k:fq σ bj (Mine.zg it)):fq σ bj it:=by cases it<;>exact k
theorem drop_cons{xs vs:List α} {v:α} (h:xs.drop i=v::vs):xs[i]? =some v/\xs.drop (i+1)=vs:=by
 constructor
 ·have:=dg (·[0]?) h;simpa using this
 ·have:=dg (·.drop 1) h;simpa [List.drop_drop,Nat.add_comm] using this
theorem drop_nil{xs:List α} (h:xs.drop i=[]):xs[i]? =none:=by
 rw[cE];exact List.drop_eq_nil_iff.mp h
theorem sZ(h:Es σ it (v::vs)):fu it ⟨l,σ⟩=some (.ok (some (v,zg it)),⟨l,σ⟩)/\Es σ (zg it) vs:=by
 cases it with
 |list n i=>
  obtain⟨xs,a,b⟩:=h;obtain⟨c,d⟩:=drop_cons b;refine⟨?_,xs,a,d⟩;unfold fu;show PM.bind (PM.obj n) _ _=_;unfold PM.bind PM.obj;dsimp only;rw[a];dsimp only;rw[c];rfl
 |tup n i=>
  obtain⟨xs,a,b⟩:=h;obtain⟨c,d⟩:=drop_cons b;refine⟨?_,xs,a,d⟩;unfold fu;show PM.bind (PM.obj n) _ _=_;unfold PM.bind PM.obj;dsimp only;rw[a];dsimp only;rw[c];rfl
 |mH a b=>
  have h:intsFrom a (b-a).toNat=v::vs:=h;cases e:(b-a).toNat with
  |zero=>rw[e]at h;cases h
  |succ n=>
   rw[e]at h;cases h;refine⟨?_, ?_⟩
   ·unfold fu;dsimp only;rw[aD (by omega)];rfl
   ·show intsFrom (a+1) (b-(a+1)).toNat=_;rw[show(b-(a+1)).toNat=n by omega]
 |jz n i len ep=>
  obtain⟨xs,a,b,c⟩:=h;obtain⟨c,d⟩:=drop_cons c;refine⟨?_,xs,a,b,d⟩;unfold fu;show PM.bind (PM.obj n) _ _=_;unfold PM.bind PM.obj;dsimp only;rw[a];dsimp only;rw[aD ⟨rfl,b⟩];rw[cx]at c;cases e:xs[i]? with
  |none=>rw[e]at c;cases c
  |some y=>rw[e]at c;cases c;rfl
 |gy n i len ep=>
  obtain⟨xs,a,b,c⟩:=h;obtain⟨c,d⟩:=drop_cons c;refine⟨?_,xs,a,b,d⟩;unfold fu;show PM.bind (PM.obj n) _ _=_;unfold PM.bind PM.obj;dsimp only;rw[a];dsimp only;rw[aD ⟨rfl,b⟩];rw[cx]at c;cases e:xs[i]? with
  |none=>rw[e]at c;cases c
  |some y=>rw[e]at c;cases c;rfl
 |obj n=>exact h.elim
theorem vE(h:Es σ it []):fu it ⟨l,σ⟩=some (.ok none,⟨l,σ⟩):=by
 cases it with
 |list n i=>
  obtain⟨xs,a,b⟩:=h;unfold fu;show PM.bind (PM.obj n) _ _=_;unfold PM.bind PM.obj;dsimp only;rw[a];dsimp only;rw[drop_nil b];rfl
 |tup n i=>
  obtain⟨xs,a,b⟩:=h;unfold fu;show PM.bind (PM.obj n) _ _=_;unfold PM.bind PM.obj;dsimp only;rw[a];dsimp only;rw[drop_nil b];rfl
 |mH a b=>
  have h:intsFrom a (b-a).toNat=[]:=h;cases e:(b-a).toNat with
  |succ n=>rw[e]at h;cases h
  |zero=>
   unfold fu;dsimp only;rw[aC (by omega)];rfl
 |jz n i len ep=>
  obtain⟨xs,a,b,c⟩:=h;have c:=drop_nil c;unfold fu;show PM.bind (PM.obj n) _ _=_;unfold PM.bind PM.obj;dsimp only;rw[a];dsimp only;rw[aD ⟨rfl,b⟩];rw[cx]at c;cases e:xs[i]? with
  |none=>rfl
  |some y=>rw[e]at c;cases c
 |gy n i len ep=>
  obtain⟨xs,a,b,c⟩:=h;have c:=drop_nil c;unfold fu;show PM.bind (PM.obj n) _ _=_;unfold PM.bind PM.obj;dsimp only;rw[a];dsimp only;rw[aD ⟨rfl,b⟩];rw[cx]at c;cases e:xs[i]? with
  |none=>rfl
  |some y=>rw[e]at c;cases c
 |obj n=>exact h.elim
section
variable {P:Prog} {fuel k:Nat} {l:Loc} {σ:Hp} {E:Exc->AS->Prop} {Q:AV->AS->Prop} {n:Nat} {vs:List AV}
theorem Nm(h:σ[n]? =some (.list vs)) (q:Q (.int vs.length) ⟨l,σ⟩):bK (cg "len" [.ref n]) Q E ⟨l,σ⟩:=by
 show bK (PM.bind (PM.obj n) _) Q E ⟨l,σ⟩;exact wb (jf h q)
theorem Nk(h:σ[n]? =some (.tuple vs)) (q:Q (.int vs.length) ⟨l,σ⟩):bK (cg "len" [.ref n]) Q E ⟨l,σ⟩:=by
 show bK (PM.bind (PM.obj n) _) Q E ⟨l,σ⟩;exact wb (jf h q)
theorem Q4{i:Int} (h:σ[n]? =some (.list vs)) (hs:CW vs 0=some i) (q:Q (.int i) ⟨l,σ⟩):bK (cg "sum" [.ref n]) Q E ⟨l,σ⟩:=by
 show bK (PM.bind (PM.bind (PM.obj n) _) _) Q E ⟨l,σ⟩;refine wb (wb (jf h ?_));show bK (PM.bind (PM.b8 (CW vs 0)) _) Q E ⟨l,σ⟩;rw[hs];exact q
theorem Q6(h:σ[n]? =some (.tuple vs)) (q:Q (.bool true) ⟨l,σ⟩):bK (cg "isinstance" [.ref n,.ty "tuple"]) Q E ⟨l,σ⟩:=by
 show bK (PM.bind (PM.obj n) _) Q E ⟨l,σ⟩;exact wb (jf h q)
theorem Nn(h:σ[n]? =some (.list vs)) (q:bK (PM.bind (PM.alloc (.eZ n 0)) λr=>PM.pure (.ref r)) Q E ⟨l,σ⟩):bK (cg "iter" [.ref n]) Q E ⟨l,σ⟩:=by
 show bK (PM.bind (PM.obj n) _) Q E ⟨l,σ⟩;exact wb (jf h q)
theorem Hn(q:bK (PM.bind (eA v) λxs=>PM.bind (PM.sure (dn xs)) λys=>PM.bind (PM.alloc (.list ys)) λr=>PM.pure (.ref r)) Q E ⟨l,σ⟩):bK (cg "sorted" [v]) Q E ⟨l,σ⟩:=q
theorem JS(h:σ[n]? =some (.list vs)) (q:bK (PM.bind (PM.alloc (.tuple vs)) λr=>PM.pure (.ref r)) Q E ⟨l,σ⟩):bK (bM "tuple" [.ref n]) Q E ⟨l,σ⟩:=by
 show bK (PM.bind (PM.bind (PM.obj n) _) _) Q E ⟨l,σ⟩;exact wb (wb (jf h q))
theorem Nj(h:σ[n]? =some (.tuple vs)) (q:bK (PM.bind (PM.alloc (.list vs)) λr=>PM.pure (.ref r)) Q E ⟨l,σ⟩):bK (bM "list" [.ref n]) Q E ⟨l,σ⟩:=by
 show bK (PM.bind (PM.bind (PM.obj n) _) _) Q E ⟨l,σ⟩;exact wb (wb (jf h q))
theorem Q5(q:bK (PM.bind (PM.alloc (.set [])) λr=>PM.pure (.ref r)) Q E ⟨l,σ⟩):bK (bM "set" []) Q E ⟨l,σ⟩:=q
theorem Np(q:bK (PM.bind (ig v) λb=>PM.pure (.bool b)) Q E ⟨l,σ⟩):bK (bM "bool" [v]) Q E ⟨l,σ⟩:=q
theorem Hq{b:Int} (q:bK (PM.bind (PM.alloc (.mH 0 b)) λr=>PM.pure (.ref r)) Q E ⟨l,σ⟩):bK (bM "range" [.int b]) Q E ⟨l,σ⟩:=q
theorem Ho{a b:Int} (q:bK (PM.bind (PM.alloc (.mH a b)) λr=>PM.pure (.ref r)) Q E ⟨l,σ⟩):bK (bM "range" [.int a,.int b]) Q E ⟨l,σ⟩:=q
end
theorem zM{hd:Nat} {xs:List AV} {Q:AV->AS->Prop} {E:Exc->AS->Prop} {st:AS} (q:Q v st):bK (jZ hd (xs++[v]) (-1)) Q E st:=by
 unfold jZ;rw[aC (by decide),aD rfl,uE];exact q
local macro_rules | `(tactic|fresh_at)=> `(tactic|first| (show bK (cg "len" _) _ _ _;first|refine Nm (by ints_of) ?_|refine Nk (by ints_of) ?_)| (show bK (bM "range" _) _ _ _;first|refine Hq ?_|refine Ho ?_)| (show bK (bM "set" _) _ _ _;refine Q5 ?_)| (show bK (bM "bool" _) _ _ _;refine Np ?_)| (show bK (bM "tuple" _) _ _ _;refine JS (by ints_of) ?_)| (show bK (bM "list" _) _ _ _;refine Nj (by ints_of) ?_)| (show bK (cg "isinstance" _) _ _ _;refine Q6 (by ints_of) ?_)| (show bK (cg "iter" _) _ _ _;refine Nn (by ints_of) ?_)| (show bK (cg "sorted" _) _ _ _;refine Hn ?_))
def CD (P:AS->Prop) (Q:dk->AS->Prop):dk->AS->Prop
 | .next,s=>P s
 | .cont,s=>P s
 | .brk,s=>Q .next s
 | .ret v,s=>Q (.ret v) s
theorem km{P:List AV->AS->Prop} {assign:AV->PM Unit} {body orelse:PM dk} {Q:dk->AS->Prop} {E:Exc->AS->Prop}:∀(fuel:Nat) (vs:List AV) (it:pk) (l:Loc) (σ:Hp),Es σ it vs->P vs ⟨l,σ⟩->vs.length<fuel->
  (∀v vs l σ,P (v::vs) ⟨l,σ⟩->bK (assign v) (λ_ s1=>bK body (CD (λs2=>P vs s2/\fq σ s2.hp it) Q) E s1) E ⟨l,σ⟩)->
  (∀s,P [] s->bK orelse Q E s)->bK (forLoop fuel assign body orelse it) Q E ⟨l,σ⟩
 |0,vs,_,_,_,_,_,h,_,_=>absurd h (fB _)
 |f+1,[],it,l,σ,hi,hp,_,_,fin=>by
  unfold forLoop;show bK (PM.bind (fu it) _) Q E ⟨l,σ⟩;refine wb (we (vE hi) ?_);exact fin _ hp
 |f+1,v::vs,it,l,σ,hi,hp,hf,step,fin=>by
  obtain⟨h1,h2⟩:=sZ (l:=l) hi;unfold forLoop;show bK (PM.bind (fu it) _) Q E ⟨l,σ⟩;refine wb (we h1 ?_);dsimp only;refine wb (cL (step v vs l σ hp) (λ_ s1 h=> ?_) λ_ _ e=>e);refine wb (cL h (λfl s2 h=> ?_) λ_ _ e=>e);cases fl with
  |next=>exact km f vs (zg it) s2.loc s2.hp (h2.keep h.2.zg) h.1 (du hf) (λv vs l σ hp=>cL (step v vs l σ hp) (λ_ s1 h=>cL h (λfl s2 h=>by
    cases fl with
    |next=>exact⟨h.1,h.2.zg⟩
    |cont=>exact⟨h.1,h.2.zg⟩
    |brk=>exact h
    |ret x=>exact h) λ_ _ e=>e) λ_ _ e=>e) fin
  |cont=>exact km f vs (zg it) s2.loc s2.hp (h2.keep h.2.zg) h.1 (du hf) (λv vs l σ hp=>cL (step v vs l σ hp) (λ_ s1 h=>cL h (λfl s2 h=>by
    cases fl with
    |next=>exact⟨h.1,h.2.zg⟩
    |cont=>exact⟨h.1,h.2.zg⟩
    |brk=>exact h
    |ret x=>exact h) λ_ _ e=>e) λ_ _ e=>e) fin
  |brk=>exact h
  |ret x=>exact h
theorem pB{P:Nat->AS->Prop} {test:PM Bool} {body orelse:PM dk} {Q:dk->AS->Prop} {E:Exc->AS->Prop}:∀(fuel n:Nat) (l:Loc) (σ:Hp),P n ⟨l,σ⟩->n<fuel->
  (∀n l σ,P n ⟨l,σ⟩->bK test (λb s1=>match b with
   |true=>bK body (CD (λs2=>∃m,m<n/\P m s2) Q) E s1
   |false=>bK orelse Q E s1) E ⟨l,σ⟩)->bK (whileLoop fuel test body orelse) Q E ⟨l,σ⟩
 |0,_,_,_,_,h,_=>absurd h (fB _)
 |f+1,n,l,σ,hp,hf,step=>by
  unfold whileLoop;refine wb (cL (step n l σ hp) (λb s1 h=> ?_) λ_ _ e=>e);cases b with
  |false=>exact h
  |true=>
   refine wb (cL h (λfl s2 h=> ?_) λ_ _ e=>e);cases fl with
   |next=>obtain⟨m,hm,yJ⟩:=h;exact pB f m s2.loc s2.hp yJ (by omega) step
   |cont=>obtain⟨m,hm,yJ⟩:=h;exact pB f m s2.loc s2.hp yJ (by omega) step
   |brk=>exact h
   |ret x=>exact h
theorem qw{P:List AV->AS->Prop} {assign:AV->PM Unit} {ifs:PM Bool} {body:PM Unit} {Q:Unit->AS->Prop} {E:Exc->AS->Prop}:∀(fuel:Nat) (vs:List AV) (it:pk) (l:Loc) (σ:Hp),Es σ it vs->P vs ⟨l,σ⟩->vs.length<fuel->
  (∀v vs l σ,P (v::vs) ⟨l,σ⟩->bK (assign v) (λ_ s1=>bK ifs (λb s2=>bK (if b=true then body else PM.pure ()) (λ_ s3=>P vs s3/\fq σ s3.hp it) E s2) E s1) E ⟨l,σ⟩)->
  (∀s,P [] s->Q () s)->bK (compLoop fuel assign ifs body it) Q E ⟨l,σ⟩
 |0,vs,_,_,_,_,_,h,_,_=>absurd h (fB _)
 |f+1,[],it,l,σ,hi,hp,_,_,fin=>by
  unfold compLoop;show bK (PM.bind (fu it) _) Q E ⟨l,σ⟩;refine wb (we (vE hi) ?_);exact fin _ hp
 |f+1,v::vs,it,l,σ,hi,hp,hf,step,fin=>by
  obtain⟨h1,h2⟩:=sZ (l:=l) hi;unfold compLoop;show bK (PM.bind (fu it) _) Q E ⟨l,σ⟩;refine wb (we h1 ?_);dsimp only;refine wb (cL (step v vs l σ hp) (λ_ s1 h=> ?_) λ_ _ e=>e);refine wb (cL h (λb s2 h=> ?_) λ_ _ e=>e);have h':bK (PM.bind (if b=true then body else PM.pure ()) λ_=>compLoop f assign ifs body (zg it)) Q E s2:= ?_
  ·cases b<;>exact h'
  refine wb (cL h (λ_ s3 h=> ?_) λ_ _ e=>e);exact qw f vs (zg it) s3.loc s3.hp (h2.keep h.2.zg) h.1 (du hf) (λv vs l σ hp=>cL (step v vs l σ hp) (λ_ s1 h=>cL h (λb s2 h=>cL h (λ_ s3 h=>⟨h.1,h.2.zg⟩) λ_ _ e=>e) λ_ _ e=>e) λ_ _ e=>e) fin
section
seal PM.bind PM.pure PM.obj PM.cm PM.alloc PM.ey PM.gd PM.within PM.sure PM.attempt PM.hp PM.b8 PM.stuck PM.raise forLoop whileLoop compLoop dj dC sortBy gj bK cX eY cg bM
section
variable {sa:Addr} {xs:List Int} {k:Nat} {l:Loc} {σ:Hp} {E:Exc->AS->Prop} {Q:AV->AS->Prop}
variable {F:Nat->Prop} {s d D ep:Nat} {rd:AV} {po fi:Int} {I:cA} {sl su:Int->Nat}
def Small (n:Nat) (I:cA):Prop:=I.length<=n/\∀p∈I,p.2.2.length<=n
theorem Small.mono (h:Small n I) (q:n<=m):Small m I:=⟨cy h.1 q,λp hp=>cy (h.2 p hp) q⟩
theorem Small.lD (h:Small n I):Small (n+1) (cO x I):=by
 unfold cO;split
 ·exact h.mono (j1 n)
 ·refine⟨by rw[af];exact lG h.1,λp hp=> ?_⟩;rcases au.mp hp with m|m
  ·exact zo (h.2 p m)
  ·rw[aA.mp m];exact bW _
theorem Small.vd {f:Int->Int} (h:Small n I):Small n (cP x (λq=>(f q.1,q.2)) I):=by
 refine⟨by unfold cP;rw[aG];exact h.1,λp hp=> ?_⟩;obtain⟨q,hq,e,h'⟩:=dH hp;rcases h' with⟨_,e3⟩|⟨_,rfl⟩
 ·rw[e3];exact h.2 q hq
 ·exact h.2 _ hq
theorem Small.OU (h:Small n I):Small (n+1) (cP x (λq=>(q.1,q.2++[y])) I):=by
 refine⟨by unfold cP;rw[aG];exact zo h.1,λp hp=> ?_⟩;obtain⟨q,hq,e,h'⟩:=dH hp;rcases h' with⟨_,e3⟩|⟨_,rfl⟩
 ·rw[e3];dsimp only;rw[af];exact lG (h.2 q hq)
 ·exact zo (h.2 _ hq)
def fZ (node:Int) (I:cA) (p:Int):cA:=cP p (λq=>(q.1,q.2++[node])) (cO p I)
def xo (node:Int) (ps:List Int) (I:cA):cA:=ps.foldl (fZ node) (cP node (λq=>(q.1+ps.length,q.2)) (cO node I))
theorem Small.pred (h:Small n I):Small (n+2) (fZ x I y):=h.lD.OU
def SG (F:Nat->Prop) (s d D:Nat) (rd:AV) (po fi:Int) (I:cA) (σ:Hp):Prop:=∃ep sl su,mL σ F s d D ep rd po fi I sl su
theorem Hx{node:Int} {ps:List Int} (H:SG F s d D .none po fi I σ) (hF:∀i,σ.length<=i->F i) (hs:Small n I) (hn:n+2*ps.length+2<1000)
  (q:∀bj,SG F s d D .none po fi (xo node ps I) bj->Fr F σ bj->Q .none ⟨l,bj⟩):
  bK ((gj (PP sa xs) 1000 (k+3)).call (.base Rc) (.ref s:: .int node::ps.map .int)) Q E ⟨l,σ⟩:=by
 obtain⟨ep,sl,su,H⟩:=H;refine w_call rfl (show Rc≠mV by decide) (iI ?_);have hi:=H.inst;have hd:=H.ns;have hD:=H.dict;f_are
 have HG:mL (σ++[.tuple (ps.map .int)]) (λi=>F i/\i≠σ.length) s d D ep .none po fi I sl su:=(H.mono (λi h f=>⟨f,dW h⟩)).app _;refine yP HG (λi h=>⟨hF i (by simp at h;omega),by simp at h;omega⟩) (by have:=hs.1;omega) ?_;intro dO ep1 Tu Xx np ss H1 M9 hm;have ht:dO[σ.length]? =some (.tuple (ps.map .int)):=M9.keep σ.length _ (λh=>h.2 rfl) eM;have Kn:dO[Tu node]? =some (.slots (.base uJ) [some (.int node),some (.int np),some (.ref (Xx node))]):=H1.slot _ hm;have hlen:(ps.map AV.int).length=ps.length:=aG ..;f_are
 rw[hlen];have H2:=H1.BJ (n:=np+ps.length) hm;have eI:cP node (λq=>(np+(ps.length:Int),q.2)) (cO node I)=cP node (λq=>(q.1+(ps.length:Int),q.2)) (cO node I):=by
  unfold cP;refine dc λp hp=> ?_;by_cases e:p.1=node
  ·rw[aD e,aD e];have:p=(node,np,ss):=tu H1.nd hp hm e;rw[this]
  ·rw[aC e,aC e]
 rw[eI]at H2;have p7:Fr (λi=>F i/\i≠σ.length) (σ++[.tuple (ps.map .int)]) (dO.set (Tu node) (.slots (.base uJ) [some (.int node),some (.int (np+ps.length)),some (.ref (Xx node))])):=M9.trans (.set (H1.fp.2.2.2 _ hm).1);have ht2:=p7.keep σ.length _ (λh=>h.2 rfl) eM;have hs1:Small (n+1) (cP node (λq=>(q.1+(ps.length:Int),q.2)) (cO node I)):=hs.lD.vd (f:=λz=>z+(ps.length:Int));refine km (P:=fun(rest:List AV) (st:AS)=>∃(bj:Hp) (lx:Loc) (qs gX:List Int),st=AS.mk ([(("self":Str),AV.ref s),("node",AV.int node),("predecessors",AV.ref σ.length),("nodeinfo",AV.ref (Tu node))]++lx) bj/\(lx=[]\/∃a b,lx=[(("pred":Str),a),("pred_info",b)])/\rest=gX.map .int/\ps=qs++gX/\
   SG (λi=>F i/\i≠σ.length) s d D .none po fi (qs.foldl (fZ node) (cP node (λq=>(q.1+ps.length,q.2)) (cO node I))) bj/\Fr (λi=>F i/\i≠σ.length) (σ++[.tuple (ps.map .int)]) bj/\Small (n+1+2*qs.length) (qs.foldl (fZ node) (cP node (λq=>(q.1+ps.length,q.2)) (cO node I)))) 1000 (ps.map .int) _ _ _ ⟨_,ht2,rfl⟩ ?_ (by rw[hlen];omega) ?_ ?_
 ·refine⟨_,[],[],ps, ?_,.inl rfl,rfl,rfl,⟨_,_,_,H2⟩,p7,hs1⟩;rfl
 ·rintro v vs l' bj ⟨Ii,lx,qs,gX,e1,Jo,e3,rfl,⟨ep3,ZN,ZI,H3⟩,nZ,Ji⟩;cases gX with
  |nil=>cases e3
  |cons p gX=>
   cases e3;cases e1;have Us:2*qs.length+2*(gX.length+1)=2*(qs++p::gX).length:=by simp;omega
   have hi3:=H3.inst;have hd3:=H3.ns;have X5:σ.length+1<=bj.length:=by have:=nZ.len;simp at this;omega
   rcases Jo with rfl|⟨a,b,rfl⟩;all_goals
    f_are
    refine yP H3 (λi h=>⟨hF i (by omega),by omega⟩) (by have:=Ji.1;omega) ?_;intro jv ep4 ZM Xw XH O0 H4 rV Ku;have aav:jv[ZM p]? =some (.slots (.base uJ) [some (.int p),some (.int XH),some (.ref (Xw p))]):=H4.slot _ Ku;have aat:jv[Xw p]? =some (.list (O0.map .int)):=H4.succ _ Ku;have hb:(O0.map AV.int).length<10000:=by rw[aG];have:=Ji.lD.2 _ Ku;dsimp only at this;omega
    f_are
    have H5:=H4.O1 (ss':=O0++[node]) Ku;have eI5:cP p (λq=>(q.1,O0++[node])) (cO p (qs.foldl (fZ node) (cP node (λq=>(q.1+((qs++p::gX).length:Int),q.2)) (cO node I))))=fZ node (qs.foldl (fZ node) (cP node (λq=>(q.1+((qs++p::gX).length:Int),q.2)) (cO node I))) p:=by
     unfold fZ cP;refine dc λq hq=> ?_;by_cases e:q.1=p
     ·rw[aD e,aD e];have:q=(p,XH,O0):=tu H4.nd hq Ku e;rw[this]
     ·rw[aC e,aC e]
    rw[eI5]at H5;refine⟨⟨_,_,qs++[p],gX,rfl,.inr ⟨_,_,rfl⟩,rfl,by simp, ?_, ?_, ?_⟩, ?_⟩
    ·rw[fA];rw[bq]at H5;exact⟨_,_,_,H5⟩
    ·exact(nZ.trans rV).trans (.set (H4.fp.2.2.2 _ Ku).2)
    ·rw[fA];have:=Ji.pred (x:=node) (y:=p);rw[af];exact this
    ·intro o ho;have ho:bj[σ.length]? =some o:=ho;have:=nZ.keep σ.length _ (λh=>h.2 rfl) eM;rw[ho]at this;cases this;exact(rV.trans (.set (H4.fp.2.2.2 _ Ku).2)).keep σ.length _ (λh=>h.2 rfl) ho
 ·rintro st ⟨bj,lx,qs,gX,rfl,Jo,e3,e4,⟨ep3,ZN,ZI,H3⟩,nZ,Ji⟩;cases gX with
  |cons p gX=>cases e3
  |nil=>
   rw[aX]at e4;subst e4;f_are
   exact q _ ⟨_,_,_,H3.mono λi _ h=>h.1⟩ (Fr.app.trans (nZ.mono λi _ h=>h.1))
end
end
section
seal PM.bind PM.pure PM.obj PM.cm PM.alloc PM.ey PM.gd PM.within PM.sure PM.attempt PM.hp PM.b8 PM.stuck PM.raise forLoop whileLoop compLoop dj dC sortBy gj bK cX eY cg bM
section
variable {sa:Addr} {xs:List Int} {k:Nat} {l:Loc} {σ:Hp} {E:Exc->AS->Prop} {Q:AV->AS->Prop}
variable {F:Nat->Prop} {s d D ep:Nat} {rd:AV} {po fi:Int} {I:cA} {sl su:Int->Nat}
structure SR (F:Nat->Prop) (s d D r:Nat) (rs:List Int) (po fi:Int) (I:cA) (σ:Hp):Prop where
 sg:∃ep sl su,mL σ F s d D ep (.ref r) po fi I sl su/\∀p∈I,su p.1≠r
 rd:σ[r]? =some (.list (rs.map .int))
 fr:F r
theorem mL.FL (H:mL σ F s d D ep rd po fi I sl su) (hr:σ[r]? =some (.list ys)) (apart_at:∀p∈I,su p.1≠r) (o:bP):mL (σ.set r o) F s d D ep rd po fi I sl su:=
 ⟨aM (cS hr H.inst (by intro h;cases h)) H.inst,aM (cS hr H.ns (by intro h;cases h)) H.ns,aM (cS hr H.dict (by intro h;cases h)) H.dict,
  λp hp=>aM (cS hr (H.slot p hp) (by intro h;cases h)) (H.slot p hp),λp hp=>aM (dF (apart_at p hp)) (H.succ p hp),H.wt,H.wh,H.nd,H.fp⟩
theorem ni{v:Int×List Int} (h:(x,v)∈cP y f I):∃v',(x,v')∈I:=by
 obtain⟨q,hq,e,_⟩:=dH h;exact⟨q.2,by rw[<-show q.1=x from e];exact hq⟩
theorem SR.other {r:Nat} {rs:List Int} (H:SR F s d D r rs po fi I σ) {bj:Hp} (x:Fr (λi=>¬F i) σ bj):SR F s d D r rs po fi I bj:=by
 obtain⟨⟨ep,sl,su,H,h1⟩,h2,h3⟩:=H;exact⟨⟨ep,sl,su,H.other x,h1⟩,x.keep _ _ (λq=>q h3) h2,h3⟩
theorem SR.mono {r:Nat} {rs:List Int} {G:Nat->Prop} (H:SR F s d D r rs po fi I σ) (h:∀i<σ.length,F i->G i):SR G s d D r rs po fi I σ:=by
 obtain⟨⟨ep,sl,su,H,h1⟩,h2,h3⟩:=H;exact⟨⟨ep,sl,su,H.mono h,h1⟩,h2,h _ (aN h2) h3⟩
theorem DJ(hF:∀i,σ.length<=i->F i) (q:∀bj,SG F (σ.length+1) σ.length (σ.length+2) .none 0 0 [] bj->Fr F σ bj->Q (.ref (σ.length+1)) ⟨l,bj⟩):
  bK ((gj (PP sa xs) 1000 (k+1)).call (.base WT) []) Q E ⟨l,σ⟩:=by
 refine Fi rfl (show WT≠mV by decide) rfl rfl rfl (iI ?_);rw[bc];f_are
 refine⟨rfl,q _ ⟨0,λ_=>0,λ_=>0, ?_⟩ .app⟩;have g:∀(τ:Hp) (j:Nat) (o:bP),τ[j]? =some o->(σ++τ)[σ.length+j]? =some o:=λτ j o h=>by
  rw[aY (by omega),cB];exact h
 exact⟨g _ 1 _ rfl,g _ 0 _ rfl,g _ 2 _ rfl,λp h=>(nomatch h),λp h=>(nomatch h),λp h=>(nomatch h),λp h=>(nomatch h),kN,hF _ (by omega),hF _ (by omega),hF _ (by omega),λp h=>(nomatch h)⟩
theorem ur{rs:List Int} (H:SR F s d D r rs po fi I σ) (q:Q (.bool (decide (fi<po)|| !rs.isEmpty)) ⟨l,σ⟩):
  bK ((gj (PP sa xs) 1000 (k+2)).call (.base Rd) [.ref s]) Q E ⟨l,σ⟩:=by
 obtain⟨⟨ep,sl,su,H,_⟩,hr,_⟩:=H;refine w_call rfl (show Rd≠mV by decide) (iI ?_);have hi:=H.inst;have hd:=H.ns;f_are
 cases h:decide (fi<po)with
 |true=>
  f_are
  rw[h,zt]at q;exact q
 |false=>
  f_are
  rw[h,J0]at q;have e:(rs.map AV.int).isEmpty=rs.isEmpty:=by cases rs<;>rfl
  rw[e];exact q
def outI (rs:List Int) (I:cA):cA:=rs.foldl (λI x=>cP x (λq=>(-1,q.2)) I) I
theorem iU{x y:Int} {f:Int×List Int->Int×List Int}:∀{I:cA},(cP y f I).lookup x=(I.lookup x).map λv=>if x=y then f v else v
 |[]=>rfl
 | (a,b)::I=>by
  show((if a=y then(a,f b)else(a,b))::cP y f I).lookup x=_
  have ih:=iU (x:=x) (y:=y) (f:=f) (I:=I);by_cases h:a=y
  ·rw[aD h,az,az];by_cases e:x=a
   ·subst e;subst h;simp
   ·rw[aP.mpr e];exact ih
  ·rw[aC h,az,az];by_cases e:x=a
   ·subst e;simp [h]
   ·rw[aP.mpr e];exact ih
theorem fh{I:cA}:((cP y f I).lookup x).isSome=(I.lookup x).isSome:=by rw[iU];cases I.lookup x<;>rfl
theorem oS{x:Int}:∀(rs:List Int) (I:cA),((outI rs I).lookup x).isSome=(I.lookup x).isSome
 |[],_=>rfl
 |y::rs,I=>by
  show((outI rs (cP y _ I)).lookup x).isSome=_
  rw[oS rs,fh]
theorem yu{x:Int}:∀{rs:List Int} {I:cA} {v:Int×List Int},(x,v)∈outI rs I->∃v',(x,v')∈I
 |[],_,v,h=>⟨v,h⟩
 |_::rs,I,_,h=>by
  obtain⟨v',h'⟩:=yu (rs:=rs) h;exact ni h'
theorem yQ{rs:List Int} (H:SR F s d D r rs po fi I σ) (hF:∀i,σ.length<=i->F i) (hrs:∀x∈rs,(I.lookup x).isSome=true) (hl:rs.length<1000)
  (q:∀bj,SR (λi=>F i/\i≠σ.length) s d D r [] (po+rs.length) fi (outI rs I) bj->Fr F σ bj->bj[σ.length]? =some (.tuple (rs.map .int))->Q (.ref σ.length) ⟨l,bj⟩):
  bK ((gj (PP sa xs) 1000 (k+2)).call (.base Ra) [.ref s]) Q E ⟨l,σ⟩:=by
 have H0:=H;obtain⟨⟨ep,sl,su,H,apart_at⟩,hr,DX⟩:=H;refine w_call rfl (show Ra≠mV by decide) (iI ?_);have hi:=H.inst;have hd:=H.ns;have HG:mL (σ++[.tuple (rs.map .int)]) (λi=>F i/\i≠σ.length) s d D ep (.ref r) po fi I sl su:=(H.mono (λi h f=>⟨f,dW h⟩)).app _;have hlen:(rs.map AV.int).length=rs.length:=aG ..;f_are
 refine km (P:=fun(rest:List AV) (st:AS)=>∃(bj:Hp) (lx:Loc) (qs sN:List Int),st=AS.mk ([(("self":Str),AV.ref s),("result",AV.ref σ.length),("n2i",AV.ref D)]++lx) bj/\(lx=[]\/∃a,lx=[(("node":Str),a)])/\rest=sN.map .int/\rs=qs++sN/\
   mL bj (λi=>F i/\i≠σ.length) s d D ep (.ref r) po fi (outI qs I) sl su/\Fr (λi=>F i/\i≠σ.length) (σ++[.tuple (rs.map .int)]) bj/\bj[r]? =some (.list (rs.map .int))) 1000 (rs.map .int) _ _ _ ⟨_,eM,rfl⟩ ?_ (by rw[hlen];omega) ?_ ?_
 ·exact⟨_,[],[],rs,rfl,.inl rfl,rfl,rfl,HG,.refl,bh hr⟩
 ·rintro v vs l' bj ⟨Ii,lx,qs,sN,e1,Jo,e3,rfl,H3,nZ,zA⟩;cases sN with
  |nil=>cases e3
  |cons p sN=>
   cases e3;cases e1;have hp:((outI qs I).lookup p).isSome=true:=by rw[oS];exact hrs p (by simp)
   obtain⟨⟨np,ss⟩,hv⟩:=cJ.mp hp;have hm:=mem_of_lookup hv;have hD3:=H3.dict;have pZ:(dictOf sl (outI qs I)).lookup p=some (.ref (sl p)):=by rw[gJ,hv];rfl
   have hsl:bj[sl p]? =some (.slots (.base uJ) [some (.int p),some (.int np),some (.ref (su p))]):=H3.slot _ hm;have H4:=H3.BJ (n:= -1) hm;have eI:cP p (λq=>(-1,q.2)) (outI qs I)=outI (qs++[p]) I:=by unfold outI;rw[fA];rfl
   rw[eI]at H4;have rV:=nZ.trans (.set (o:= .slots (.base uJ) [some (.int p),some (.int (-1)),some (.ref (su p))]) (H3.fp.2.2.2 _ hm).1);rcases Jo with rfl|⟨a,rfl⟩;all_goals
    f_are
    refine⟨⟨_,_,qs++[p],sN,rfl,.inr ⟨_,rfl⟩,rfl,by simp,H4,rV,aM (cS hsl zA (by intro h;cases h)) zA⟩, ?_⟩;intro o ho;have ho:bj[σ.length]? =some o:=ho;exact aM (λe=>(H3.fp.2.2.2 _ hm).1.2 e) ho
 ·rintro st ⟨bj,lx,qs,sN,rfl,Jo,e3,e4,H3,nZ,zA⟩;cases sN with
  |cons p gX=>cases e3
  |nil=>
   rw[aX]at e4;subst e4;have hi:=H3.inst;have hd:=H3.ns;have ht:=nZ.keep σ.length _ (λh=>h.2 rfl) eM;have RX:r≠σ.length:=dW (aN hr);have aax:r≠s:=cS zA hi (by intro h;cases h);have Uq:r≠d:=cS zA hd (by intro h;cases h);rcases Jo with rfl|⟨a,rfl⟩;all_goals
    f_are
    rw[hlen];have wX:∀p∈outI rs I,su p.1≠r:=λp hp=>let ⟨v,hv⟩:=yu hp;apart_at (p.1,v) hv;refine q _ ⟨⟨_,_,_,(H3.FL zA wX (.list [])).FN _ _ _,wX⟩,aM Uq.symm (get_set (aN zA)),DX,RX⟩ (Fr.app.trans ((nZ.mono λi _ h=>h.1).trans (.trans (.set DX) (.set H3.fp.2.1.1)))) (aM (cS hd ht (by intro h;cases h)) (aM RX ht))
end
end
section
seal PM.bind PM.pure PM.obj PM.cm PM.alloc PM.ey PM.gd PM.within PM.sure PM.attempt PM.hp PM.b8 PM.stuck PM.raise forLoop whileLoop compLoop dj dC sortBy gj bK cX eY cg bM
section
variable {sa:Addr} {xs:List Int} {k:Nat} {l:Loc} {σ:Hp} {E:Exc->AS->Prop} {Q:AV->AS->Prop}
variable {F:Nat->Prop} {s d D ep:Nat} {rd:AV} {po fi:Int} {I:cA} {sl su:Int->Nat}
abbrev u3:=cA×List Int
def gW (st:u3) (x:Int):u3:=(cP x (λq=>(q.1-1,q.2)) st.1,if(st.1.lookup x).map (λv=>v.1-1)=some 0 then st.2++[x]else st.2)
def di (st:u3) (x:Int):u3:=match st.1.lookup x with
 |some (_,ss)=>ss.foldl gW (cP x (λq=>(-2,q.2)) st.1,st.2)
 |none=>st
def Ke (st:u3) (x:Int):Prop:=∃ss,st.1.lookup x=some (-1,ss)/\∀y∈ss,(st.1.lookup y).isSome=true
def sU:List Int->u3->Prop
 |[],_=>True
 |x::r,st=>Ke st x/\sU r (di st x)
theorem j8(a b:Int):PyData.eqv (.int a) (.int b)=decide (a=b):=by rfl
theorem tx{x:Int}:∀{ts:List Int} {st:u3} {v:Int×List Int},(x,v)∈(ts.foldl gW st).1->∃v',(x,v')∈st.1
 |[],_,v,h=>⟨v,h⟩
 |y::ts,st,_,h=>by
  obtain⟨v',h'⟩:=tx (ts:=ts) h;exact ni (y:=y) (f:=λq=>(q.1-1,q.2)) (I:=st.1) h'
theorem t9{np:Int} (h:st.1.lookup x=some (np,ss)):di st x=ss.foldl gW (cP x (λq=>(-2,q.2)) st.1,st.2):=by unfold di;rw[h]
theorem oL{n:Nat}:∀{ts:List Int} {st:u3},Small n st.1->Small n (ts.foldl gW st).1
 |[],_,h=>h
 |_::ts,st,h=>oL (ts:=ts) (st:=gW st _) (h.vd (f:=λz=>z-1))
theorem Eg{rs nodes:List Int} (H:SR F s d D r rs po fi I σ) (hF:∀i,σ.length<=i->F i) (hok:sU nodes (I,rs)) (hs:Small n I) (hn:n<1000) (hl:nodes.length<900) (hb:rs.length+nodes.length*n<10000)
  (q:∀bj,SR F s d D r (nodes.foldl di (I,rs)).2 po (fi+nodes.length) (nodes.foldl di (I,rs)).1 bj->Fr F σ bj->Q .none ⟨l,bj⟩):
  bK ((gj (PP sa xs) 1000 (k+2)).call (.base KY) (.ref s::nodes.map .int)) Q E ⟨l,σ⟩:=by
 obtain⟨⟨ep,sl,su,H,apart_at⟩,hr,DX⟩:=H;refine w_call rfl (show KY≠mV by decide) (iI ?_);have hi:=H.inst;have hd:=H.ns;have HG:mL (σ++[.tuple (nodes.map .int)]) (λi=>F i/\i≠σ.length) s d D ep (.ref r) po fi I sl su:=(H.mono (λi h f=>⟨f,dW h⟩)).app _;have hlen:(nodes.map AV.int).length=nodes.length:=aG ..;have RX:r≠σ.length:=dW (aN hr);f_are
 refine km (P:=fun(rest:List AV) (st:AS)=>∃(bj:Hp) (lc:Loc) (qs sN:List Int),st=AS.mk lc bj/\er lc "self" (.ref s)/\er lc "n2i" (.ref D)/\
   rest=sN.map .int/\nodes=qs++sN/\sU sN (qs.foldl di (I,rs))/\Small n (qs.foldl di (I,rs)).1/\(qs.foldl di (I,rs)).2.length<=rs.length+qs.length*n/\(∀p∈(qs.foldl di (I,rs)).1,su p.1≠r)/\
   mL bj (λi=>F i/\i≠σ.length) s d D ep (.ref r) po (fi+qs.length) (qs.foldl di (I,rs)).1 sl su/\Fr (λi=>F i/\i≠σ.length) (σ++[.tuple (nodes.map .int)]) bj/\bj[r]? =some (.list ((qs.foldl di (I,rs)).2.map .int))) 1000 (nodes.map .int) _ _ _ ⟨_,eM,rfl⟩ ?_ (by rw[hlen];omega) ?_ ?_
 ·exact⟨_,_,[],nodes,rfl,rfl,rfl,rfl,rfl,hok,hs,by simp,apart_at,by simpa using HG,.refl,bh hr⟩
 ·rintro v vs l' bj ⟨Ii,lc,qs,sN,e1,hl1,hl2,e3,rfl,P7,Ji,Om,wX,H3,nZ,zA⟩;cases sN with
  |nil=>cases e3
  |cons p sN=>
   cases e3;cases e1;obtain⟨⟨ss,hv,RW⟩,Uy⟩:=P7;have hm:=mem_of_lookup hv;have hD3:=H3.dict;have hi3:=H3.inst;have hd3:=H3.ns;have pZ:(dictOf sl (qs.foldl di (I,rs)).1).lookup p=some (.ref (sl p)):=by rw[gJ,hv];rfl
   have hsl:bj[sl p]? =some (.slots (.base uJ) [some (.int p),some (.int (-1)),some (.ref (su p))]):=H3.slot _ hm;have Jh:bj[su p]? =some (.list (ss.map .int)):=H3.succ _ hm;have H4:=H3.BJ (n:= -2) hm;f_are
   rw[pZ];f_are
   have e1:di (qs.foldl di (I,rs)) p=ss.foldl gW (cP p (λq=>(-2,q.2)) (qs.foldl di (I,rs)).1,(qs.foldl di (I,rs)).2):=t9 hv;have Qe:(ss.map AV.int).length<1000:=by rw[aG];have:=Ji.2 _ hm;dsimp only at this;omega
   have htn:bj[σ.length]? =some (.tuple ((qs++p::sN).map .int)):=nZ.keep σ.length _ (λh=>h.2 rfl) eM;have rV:=nZ.trans (.set (o:= .slots (.base uJ) [some (.int p),some (.int (-2)),some (.ref (su p))]) (H3.fp.2.2.2 _ hm).1);have hq:qs.length*n+n+sN.length*n=(qs++p::sN).length*n:=by rw[af,aq,Rv,Rv];omega
   have aau:ss.length<=n:=Ji.2 _ hm;generalize hst:qs.foldl di (I,rs)=jD at*;refine km (P:=fun(rest:List AV) (st:AS)=>∃(cI:Hp) (lc:Loc) (ts ss':List Int),st=AS.mk lc cI/\er lc "self" (.ref s)/\er lc "n2i" (.ref D)/\rest=ss'.map .int/\ss=ts++ss'/\
    mL cI (λi=>F i/\i≠σ.length) s d D ep (.ref r) po (fi+qs.length) (ts.foldl gW (cP p (λq=>(-2,q.2)) jD.1,jD.2)).1 sl su/\cI[r]? =some (.list ((ts.foldl gW (cP p (λq=>(-2,q.2)) jD.1,jD.2)).2.map .int))/\
    Fr (λi=>F i/\i≠σ.length) (σ++[.tuple ((qs++p::sN).map .int)]) cI/\cI[su p]? =some (.list (ss.map .int))/\(∀x,((ts.foldl gW (cP p (λq=>(-2,q.2)) jD.1,jD.2)).1.lookup x).isSome=(jD.1.lookup x).isSome)/\
    (ts.foldl gW (cP p (λq=>(-2,q.2)) jD.1,jD.2)).2.length<=jD.2.length+ts.length) 1000 (ss.map .int) _ _ _ ⟨_,aM (cS hsl Jh (by intro h;cases h)) Jh,rfl⟩ ?_ Qe ?_ ?_
   ·exact⟨_,_,[],ss,rfl,by f_list,by f_list,rfl,rfl,H4,aM (cS hsl zA (by intro h;cases h)) zA,rV,aM (cS hsl Jh (by intro h;cases h)) Jh,λx=>fh (y:=p) (f:=λq=>(-2,q.2)) (I:=jD.1),aJ _⟩
   ·rintro v vs l2 cI ⟨ie,lc,ts,ss',e5,vQ,GL,e6,rfl,H5,P0,JG,Jg,MO,Ce⟩;cases ss' with
    |nil=>cases e6
    |cons x ss'=>
     cases e6;cases e5;have hx:=RW x (by simp);rw[<-MO x]at hx;obtain⟨⟨np,ZK⟩,RT⟩:=cJ.mp hx;have Sb:=mem_of_lookup RT;have hD5:=H5.dict;have Yc:=H5.inst;have U7:=H5.ns;have UJ:(dictOf sl (ts.foldl gW (cP p (λq=>(-2,q.2)) jD.1,jD.2)).1).lookup x=some (.ref (sl x)):=by rw[gJ,RT];rfl
     have PT:cI[sl x]? =some (.slots (.base uJ) [some (.int x),some (.int np),some (.ref (su x))]):=H5.slot _ Sb;have H6:=H5.BJ (n:=np-1) Sb;have ef:(ts++[x]).foldl gW (cP p (λq=>(-2,q.2)) jD.1,jD.2)=gW (ts.foldl gW (cP p (λq=>(-2,q.2)) jD.1,jD.2)) x:=by rw[fA];rfl
     have UB:∀q∈(ts.foldl gW (cP p (λq=>(-2,q.2)) jD.1,jD.2)).1,su q.1≠r:=λq hq=>by
      obtain⟨v',nW⟩:=tx (ts:=ts) (v:=q.2) hq;obtain⟨Tg,MC⟩:=ni (y:=p) (f:=λq=>(-2,q.2)) (I:=jD.1) nW;exact wX (q.1,Tg) MC
     have e7:cP x (λq=>(np-1,q.2)) (ts.foldl gW (cP p (λq=>(-2,q.2)) jD.1,jD.2)).1=(gW (ts.foldl gW (cP p (λq=>(-2,q.2)) jD.1,jD.2)) x).1:=by
      unfold gW cP;refine dc λq hq=> ?_;by_cases e:q.1=x
      ·rw[aD e,aD e];have:q=(x,np,ZK):=tu H5.nd hq Sb e;rw[this]
      ·rw[aC e,aC e]
     rw[e7]at H6;have Ya:∀y,((gW (ts.foldl gW (cP p (λq=>(-2,q.2)) jD.1,jD.2)) x).1.lookup y).isSome=(jD.1.lookup y).isSome:=λy=>by
      rw[<-MO y];exact fh (y:=x) (f:=λq=>(q.1-1,q.2))
     have QO:=JG.trans (.set (o:= .slots (.base uJ) [some (.int x),some (.int (np-1)),some (.ref (su x))]) (H5.fp.2.2.2 _ Sb).1);have Ur:=aM (o':= .slots (.base uJ) [some (.int x),some (.int (np-1)),some (.ref (su x))]) (cS PT P0 (by intro h;cases h)) P0;have Jf:=aM (o':= .slots (.base uJ) [some (.int x),some (.int (np-1)),some (.ref (su x))]) (cS PT Jg (by intro h;cases h)) Jg;have Ym:((ts.foldl gW (cP p (λq=>(-2,q.2)) jD.1,jD.2)).2.map AV.int).length<10000:=by
      rw[aG];have:ts.length<=(ts++x::ss').length:=by simp
      omega
     have UA:∀q∈(gW (ts.foldl gW (cP p (λq=>(-2,q.2)) jD.1,jD.2)) x).1,su q.1≠r:=λq hq=>by
      obtain⟨v',nW⟩:=ni (y:=x) (f:=λq=>(q.1-1,q.2)) (v:=q.2) hq;exact UB (q.1,v') nW
     have Gp:∀jv,jv[su p]? =some (.list ((ts++x::ss').map .int))->fq cI jv (.list (su p) 0):=λjv h o ho=>by
      have ho:cI[su p]? =some o:=ho;rw[Jg]at ho;cases ho;exact h
     f_are
     by_cases hz:np-1=0
     ·have hb7:PyData.eqv (.int (np-1)) (.int 0)=true:=by rw[j8,hz];rfl
      have e8:(gW (ts.foldl gW (cP p (λq=>(-2,q.2)) jD.1,jD.2)) x).2=(ts.foldl gW (cP p (λq=>(-2,q.2)) jD.1,jD.2)).2++[x]:=by
       show(if _ then _ else _)=_
       rw[RT,aD (by show some (np-1)=some 0;rw[hz])]
      have hi6:=H6.inst;have hd6:=H6.ns;f_are
      refine⟨⟨_,_,ts++[x],ss',rfl,by f_list,by f_list,rfl,by simp, ?_, ?_,QO.trans (.set ⟨DX,RX⟩), ?_, ?_, ?_⟩, ?_⟩
      ·rw[ef];exact H6.FL Ur UA _
      ·rw[ef,e8,bq];exact get_set (aN Ur)
      ·exact aM (dF (wX _ hm)) Jf
      ·rw[ef];exact Ya
      ·rw[ef,e8,af,af];have:=Ce;simp only [aq,bO];omega
      ·exact Gp _ (aM (dF (wX _ hm)) Jf)
     ·have hb7:¬PyData.eqv (.int (np-1)) (.int 0)=true:=by rw[j8];simpa using hz
      have e8:(gW (ts.foldl gW (cP p (λq=>(-2,q.2)) jD.1,jD.2)) x).2=(ts.foldl gW (cP p (λq=>(-2,q.2)) jD.1,jD.2)).2:=by
       show(if _ then _ else _)=_
       rw[RT,aC (by show ¬some (np-1)=some 0;intro h;exact hz (bV h))]
      f_are
      refine⟨⟨_,_,ts++[x],ss',rfl,by f_list,by f_list,rfl,by simp, ?_, ?_,QO, ?_, ?_, ?_⟩, ?_⟩
      ·rw[ef];exact H6
      ·rw[ef,e8];exact Ur
      ·exact Jf
      ·rw[ef];exact Ya
      ·rw[ef,e8,af];have:=Ce;simp only [aq,bO];omega
      ·exact Gp _ Jf
   ·rintro st ⟨cI,lc,ts,ss',rfl,vQ,GL,e6,e7,H5,P0,JG,Jg,MO,Ce⟩;cases ss' with
    |cons x ss'=>cases e6
    |nil=>
     rw[aX]at e7;subst e7;have Yc:=H5.inst;have U7:=H5.ns;have H6:=H5.FN (.ref r) po (fi+qs.length+1);have QO:=JG.trans (.set (o:= .ns [("_node2info",.ref D),("_ready_nodes",.ref r),("_npassedout",.int po),("_nfinished",.int (fi+qs.length+1))]) H5.fp.2.1);have Ub:=QO.keep σ.length _ (λh=>h.2 rfl) eM;f_are
     have e9:(qs++[p]).foldl di (I,rs)=ss.foldl gW (cP p (λq=>(-2,q.2)) jD.1,jD.2):=by rw[fA,hst];exact e1
     refine⟨⟨_,_,qs++[p],sN,rfl,by f_list,by f_list,rfl,by simp, ?_, ?_, ?_, ?_, ?_,QO, ?_⟩, ?_⟩
     ·rw[e9,<-e1];exact Uy
     ·rw[e9];exact oL (Ji.vd (f:=λ_=> -2))
     ·rw[e9,af,Rv];simp only [aq,bO];omega
     ·rw[e9];intro q hq;obtain⟨v',nW⟩:=tx (ts:=ss) (v:=q.2) hq;obtain⟨Tg,MC⟩:=ni (y:=p) (f:=λq=>(-2,q.2)) (I:=jD.1) nW;exact wX (q.1,Tg) MC
     ·rw[e9,af];have:fi+((qs.length+[p].length:Nat):Int)=fi+qs.length+1:=by simp only [aq,bO];omega
      rw[this];exact H6
     ·rw[e9];exact aM (cS U7 P0 (by intro h;cases h)) P0
     ·intro o ho;have ho:bj[σ.length]? =some o:=ho;rw[htn]at ho;cases ho;exact Ub
 ·rintro st ⟨bj,lc,qs,sN,rfl,hl1,hl2,e3,e4,P7,Ji,Om,wX,H3,nZ,zA⟩;cases sN with
  |cons p sN=>cases e3
  |nil=>
   rw[aX]at e4;subst e4;f_are
   exact q _ ⟨⟨_,_,_,H3.mono λi _ h=>h.1,wX⟩,zA,DX⟩ (Fr.app.trans (nZ.mono λi _ h=>h.1))
end
end
section
theorem Fg{k it:Nat} {E:Exc->AS->Prop} {Q:AV->AS->Prop} (h:σ[b]? =some (.nextOf it)) (q:bK (PM.bind (fu (.obj it)) λr=>match r with|some (v,_)=>PM.pure v| .none=>PM.raise .stop) Q E ⟨l,σ⟩):bK ((gj P fuel (k+1)).call (.ref b) []) Q E ⟨l,σ⟩:=by
 show bK (PM.bind (PM.obj b) _) Q E ⟨l,σ⟩;exact wb (jf h q)
seal PM.bind PM.pure PM.obj PM.cm PM.alloc PM.ey PM.gd PM.within PM.sure PM.attempt PM.hp PM.b8 PM.stuck PM.raise forLoop whileLoop compLoop dj dC sortBy gj bK cX eY cg bM
section
variable {sa:Addr} {xs:List Int} {k:Nat} {l:Loc} {σ:Hp} {E:Exc->AS->Prop} {Q:AV->AS->Prop}
variable {F:Nat->Prop} {s d D ep:Nat} {rd:AV} {po fi:Int} {I:cA} {sl su:Int->Nat}
structure La where
 node:Int
 b:Nat
 it:Nat
 i:Nat
 ss:List Int
structure kK (bj σ:Hp) (su:Int->Nat) (I:cA) (seen:List Int) (fs:List La):Prop where
 old:Fr (λ_=>False) σ bj
 OY:bj[σ.length]? =some (.list (fs.map λf=>AV.int f.node).reverse)
 its:bj[σ.length+1]? =some (.list (fs.map λf=>AV.ref f.b).reverse)
 sn:bj[σ.length+2]? =some (.set seen)
 WL:∃es ep,bj[σ.length+3]? =some (.dict es ep)/\es.length<=seen.length/\∀x,(es.lookup x).isSome=(fs.map (·.node)).contains x
 frm:∀f∈fs,bj[f.b]? =some (.nextOf f.it)/\bj[f.it]? =some (.eZ (su f.node) f.i)/\(∃np,(f.node,np,f.ss)∈I)/\f.i<=f.ss.length/\σ.length+4<=f.it/\σ.length+4<=f.b
 inj:(fs.map (·.it)).Nodup
def j3 (w:Int×Int×List Int->Nat) (seen:List Int) (I:cA):Nat:=(I.map λp=>if seen.contains p.1=true then 0 else w p).sum
abbrev jg (seen:List Int) (I:cA):Nat:=j3 (λp=>p.2.2.length) seen I
abbrev nO (seen:List Int) (I:cA):Nat:=j3 (λ_=>1) seen I
def uP (fs:List La):Nat:=(fs.map λf=>f.ss.length-f.i).sum
section
variable {w:Int×Int×List Int->Nat}
theorem sy{seen:List Int} {x:Int}:∀{I:cA},(∀p∈I,p.1≠x)->j3 w (seen++[x]) I=j3 w seen I
 |[],_=>rfl
 |p::I,h=>by
  have ih:=sy (seen:=seen) (x:=x) (I:=I) λq hq=>h q (ah _ hq);unfold j3 at ih ⊢;rw[aS,aS,c8,c8,ih];congr 1;have:(seen++[x]).contains p.1=seen.contains p.1:=by
   have:=h p (aj ..);simp [this]
  rw[this]
theorem oJ{seen:List Int} {x:Int} {v:Int×List Int} (hx:seen.contains x=false):∀{I:cA},(I.map (·.1)).Nodup->(x,v)∈I->j3 w (seen++[x]) I+w (x,v)=j3 w seen I
 |[],_,h=>by cases h
 |p::I,nd,h=>by
  rw[aS,bA]at nd;by_cases e:p.1=x
  ·have hp:p=(x,v):=by
    rcases aK.mp h with q|q
    ·exact q.symm
    ·exact absurd (aR.mpr ⟨_,q,e.symm⟩) nd.1
   subst hp;have ih:=sy (w:=w) (seen:=seen) (x:=x) (I:=I) λq hq e=>nd.1 (aR.mpr ⟨q,hq,e⟩);have h2:(seen++[x]).contains x=true:=by simp
   unfold j3 at ih ⊢;rw[aS,aS,c8,c8,ih,aD h2,aC (by rw[hx];decide)];omega
  ·have ih:=oJ (seen:=seen) hx nd.2 (by
    rcases aK.mp h with q|q
    ·exact absurd (by rw[<-q]) e
    ·exact q)
   unfold j3 at ih ⊢;rw[aS,aS,c8,c8];have:(seen++[x]).contains p.1=seen.contains p.1:=by simp [e]
   rw[this];omega
end
theorem An:((dictPut x v es).lookup y).isSome=(decide (y=x)|| (es.lookup y).isSome):=by
 induction es with
 |nil=>
  unfold dictPut;rw[az];by_cases e:y=x
  ·subst e;simp
  ·rw[aP.mpr e];simp [e]
 |cons p es ih=>
  obtain⟨a,b⟩:=p;unfold dictPut;by_cases h:a=x
  ·subst h;rw[aD rfl,az,az];by_cases e:y=a
   ·subst e;simp
   ·rw[aP.mpr e];simp [e]
  ·rw[aC h,az,az];by_cases e:y=a
   ·subst e;simp
   ·rw[aP.mpr e];exact ih
theorem Ao:((es.filter (·.1 !=x)).lookup y).isSome=(!decide (y=x)&&(es.lookup y).isSome):=by
 induction es with
 |nil=>simp
 |cons p es ih=>
  obtain⟨a,b⟩:=p;rw[fX,az];by_cases h:a=x
  ·subst h;rw[aC (by simp)];rw[ih];by_cases e:y=a
   ·subst e;simp
   ·rw[aP.mpr e]
  ·rw[aD (by simp [h]),az];by_cases e:y=a
   ·subst e;simp [h]
   ·rw[aP.mpr e];exact ih
theorem As(h:(es.lookup x).isSome=false):(dictPut x v es).length=es.length+1:=by
 rw[nB v (by cases e:es.lookup x with|none=>rfl|some z=>rw[e]at h;cases h)];simp
variable {bj:Hp} {seen:List Int} {fs:List La}
theorem kK.push (C:kK bj σ su I seen fs) {np:Int} (hI:(x,np,ss)∈I) (hx:(fs.map (·.node)).contains x=false) {ep uW:Nat} (xC:bj[σ.length+3]? =some (.dict es ep)) (hlen:es.length<=seen.length) (hk:∀x,(es.lookup x).isSome=(fs.map (·.node)).contains x):
  kK ((((bj.set (σ.length+2) (.set (seen++[x]))).set (σ.length+1) (.list ((fs.map λf=>AV.ref f.b).reverse++[.ref (bj.length+1)]))).set (σ.length+3) (.dict (dictPut x v es) uW)).set σ.length (.list ((fs.map λf=>AV.int f.node).reverse++[.int x]))++[.eZ (su x) 0,.nextOf bj.length]) σ su I (seen++[x]) (⟨x,bj.length+1,bj.length,0,ss⟩::fs):=by
 have h0:=aN C.OY;have h1:=aN C.its;have h2:=aN C.sn;have h3:=aN xC;have top:∀(B:Hp) (τ:Hp) (j:Nat) (o:bP),B.length=bj.length->τ[j]? =some o->(B++τ)[bj.length+j]? =some o:=λB τ j o h e=>by
  rw[aY (by omega),h,cB];exact e
 refine⟨⟨by simp only [af,aV];have:=C.old.len;omega,λi o _ e=> ?_⟩, ?_, ?_, ?_, ?_,λf hf=> ?_, ?_⟩
 ·have:=aN e;have:=C.old.keep i o id e
  ints_of
 ·rw[aS,kM];ints_of
 ·rw[aS,kM];ints_of
 ·ints_of
 ·refine⟨dictPut x v es,uW,by ints_of,by rw[As (by rw[hk];exact hx),af];exact lG hlen,λy=> ?_⟩;rw[An,hk,aS,Xg];congr 1
 ·rcases aK.mp hf with rfl|hf
  ·exact⟨top _ _ 1 _ (by simp only [aV]) rfl,top _ _ 0 _ (by simp only [aV]) rfl,⟨np,hI⟩,bW _,by dsimp only;omega,by dsimp only;omega⟩
  ·obtain⟨a1,a2,a3,a4,a5,a6⟩:=C.frm f hf;exact⟨by ints_of,by ints_of,a3,a4,a5,a6⟩
 ·rw[aS,bA];refine⟨λm=> ?_,C.inj⟩;obtain⟨f,hf,e⟩:=aR.mp m;have:=aN (C.frm f hf).2.1;dsimp only at e;omega
theorem kK.next {f:La} (C:kK bj σ su I seen (f::fs)) (h:f.i<f.ss.length):kK (bj.set f.it (.eZ (su f.node) (f.i+1))) σ su I seen ({f with i:=f.i+1}::fs):=by
 obtain⟨b1,b2,b3,b4,b5,b6⟩:=C.frm f (aj ..);obtain⟨es,ep,c1,c2,c3⟩:=C.WL;have h0:=C.OY;have h1:=C.its;have h2:=C.sn;have hl:=aN b2;refine⟨⟨by simp only [aV];exact C.old.len,λi o _ e=> ?_⟩,by ints_of,by ints_of,by ints_of,⟨es,ep,by ints_of,c2,c3⟩,λg hg=> ?_,C.inj⟩
 ·have:=aN e;have:=C.old.keep i o id e
  ints_of
 ·rcases aK.mp hg with rfl|hg
  ·exact⟨aM (cS b2 b1 (by intro h;cases h)) b1,get_set hl,b3,h,b5,b6⟩
  ·obtain⟨a1,a2,a3,a4,a5,a6⟩:=C.frm g (ah _ hg);have hn:f.it≠g.it:=λe=>by
    have:=C.inj;rw[aS,bA]at this;exact this.1 (aR.mpr ⟨g,hg,e.symm⟩)
   exact⟨aM (cS b2 a1 (by intro h;cases h)) a1,aM hn a2,a3,a4,a5,a6⟩
theorem kK.pop {f:La} (C:kK bj σ su I seen (f::fs)) {ep uW:Nat} (xC:bj[σ.length+3]? =some (.dict es ep)) (hlen:es.length<=seen.length) (hk:∀x,(es.lookup x).isSome=((f::fs).map (·.node)).contains x) (hf:(fs.map (·.node)).contains f.node=false):
  kK ((((bj.set f.it .lN).set σ.length (.list (fs.map λf=>AV.int f.node).reverse)).set (σ.length+3) (.dict (es.filter (·.1 !=f.node)) uW)).set (σ.length+1) (.list (fs.map λf=>AV.ref f.b).reverse)) σ su I seen fs:=by
 obtain⟨b1,b2,b3,b4,b5,b6⟩:=C.frm f (aj ..);have h0:=C.OY;have h1:=C.its;have h2:=C.sn;have hl:=aN b2;have l0:=aN h0;have l1:=aN h1;have l3:=aN xC;refine⟨⟨by simp only [aV];exact C.old.len,λi o _ e=> ?_⟩,by ints_of,by ints_of,by ints_of,⟨_,uW,by ints_of,cy (rZ ..) hlen,λy=> ?_⟩,λg hg=> ?_, ?_⟩
 ·have:=aN e;have:=C.old.keep i o id e
  ints_of
 ·rw[Ao,hk,aS,Xg];by_cases e:y=f.node
  ·subst e;simp only [Rt,pg,nM];exact hf.symm
  ·simp [e]
 ·obtain⟨a1,a2,a3,a4,a5,a6⟩:=C.frm g (ah _ hg);have hn:f.it≠g.it:=λe=>by
   have:=C.inj;rw[aS,bA]at this;exact this.1 (aR.mpr ⟨g,hg,e.symm⟩)
  have hn2:f.it≠g.b:=cS b2 a1 (by intro h;cases h);exact⟨by ints_of,by ints_of,a3,a4,a5,a6⟩
 ·have:=C.inj;rw[aS,bA]at this;exact this.2
theorem BA{α:Type}:∀(I:List α),(I.map λ_=>1).sum=I.length
 |[]=>rfl
 |_::I=>by rw[aS,c8,BA I,aq,Nat.add_comm]
theorem Gu{ys:List Int} (h:σ[n]? =some (.set ys)):Gv σ (.int x) (.ref n)=some (ys.contains x):=by
 unfold Gv;dsimp only;rw[h]
theorem in_dict{ep:Nat} (h:σ[n]? =some (.dict es ep)):Gv σ (.int x) (.ref n)=some (es.lookup x).isSome:=by
 unfold Gv;dsimp only;rw[h]
theorem isSome_of_mem{p:Int×Int×List Int} (h:p∈I):(I.lookup p.1).isSome=true:=by
 cases e:I.lookup p.1 with
 |some _=>rfl
 |none=>exact absurd rfl (lu e p h)
theorem Hh(H:mL σ F s d D ep rd po fi I sl su) {rk:Int->Int} (Uo:∀p∈I,∀v∈p.2.2,(I.lookup v).isSome=true/\rk p.1<rk v) (hI:I.length<400) (hE:jg [] I<900)
  (q:∀bj,Fr (λ_=>False) σ bj->Q .none ⟨l,bj⟩):
  bK ((gj (PP sa xs) 1000 (k+2)).call (.base Rb) [.ref s]) Q E ⟨l,σ⟩:=by
 refine w_call rfl (show Rb≠mV by decide) (iI ?_);have hi:=H.inst;have hd:=H.ns;have hD:=H.dict;have Pt:∀seen,seen.length+nO seen I=I.length->seen.length<=I.length:=λseen h=>by omega
 have Qi:(I.map λp=>AV.int p.1).length=I.length:=aG ..;f_are
 have C0:kK (σ++[.list [],.list [],.set [],.dict [] 0]) σ su I [] []:=by
  have g:∀(τ:Hp) (j:Nat) (o:bP),τ[j]? =some o->(σ++τ)[σ.length+j]? =some o:=λτ j o h=>by
   rw[aY (by omega),cB];exact h
  exact⟨.app,g _ 0 _ rfl,g _ 1 _ rfl,g _ 2 _ rfl,⟨[],0,g _ 3 _ rfl,aJ _,λ_=>rfl⟩,λ_ m=>(nomatch m),kN⟩
 refine km (P:=fun(rest:List AV) (st:AS)=>∃(bj:Hp) (lc:Loc) (seen:List Int) (ks:List Int),st=AS.mk lc bj/\er lc "n2i" (.ref D)/\er lc "stack" (.ref σ.length)/\er lc "itstack" (.ref (σ.length+1))/\er lc "seen" (.ref (σ.length+2))/\er lc "node2stacki" (.ref (σ.length+3))/\
   rest=ks.map .int/\(∀x∈ks,(I.lookup x).isSome=true)/\kK bj σ su I seen []/\seen.length+nO seen I=I.length/\jg seen I<=jg [] I) 1000 (I.map λp=>AV.int p.1) _ _ _ ⟨dictOf sl I,bh hD,rfl,by unfold dictOf;rw[eD];rfl⟩ ?_ (by rw[Qi];omega) ?_ ?_
 ·exact⟨_,_,[],I.map (·.1),rfl,rfl,rfl,rfl,rfl,rfl,by rw[eD];rfl,λx hx=>by
   obtain⟨p,hp,rfl⟩:=aR.mp hx;exact isSome_of_mem hp,C0,by show 0+((I.map λp=>if([]:List Int).contains p.1=true then 0 else 1).sum)=I.length;simp only [Zj,bU,gH,Nat.zero_add];exact BA I,aJ _⟩
 ·rintro v vs l' bj ⟨Ii,lc,seen,ks,e1,hl1,hl2,rI,AQ,vQ,e3,Sg,C,hn,hu⟩;cases ks with
  |nil=>cases e3
  |cons x ks=>
   cases e3;cases e1;have hx:=Sg x (aj ..);have PX:=Gu (x:=x) C.sn;have Kj:∀jv fs4 O3,kK jv σ su I O3 fs4->fq bj jv (.jz D 0 (dictOf sl I).length ep):=λjv _ _ C4 o ho=>by
    have ho:bj[D]? =some o:=ho;rw[C.old.keep D _ id hD]at ho;cases ho;exact C4.old.keep D _ id hD
   f_are
   cases hc:seen.contains x with
   |true=>
    f_are
    exact⟨⟨_,_,seen,ks,rfl,by f_list,by f_list,by f_list,by f_list,by f_list,rfl,λy hy=>Sg y (ah _ hy),C,hn,hu⟩,Kj _ _ _ C⟩
   |false=>
    f_are
    refine pB (P:=fun(n:Nat) (st:AS)=>∃(bj:Hp) (lc:Loc) (seen:List Int) (fs:List La) (node:Int),st=AS.mk lc bj/\er lc "n2i" (.ref D)/\er lc "stack" (.ref σ.length)/\er lc "itstack" (.ref (σ.length+1))/\er lc "seen" (.ref (σ.length+2))/\er lc "node2stacki" (.ref (σ.length+3))/\er lc "node" (.int node)/\
     (I.lookup node).isSome=true/\kK bj σ su I seen fs/\seen.length+nO seen I=I.length/\fs.length<=seen.length/\n=jg seen I+uP fs/\n<=jg [] I/\(∀f∈fs,rk f.node<rk node)/\fs.Pairwise λf g=>rk g.node<rk f.node) 1000 (jg seen I) _ _
     ⟨_,_,seen,[],x,rfl,by f_list,by f_list,by f_list,by f_list,by f_list,by f_list,hx,C,hn,bW _,rfl,hu,λ_ m=>(nomatch m),.nil⟩ (by omega) ?_
    clear PX hl1 hl2 rI AQ vQ hc hx hn hu C;clear seen;rintro n l2 cI ⟨ie,lc,seen,fs,node,e1,hl1,hl2,rI,AQ,vQ,GL,hx,C,hn,HV,hm,hu,hr,hp⟩;cases e1;have hin:=Gu (x:=node) C.sn;obtain⟨es,uW,xC,KC,Qs⟩:=C.WL;have UX:=in_dict (x:=node) xC;rw[Qs]at UX;f_are
    have hnot:(fs.map (·.node)).contains node=false:=by
     cases q:(fs.map (·.node)).contains node with
     |false=>rfl
     |true=>
      rw[r5]at q;obtain⟨f,hf,e⟩:=aR.mp q;have:=hr f hf;rw[e]at this;omega
    refine cL (Q':=fun(a:dk) (s:AS)=>a= .next/\∃(ie:Hp) (lc:Loc) (seen:List Int) (fs:List La),s=AS.mk lc ie/\er lc "n2i" (.ref D)/\er lc "stack" (.ref σ.length)/\er lc "itstack" (.ref (σ.length+1))/\er lc "seen" (.ref (σ.length+2))/\er lc "node2stacki" (.ref (σ.length+3))/\
     kK ie σ su I seen fs/\seen.length+nO seen I=I.length/\fs.length<=seen.length/\jg seen I+uP fs<=n/\fs.Pairwise λf g=>rk g.node<rk f.node) (E':=λ_ _=>False) ?_ ?_ (λ_ _ h=>h)
    ·cases hc:seen.contains node with
     |true=>
      f_are
      exact⟨rfl,_,_,seen,fs,rfl,by f_list,by f_list,by f_list,by f_list,by f_list,C,hn,HV,by omega,hp⟩
     |false=>
      obtain⟨⟨np,ss⟩,hv⟩:=cJ.mp hx;have Qd:=mem_of_lookup hv;have hs2:=C.sn;have hD2:=C.old.keep D _ id hD;have pZ:(dictOf sl I).lookup node=some (.ref (sl node)):=by rw[gJ,hv];rfl
      have Kn:=C.old.keep _ _ id (H.slot _ Qd);have XS:=C.old.keep _ _ id (H.succ _ Qd);have hst:=C.OY;have hit:=C.its;have X9:seen.length<500:=by have:=Pt seen hn;omega
      have hc2:¬seen.contains node=true:=by rw[hc];decide
      have aa9:es.length<1000:=by omega
      have Cm:(fs.map λf=>AV.ref f.b).reverse.length<10000:=by simp;omega
      have HW:(fs.map λf=>AV.int f.node).reverse.length<10000:=by simp;omega
      f_are
      rw[aC hc2];have u1:jg (seen++[node]) I+ss.length=jg seen I:=oJ (w:=λp=>p.2.2.length) hc H.nd Qd;have u2:nO (seen++[node]) I+1=nO seen I:=oJ (w:=λ_=>1) hc H.nd Qd;refine⟨rfl,_,_,seen++[node],⟨node,cI.length+1,cI.length,0,ss⟩::fs,rfl,by f_list,by f_list,by f_list,by f_list,by f_list,C.push Qd hnot xC KC Qs, ?_, ?_, ?_, ?_⟩
      ·rw[af];simp only [aq,bO];omega
      ·rw[af];exact lG HV
      ·unfold uP at hm ⊢;rw[aS,c8];dsimp only;omega
      ·exact bS.mpr ⟨λg hg=>hr g hg,hp⟩
    ·rintro a s ⟨rfl,ie,lc,sL,VK,rfl,hl1,hl2,rI,AQ,vQ,C3,Kt,Qo,HR,X0⟩;f_are
     refine pB (P:=fun(m:Nat) (st:AS)=>∃(jv:Hp) (lc:Loc) (fs:List La),st=AS.mk lc jv/\er lc "n2i" (.ref D)/\er lc "stack" (.ref σ.length)/\er lc "itstack" (.ref (σ.length+1))/\er lc "seen" (.ref (σ.length+2))/\er lc "node2stacki" (.ref (σ.length+3))/\
      kK jv σ su I sL fs/\fs.length<=sL.length/\m=fs.length/\jg sL I+uP fs<=n/\fs.Pairwise λf g=>rk g.node<rk f.node) 1000 VK.length _ _
      ⟨_,_,VK,rfl,hl1,hl2,rI,AQ,vQ,C3,Qo,rfl,HR,X0⟩ (by have:=Pt sL Kt;omega) ?_
     clear hl1 hl2 rI AQ vQ C3 Qo HR X0;clear VK;rintro m l4 jv ⟨ib,lc,fs,e1,hl1,hl2,rI,AQ,vQ,C,HV,rfl,hm,hp⟩;cases e1;have hst:=C.OY;cases fs with
     |nil=>
      f_are
      exact⟨⟨_,_,sL,ks,rfl,by f_list,by f_list,by f_list,by f_list,by f_list,rfl,λy hy=>Sg y (ah _ hy),C,Kt,by omega⟩,Kj _ _ _ C⟩
     |cons f fs=>
      have hit:=C.its;rw[aS,kM]at hst hit;have U2:((fs.map λf=>AV.int f.node).reverse++[AV.int f.node]).isEmpty=false:=by cases (fs.map λf=>AV.int f.node).reverse<;>rfl
      obtain⟨b1,b2,⟨np,b3⟩,b4,b5,b6⟩:=C.frm f (aj ..);have Jh:jv[su f.node]? =some (.list (f.ss.map .int)):=C.old.keep _ _ id (H.succ _ b3);f_are
      rw[U2];f_are
      refine zM ?_;f_are
      refine Fg b1 ?_;f_are
      have XT:uP (f::fs)=f.ss.length-f.i+uP fs:=by unfold uP;rw[aS,c8]
      obtain⟨Kr,R0⟩:=bS.mp hp;by_cases f_tup:f.i<f.ss.length
      ·have hy:(f.ss.map AV.int)[f.i]? =some (.int f.ss[f.i]):=by rw[cx,ay f_tup];rfl
       obtain⟨hy1,RQ⟩:=Uo _ b3 _ (bw f_tup);rw[hy];f_are
       refine⟨jg sL I+uP ({f with i:=f.i+1}::fs), ?_,_,_,sL,{f with i:=f.i+1}::fs,f.ss[f.i],rfl,by f_list,by f_list,by f_list,by f_list,by f_list,by f_list,hy1,C.next f_tup,Kt,HV,rfl, ?_,λg hg=> ?_, ?_⟩
       ·unfold uP at XT hm ⊢;rw[aS,c8]at hm ⊢;dsimp only;omega
       ·unfold uP at XT hm ⊢;rw[aS,c8]at hm ⊢;dsimp only;omega
       ·rcases aK.mp hg with rfl|hg
        ·exact RQ
        ·exact Int.lt_trans (Kr g hg) RQ
       ·exact bS.mpr ⟨λg hg=>Kr g hg,R0⟩
      ·have hy:(f.ss.map AV.int)[f.i]? =none:=by rw[cE,aG];omega
       obtain⟨es,uW,xC,KC,Qs⟩:=C.WL;have hkf:(es.lookup f.node).isSome=true:=by rw[Qs];simp
       have U1:((fs.map λf=>AV.int f.node).reverse++[AV.int f.node]).getLast? =some (.int f.node):=uE ..;have Sl:((fs.map λf=>AV.ref f.b).reverse++[AV.ref f.b]).getLast? =some (.ref f.b):=uE ..;have Ky:((fs.map λf=>AV.int f.node).reverse++[AV.int f.node]).dropLast=(fs.map λf=>AV.int f.node).reverse:=Ry ..;have Yg:((fs.map λf=>AV.ref f.b).reverse++[AV.ref f.b]).dropLast=(fs.map λf=>AV.ref f.b).reverse:=Ry ..;have Of:(fs.map (·.node)).contains f.node=false:=by
        cases q:(fs.map (·.node)).contains f.node with
        |false=>rfl
        |true=>
         rw[r5]at q;obtain⟨g,hg,e⟩:=aR.mp q;have:=Kr g hg;rw[e]at this;omega
       rw[hy];f_are
       rw[U1,Ky];f_are
       rw[Sl,Yg];f_are
       exact⟨fs.length,by simp,_,_,fs,rfl,by f_list,by f_list,by f_list,by f_list,by f_list,C.pop xC KC Qs Of,Nat.le_of_succ_le HV,rfl,by omega,R0⟩
 ·rintro st ⟨bj,lc,seen,ks,rfl,hl1,hl2,rI,AQ,vQ,e3,Sg,C,hn,hu⟩;f_are
  exact q _ C.old
end
end
section
seal PM.bind PM.pure PM.obj PM.cm PM.alloc PM.ey PM.gd PM.within PM.sure PM.attempt PM.hp PM.b8 PM.stuck PM.raise forLoop whileLoop compLoop dj dC sortBy gj bK cX eY cg bM
section
variable {sa:Addr} {xs:List Int} {k:Nat} {l:Loc} {σ:Hp} {E:Exc->AS->Prop} {Q:AV->AS->Prop}
variable {F:Nat->Prop} {s d D ep:Nat} {rd:AV} {po fi:Int} {I:cA} {sl su:Int->Nat}
def gu (I:cA):List Int:=(I.filter λp=>decide (p.2.1=0)).map (·.1)
theorem sO(A B:cA):gu (A++B)=gu A++gu B:=by unfold gu;rw[xx,bq]
theorem Di(H:SG F s d D .none po fi I σ) (hF:∀i,σ.length<=i->F i) {rk:Int->Int} (Uo:∀p∈I,∀v∈p.2.2,(I.lookup v).isSome=true/\rk p.1<rk v) (hI:I.length<400) (hE:jg [] I<900)
  (q:∀bj r,SR F s d D r (gu I) po fi I bj->Fr F σ bj->Q .none ⟨l,bj⟩):
  bK ((gj (PP sa xs) 1000 (k+3)).call (.base KV) [.ref s]) Q E ⟨l,σ⟩:=by
 obtain⟨ep,sl,su,H⟩:=H;refine w_call rfl (show KV≠mV by decide) (iI ?_);have hi:=H.inst;have hd:=H.ns;have hD:=H.dict;f_are
 have hlen:(I.map λp=>AV.ref (sl p.1)).length=I.length:=aG ..;have H0:=H.app [.gy D,.list []];have top:(σ++[.gy D,.list []])[σ.length+1]? =some (.list []):=by
  rw[aY (by omega),cB];rfl
 refine qw (P:=fun(rest:List AV) (st:AS)=>∃(bj:Hp) (lc:Loc) (A B:cA),st=AS.mk lc bj/\rest=B.map (λp=>AV.ref (sl p.1))/\I=A++B/\mL bj F s d D ep .none po fi I sl su/\bj[σ.length+1]? =some (.list ((gu A).map .int))/\bj.length=σ.length+2/\Fr F σ bj) 1000 (I.map λp=>AV.ref (sl p.1)) _ _ _
  ⟨dictOf sl I,bh hD,rfl,by unfold dictOf;rw[eD];rfl⟩ ⟨_,_,[],I,rfl,rfl,rfl,H0,top,by simp,.app⟩ (by rw[hlen];omega) ?_ ?_
 ·rintro v vs l' bj ⟨Ii,lc,A,B,e1,e2,rfl,H1,ha,hl,fr⟩;cases B with
  |nil=>cases e2
  |cons p B=>
   cases e2;cases e1;have Kn:=H1.slot p (by simp);have hD1:=H1.dict;have Su:((gu A).map AV.int).length<10000:=by
    rw[aG];unfold gu;rw[aG];have:=rZ (λp:Int×Int×List Int=>decide (p.2.1=0)) A;have:A.length<=(A++p::B).length:=by simp
    omega
   have Og:∀q∈A++p::B,su q.1≠σ.length+1:=λq hq=>by have:=aN (H.succ q hq);omega
   have hDa:D≠σ.length+1:=by have:=aN hD;omega
   f_are
   by_cases hz:p.2.1=0
   ·have hb:PyData.eqv (.int p.2.1) (.int 0)=true:=by rw[j8,hz];rfl
    have e4:gu (A++[p])=gu A++[p.1]:=by rw[sO];unfold gu;simp [hz]
    f_are
    refine⟨⟨_,_,A++[p],B,rfl,rfl,by simp,H1.FL ha Og _, ?_,by rw[aV];exact hl,fr.trans (.set (hF _ (by omega)))⟩,λo ho=> ?_⟩
    ·rw[e4,bq];exact get_set (aN ha)
    ·exact aM (dF hDa) ho
   ·have hb:¬PyData.eqv (.int p.2.1) (.int 0)=true:=by rw[j8];simpa using hz
    have e4:gu (A++[p])=gu A:=by rw[sO];unfold gu;simp [hz]
    f_are
    refine⟨⟨_,_,A++[p],B,rfl,rfl,by simp,H1, ?_,hl,fr⟩,λo ho=>ho⟩;rw[e4];exact ha
 ·rintro st ⟨bj,lc,A,B,rfl,e2,e3,H1,ha,hl,fr⟩;cases B with
  |cons p B=>cases e2
  |nil=>
   rw[aX]at e3;subst e3;have hi1:=H1.inst;have hd1:=H1.ns;f_are
   have apart_at:∀q∈I,su q.1≠σ.length+1:=λq hq=>by have:=aN (H.succ q hq);omega
   have H2:=H1.FN (.ref (σ.length+1)) po fi;refine Hh H2 Uo hI hE λcI p7=> ?_;f_are
   exact q _ (σ.length+1) ⟨⟨ep,sl,su,H2.other (p7.mono λ_ _ h=>h.elim),apart_at⟩,p7.keep _ _ id (aM (cS hd1 ha (by intro h;cases h)) ha),hF _ (by omega)⟩ ((fr.trans (.set H1.fp.2.1)).trans (p7.mono λ_ _ h=>h.elim))
end
end
section
section
variable {E:Exc->AS->Prop}
theorem pick_from(xs:List α) (a:Nat):jY xs (some (a:Int)) none none=xs.drop a:=by
 unfold jY;rw[sliceBounds_plain];simp only [sliceRange_one,Option.elim,clipAt_nat];have h:=pick_run xs.toArray (min a xs.length) (xs.length-min a xs.length);simp only [ck]at h;rw[h];show(xs.drop (min a xs.length)).take (xs.length-min a xs.length)=_
 rw[qW (by rw[d7];exact aJ _)];by_cases q:a<=xs.length
 ·rw[Nat.min_eq_left q]
 ·rw[Nat.min_eq_right (by omega),NF (aJ _),NF (by omega)]
theorem mh(xs:List AV) (a:Nat):ll xs (.int (a:Int)) .none .none=some (xs.drop a):=by
 show some (jY xs (some (a:Int)) none none)=_;rw[pick_from]
theorem fI{hd:Nat} {st:AS} {Q:AV->AS->Prop} (h:ys[i]? =some v) (q:Q v st):bK (jZ hd ys (i:Int)) Q E st:=by
 unfold jZ;rw[aD (by omega),eH,h];exact q
theorem nN{st:AS} {Q:AV->AS->Prop} (h:ys.length<=i) (hi:i<1000000) (q:E .index st):bK (jZ 0 ys (i:Int)) Q E st:=by
 unfold jZ;rw[aD (by omega),eH,cE.mpr h];show bK (if(i:Int)<1000000 then _ else _) Q E st;rw[aD (by omega)];exact q
theorem Ir{st:AS} {Q:AV->AS->Prop} (h:ys.length<=i) (hi:i<1000000) (q:E .late st):bK (jZ 1 ys (i:Int)) Q E st:=by
 unfold jZ;rw[aD (by omega),eH,cE.mpr h];show bK (if(i:Int)<1000000 then _ else _) Q E st;rw[aD (by omega)];exact q
end
seal PM.bind PM.pure PM.obj PM.cm PM.alloc PM.ey PM.gd PM.within PM.sure PM.attempt PM.hp PM.b8 PM.stuck PM.raise forLoop whileLoop compLoop dj dC sortBy gj bK cX eY cg bM jZ ll
abbrev No:Nat->Prop:=λ_=>False
section
variable {sa:Addr} {xs:List Int} {k:Nat} {l:Loc} {σ:Hp} {E:Exc->AS->Prop} {Q:AV->AS->Prop}
theorem xM{a b:AV} {p q:Bool} (h1:vH σ a b=some p) (h2:vH σ b a=some q) (post:Q (.int ((if q then 1 else 0)-(if p then 1 else 0))) ⟨l,σ⟩):
  bK ((gj (PP sa xs) 1000 (k+1)).call (.base Q7) [a,b]) Q E ⟨l,σ⟩:=by
 refine w_call rfl (show Q7≠mV by decide) (iI ?_);f_are
 exact post
def iK (c:AV->AV->Bool) (a:AV) (xs:List AV):List AV:=xs.dropWhile λx=> !c x a&& !c a x
def gV (c:AV->AV->Bool):Nat->List AV->List AV->List AV×List AV
 |0,_,_=>([],[])
 |_+1,[],bs=>([],bs)
 |_+1,as,[]=>(as,[])
 |f+1,a::as,b::bs=>
  if c a b=true then(a::(gV c f (iK c a as) (b::bs)).1,(gV c f (iK c a as) (b::bs)).2)
  else if c b a=true then((gV c f (a::as) (iK c b bs)).1,b::(gV c f (a::as) (iK c b bs)).2)
  else gV c f (iK c a as) (iK c b bs)
theorem p8{es:List α} {v:α} (h:es[i]? =some v):es.drop i=v::es.drop (i+1):=by
 obtain⟨hi,e⟩:=bx.mp h;rw[Ic hi,e]
theorem jE{e:AV} {es:List AV} {i':Nat} (h:iK c e (es.drop i)=es.drop i'):i<=i'\/es.length<=i':=by
 have h1:=dg List.length h;have h2:(iK c e (es.drop i)).length<=(es.drop i).length:=(List.dropWhile_sublist _).length_le;rw[h1,d7,d7]at h2;omega
theorem kj{c:AV->AV->Bool} {es:List AV} {e:AV} {ix:Str} {test:PM Bool} {body orelse:PM dk} {L:Loc->Prop} {σ:Hp} {X:Exc} {Q:dk->AS->Prop} {E:Exc->AS->Prop}
  (ht:∀lc (i:Nat),L lc->er lc ix (.int i)->i<=es.length->bK test (λb s=>s=⟨lc,σ⟩/\∃v,es[i]? =some v/\b=(!c v e&& !c e v)) (λx s=>s=⟨lc,σ⟩/\x=X/\i=es.length) ⟨lc,σ⟩)
  (hb:∀lc (i:Nat),L lc->er lc ix (.int i)->i<=es.length->bK body (λfl s=>fl= .next/\∃Dv,s=⟨Dv,σ⟩/\L Dv/\er Dv ix (.int ((i+1:Nat):Int))) (λ_ _=>False) ⟨lc,σ⟩)
  :∀(f i:Nat) (lc:Loc),es.length-i<f->i<=es.length->L lc->er lc ix (.int i)->
   (∀Dv (i':Nat),L Dv->er Dv ix (.int i')->i'<es.length->iK c e (es.drop i)=es.drop i'->bK orelse Q E ⟨Dv,σ⟩)->
   (∀Dv,L Dv->er Dv ix (.int (es.length:Nat))->iK c e (es.drop i)=[]->E X ⟨Dv,σ⟩)->
   bK (whileLoop f test body orelse) Q E ⟨lc,σ⟩
 |0,_,_,h,_,_,_,_,_=>absurd h (fB _)
 |f+1,i,lc,hf,hi,hL,AR,hQ,hE=>by
  unfold whileLoop;refine wb (cL (ht lc i hL AR hi) (λb s h=> ?_) λx s h=> ?_)
  ·obtain⟨rfl,v,hv,rfl⟩:=h;have f_tup:i<es.length:=(bx.mp hv).1;cases hc:(!c v e&& !c e v)with
   |false=>
    refine hQ lc i hL AR f_tup ?_;rw[p8 hv];unfold iK;rw[hJ,hc];rfl
   |true=>
    have e1:iK c e (es.drop i)=iK c e (es.drop (i+1)):=by
     rw[p8 hv];unfold iK;rw[hJ,hc];rfl
    refine wb (cL (hb lc i hL AR hi) (λfl s h=> ?_) λ_ _ h=>h.elim);obtain⟨rfl,Dv,rfl,QF,UW⟩:=h;exact kj ht hb f (i+1) Dv (by omega) f_tup QF UW (λwL i2 a b c d=>hQ wL i2 a b c (e1.trans d)) λwL a b c=>hE wL a b (e1.trans c)
  ·obtain⟨rfl,rfl,rfl⟩:=h;refine hE lc hL AR ?_;rw[c9];rfl
theorem lJ{f:Nat} {bs:List AV}:gV c (f+1) [] bs=([],bs):=by unfold gV;rfl
theorem nR{f:Nat} {bs:List AV}:gV c (f+1) bs []=(bs,[]):=by cases bs<;>(unfold gV;rfl)
theorem BE{f:Nat} {a b:AV} {bs:List AV} (h:c a b=true):gV c (f+1) (a::as) (b::bs)=(a::(gV c f (iK c a as) (b::bs)).1,(gV c f (iK c a as) (b::bs)).2):=by
 rw[gV];rw[aD h]
theorem BF{f:Nat} {a b:AV} {bs:List AV} (h:¬c a b=true) (h':c b a=true):gV c (f+1) (a::as) (b::bs)=((gV c f (a::as) (iK c b bs)).1,b::(gV c f (a::as) (iK c b bs)).2):=by
 rw[gV];rw[aC h,aD h']
theorem BG{f:Nat} {a b:AV} {bs:List AV} (h:¬c a b=true) (h':¬c b a=true):gV c (f+1) (a::as) (b::bs)=gV c f (iK c a as) (iK c b bs):=by
 rw[gV];rw[aC h,aC h']
theorem Fx{es:List AV} (hn:σ[n]? =some (.list es)) (hm:σ[m]? =some (.list as)) (hl:es.length+as.length<900)
  (hc:∀bj,Fr No σ bj->∀v w,(v∈es++as)->(w∈es++as)->vH bj v w=some (c v w)/\yZ bj v w=some (!c v w&& !c w v))
  (q:∀bj (t a b:Nat),σ.length<=t/\σ.length<=a/\σ.length<=b->Fr No σ bj->bj[t]? =some (.tuple [.ref a,.ref b])->bj[a]? =some (.list (gV c (es.length+as.length+1) es as).1)->bj[b]? =some (.list (gV c (es.length+as.length+1) es as).2)->Q (.ref t) ⟨l,bj⟩):
  bK ((gj (PP sa xs) 1000 (k+1)).call (.base Nt) [.ref n,.ref m]) Q E ⟨l,σ⟩:=by
 refine w_call rfl (show Nt≠mV by decide) (iI ?_);f_are
 have g:∀(τ:Hp) (j:Nat) (o:bP),τ[j]? =some o->(σ++τ)[σ.length+j]? =some o:=λτ j o h=>by
  rw[aY (by omega),cB];exact h
 refine cL (Q':=fun(fl:dk) (s:AS)=>fl= .next/\∃(bj:Hp) (lc:Loc),s=AS.mk lc bj/\Fr No σ bj/\er lc "missing" (.ref σ.length)/\er lc "unexpected" (.ref (σ.length+1))/\bj[σ.length]? =some (.list (gV c (es.length+as.length+1) es as).1)/\bj[σ.length+1]? =some (.list (gV c (es.length+as.length+1) es as).2)) (E':=λ_ _=>False) ?_ ?_ (λ_ _ h=>h)
 ·refine pB (P:=fun(N:Nat) (st:AS)=>∃(bj:Hp) (lc:Loc) (i j f:Nat) (ms us:List AV),st=AS.mk lc bj/\er lc "expected" (.ref n)/\er lc "actual" (.ref m)/\er lc "missing" (.ref σ.length)/\er lc "unexpected" (.ref (σ.length+1))/\er lc "i" (.int i)/\er lc "j" (.int j)/\
    i<=es.length/\j<=as.length/\N=(es.length-i)+(as.length-j)/\N<f/\ms.length<=i/\us.length<=j/\Fr No σ bj/\bj[σ.length]? =some (.list ms)/\bj[σ.length+1]? =some (.list us)/\ms++(gV c f (es.drop i) (as.drop j)).1=(gV c (es.length+as.length+1) es as).1/\us++(gV c f (es.drop i) (as.drop j)).2=(gV c (es.length+as.length+1) es as).2) 1000 (es.length+as.length) _ _
   ⟨_,_,0,0,es.length+as.length+1,[],[],rfl,rfl,rfl,rfl,rfl,rfl,rfl,bW _,bW _,rfl,dq _,aJ _,aJ _,.app,g _ 0 _ rfl,g _ 1 _ rfl,rfl,rfl⟩ (by omega) ?_
  rintro N l1 dO ⟨cI,lc,i,j,f,ms,us,e1,hl1,hl2,rI,AQ,vQ,GL,hi,hj,hN,hf,Sd,ph,fr,Cp,EF,rH,oj⟩;cases e1;have hn1:=fr.keep _ _ id hn;have hm1:=fr.keep _ _ id hm;have hc1:=hc _ fr;cases f with
  |zero=>omega
  |succ f=>
  have Cm:(ms++[AV.none]).length<10000:=by simp;omega
  k_cls
  refine cL (Q':=fun(fl:dk) (s:AS)=>fl= .next/\∃(bj:Hp) (lc:Loc) (i' j':Nat) (ms us:List AV),s=AS.mk lc bj/\er lc "expected" (.ref n)/\er lc "actual" (.ref m)/\er lc "missing" (.ref σ.length)/\er lc "unexpected" (.ref (σ.length+1))/\er lc "i" (.int i')/\er lc "j" (.int j')/\
    i'<=es.length/\j'<=as.length/\(es.length-i')+(as.length-j')<N/\ms.length<=i'/\us.length<=j'/\Fr No σ bj/\bj[σ.length]? =some (.list ms)/\bj[σ.length+1]? =some (.list us)/\ms++(gV c f (es.drop i') (as.drop j')).1=(gV c (es.length+as.length+1) es as).1/\us++(gV c f (es.drop i') (as.drop j')).2=(gV c (es.length+as.length+1) es as).2)
   (E':=fun(x:Exc) (s:AS)=>(x= .index\/x= .late)/\∃(bj:Hp) (lc:Loc) (i' j':Nat) (ms us:List AV),s=AS.mk lc bj/\er lc "expected" (.ref n)/\er lc "actual" (.ref m)/\er lc "missing" (.ref σ.length)/\er lc "unexpected" (.ref (σ.length+1))/\er lc "i" (.int i')/\er lc "j" (.int j')/\
    i'<=es.length/\j'<=as.length/\ms.length<=i'/\us.length<=j'/\Fr No σ bj/\bj[σ.length]? =some (.list ms)/\bj[σ.length+1]? =some (.list us)/\ms++es.drop i'=(gV c (es.length+as.length+1) es as).1/\us++as.drop j'=(gV c (es.length+as.length+1) es as).2) ?_ ?_ ?_
  ·f_are
   by_cases MQ:i<es.length
   ·have Yh:es[i]? =some es[i]:=ay MQ;refine fI Yh ?_;f_are
    by_cases Jp:j<as.length
    ·have Yo:as[j]? =some as[j]:=ay Jp;refine fI Yo ?_;obtain⟨t1,t2⟩:=hc1 es[i] as[j] (aI _ (bw MQ)) (aW _ (bw Jp));obtain⟨t3,t4⟩:=hc1 as[j] es[i] (aW _ (bw Jp)) (aI _ (bw MQ));have hdi:=p8 Yh;have Oj:=p8 Yo;obtain⟨f,rfl⟩:∃f',f=f'+1:=⟨f-1,by omega⟩;f_are
     by_cases f_tup:c es[i] as[j]=true
     ·rw[hdi,Oj,BE f_tup]at rH oj;f_are
      have p7:Fr No σ (dO.set σ.length (.list (ms++[es[i]]))):=⟨by rw[aV];exact fr.len,λx o h e=>aM (by have:=aN e;omega) (fr.keep x o h e)⟩;have hn2:=p7.keep _ _ id hn;have hc2:=hc _ p7;have hA:(dO.set σ.length (.list (ms++[es[i]])))[σ.length]? =some (.list (ms++[es[i]])):=get_set (aN Cp);have hB:(dO.set σ.length (.list (ms++[es[i]])))[σ.length+1]? =some (.list us):=aM (by omega) EF;refine kj (c:=c) (es:=es) (e:=es[i]) (ix:="i") (X:= .index) (L:=λlc=>er lc "expected" (.ref n)/\er lc "actual" (.ref m)/\er lc "missing" (.ref σ.length)/\er lc "unexpected" (.ref (σ.length+1))/\er lc "j" (.int j)/\er lc "e" es[i]/\er lc "a" as[j]) ?_ ?_ 1000 (i+1) _ (by omega) MQ ⟨by f_list,by f_list,by f_list,by f_list,by f_list,by f_list,by f_list⟩ (by f_list) ?_ ?_
      ·rintro wL i2 ⟨g1,g2,g3,g4,g5,g6,g7⟩ g8 g9;f_are
       by_cases lB:i2<es.length
       ·refine fI (ay lB) ?_;have t5:=(hc2 es[i2] es[i] (aI _ (bw lB)) (aI _ (bw MQ))).2;f_are
        exact⟨rfl,_,ay lB,rfl⟩
       ·exact nN (by omega) (by omega) ⟨rfl,rfl,by omega⟩
      ·rintro wL i2 ⟨g1,g2,g3,g4,g5,g6,g7⟩ g8 g9;f_are
       exact⟨rfl,_,rfl,⟨by f_list,by f_list,by f_list,by f_list,by f_list,by f_list,by f_list⟩,by f_list⟩
      ·rintro wL i2 ⟨g1,g2,g3,g4,g5,g6,g7⟩ g8 g9 uI;f_are
       refine⟨rfl,_,_,i2,j,ms++[es[i]],us,rfl,by f_list,by f_list,by f_list,by f_list,by f_list,by f_list,by omega,hj, ?_, ?_,ph,p7,hA,hB, ?_, ?_⟩
       ·have:=jE uI;omega
       ·have:=jE uI;rw[af];simp only [aq,bO];omega
       ·rw[<-uI,Oj,bc];exact rH
       ·rw[<-uI,Oj];exact oj
      ·rintro wL ⟨g1,g2,g3,g4,g5,g6,g7⟩ g8 g9;rw[g9,lJ]at rH oj;refine⟨.inl rfl,_,_,es.length,j,ms++[es[i]],us,rfl,by f_list,by f_list,by f_list,by f_list,by f_list,by f_list,aJ _,hj, ?_,ph,p7,hA,hB, ?_, ?_⟩
       ·rw[af];simp only [aq,bO];omega
       ·rw[c9,aX];exact rH
       ·rw[Oj];exact oj
     ·by_cases Yd:c as[j] es[i]=true
      ·rw[hdi,Oj,BF f_tup Yd]at rH oj;f_are
       have p7:Fr No σ (dO.set (σ.length+1) (.list (us++[as[j]]))):=⟨by rw[aV];exact fr.len,λx o h e=>aM (by have:=aN e;omega) (fr.keep x o h e)⟩;have hm2:=p7.keep _ _ id hm;have hc2:=hc _ p7;have hA:(dO.set (σ.length+1) (.list (us++[as[j]])))[σ.length]? =some (.list ms):=aM (by omega) Cp;have hB:(dO.set (σ.length+1) (.list (us++[as[j]])))[σ.length+1]? =some (.list (us++[as[j]])):=get_set (aN EF);refine kj (c:=c) (es:=as) (e:=as[j]) (ix:="j") (X:= .index) (L:=λlc=>er lc "expected" (.ref n)/\er lc "actual" (.ref m)/\er lc "missing" (.ref σ.length)/\er lc "unexpected" (.ref (σ.length+1))/\er lc "i" (.int i)/\er lc "e" es[i]/\er lc "a" as[j]) ?_ ?_ 1000 (j+1) _ (by omega) Jp ⟨by f_list,by f_list,by f_list,by f_list,by f_list,by f_list,by f_list⟩ (by f_list) ?_ ?_
       ·rintro wL i2 ⟨g1,g2,g3,g4,g5,g6,g7⟩ g8 g9;f_are
        by_cases lB:i2<as.length
        ·refine fI (ay lB) ?_;have t5:=(hc2 as[i2] as[j] (aW _ (bw lB)) (aW _ (bw Jp))).2;f_are
         exact⟨rfl,_,ay lB,rfl⟩
        ·exact nN (by omega) (by omega) ⟨rfl,rfl,by omega⟩
       ·rintro wL i2 ⟨g1,g2,g3,g4,g5,g6,g7⟩ g8 g9;f_are
        exact⟨rfl,_,rfl,⟨by f_list,by f_list,by f_list,by f_list,by f_list,by f_list,by f_list⟩,by f_list⟩
       ·rintro wL i2 ⟨g1,g2,g3,g4,g5,g6,g7⟩ g8 g9 uI;f_are
        refine⟨rfl,_,_,i,i2,ms,us++[as[j]],rfl,by f_list,by f_list,by f_list,by f_list,by f_list,by f_list,hi,by omega, ?_,Sd, ?_,p7,hA,hB, ?_, ?_⟩
        ·have:=jE uI;omega
        ·have:=jE uI;rw[af];simp only [aq,bO];omega
        ·rw[<-uI,hdi];exact rH
        ·rw[<-uI,hdi,bc];exact oj
       ·rintro wL ⟨g1,g2,g3,g4,g5,g6,g7⟩ g8 g9;rw[g9,nR]at rH oj;refine⟨.inl rfl,_,_,i,as.length,ms,us++[as[j]],rfl,by f_list,by f_list,by f_list,by f_list,by f_list,by f_list,hi,aJ _,Sd, ?_,p7,hA,hB, ?_, ?_⟩
        ·rw[af];simp only [aq,bO];omega
        ·rw[hdi];exact rH
        ·rw[c9,aX];exact oj
      ·rw[hdi,Oj,BG f_tup Yd]at rH oj;f_are
       refine kj (c:=c) (es:=es) (e:=es[i]) (ix:="i") (X:= .index) (L:=λlc=>er lc "expected" (.ref n)/\er lc "actual" (.ref m)/\er lc "missing" (.ref σ.length)/\er lc "unexpected" (.ref (σ.length+1))/\er lc "j" (.int j)/\er lc "e" es[i]/\er lc "a" as[j]) ?_ ?_ 1000 (i+1) _ (by omega) MQ ⟨by f_list,by f_list,by f_list,by f_list,by f_list,by f_list,by f_list⟩ (by f_list) ?_ ?_
       ·rintro wL i2 ⟨g1,g2,g3,g4,g5,g6,g7⟩ g8 g9;f_are
        by_cases lB:i2<es.length
        ·refine fI (ay lB) ?_;have t5:=(hc1 es[i2] es[i] (aI _ (bw lB)) (aI _ (bw MQ))).2;f_are
         exact⟨rfl,_,ay lB,rfl⟩
        ·exact nN (by omega) (by omega) ⟨rfl,rfl,by omega⟩
       ·rintro wL i2 ⟨g1,g2,g3,g4,g5,g6,g7⟩ g8 g9;f_are
        exact⟨rfl,_,rfl,⟨by f_list,by f_list,by f_list,by f_list,by f_list,by f_list,by f_list⟩,by f_list⟩
       ·rintro wL i2 ⟨g1,g2,g3,g4,g5,g6,g7⟩ g8 g9 uI;f_are
        refine kj (c:=c) (es:=as) (e:=as[j]) (ix:="j") (X:= .index) (L:=λlc=>er lc "expected" (.ref n)/\er lc "actual" (.ref m)/\er lc "missing" (.ref σ.length)/\er lc "unexpected" (.ref (σ.length+1))/\er lc "i" (.int i2)/\er lc "e" es[i]/\er lc "a" as[j]) ?_ ?_ 1000 (j+1) _ (by omega) Jp ⟨by f_list,by f_list,by f_list,by f_list,by f_list,by f_list,by f_list⟩ (by f_list) ?_ ?_
        ·rintro wL i2 ⟨g1,g2,g3,g4,g5,g6,g7⟩ g8 g9;f_are
         by_cases lB:i2<as.length
         ·refine fI (ay lB) ?_;have t5:=(hc1 as[i2] as[j] (aW _ (bw lB)) (aW _ (bw Jp))).2;f_are
          exact⟨rfl,_,ay lB,rfl⟩
         ·exact nN (by omega) (by omega) ⟨rfl,rfl,by omega⟩
        ·rintro wL i2 ⟨g1,g2,g3,g4,g5,g6,g7⟩ g8 g9;f_are
         exact⟨rfl,_,rfl,⟨by f_list,by f_list,by f_list,by f_list,by f_list,by f_list,by f_list⟩,by f_list⟩
        ·rintro TN i3 ⟨g1,g2,g3,g4,g5,g6,g7⟩ g8 g9' EH;f_are
         refine⟨rfl,_,_,i2,i3,ms,us,rfl,by f_list,by f_list,by f_list,by f_list,by f_list,by f_list,by omega,by omega, ?_, ?_, ?_,fr,Cp,EF, ?_, ?_⟩
         ·have:=jE uI;have:=jE EH;omega
         ·have:=jE uI;omega
         ·have:=jE EH;omega
         ·rw[<-uI,<-EH];exact rH
         ·rw[<-uI,<-EH];exact oj
        ·rintro TN ⟨g1,g2,g3,g4,g5,g6,g7⟩ g8 EH;rw[EH,nR,uI]at rH oj;refine⟨.inl rfl,_,_,i2,as.length,ms,us,rfl,by f_list,by f_list,by f_list,by f_list,by f_list,by f_list,by omega,aJ _, ?_,by omega,fr,Cp,EF,rH, ?_⟩
         ·have:=jE uI;omega
         ·rw[c9];exact oj
       ·rintro wL ⟨g1,g2,g3,g4,g5,g6,g7⟩ g8 uI;f_are
        refine kj (c:=c) (es:=as) (e:=as[j]) (ix:="j") (X:= .late) (L:=λlc=>er lc "expected" (.ref n)/\er lc "actual" (.ref m)/\er lc "missing" (.ref σ.length)/\er lc "unexpected" (.ref (σ.length+1))/\er lc "i" (.int (es.length:Nat))/\er lc "e" es[i]/\er lc "a" as[j]) ?_ ?_ 1000 (j+1) _ (by omega) Jp ⟨by f_list,by f_list,by f_list,by f_list,by f_list,by f_list,by f_list⟩ (by f_list) ?_ ?_
        ·rintro wL i2 ⟨g1,g2,g3,g4,g5,g6,g7⟩ g8 g9;f_are
         by_cases lB:i2<as.length
         ·refine fI (ay lB) ?_;have t5:=(hc1 as[i2] as[j] (aW _ (bw lB)) (aW _ (bw Jp))).2;f_are
          exact⟨rfl,_,ay lB,rfl⟩
         ·exact Ir (by omega) (by omega) ⟨rfl,rfl,by omega⟩
        ·rintro wL i2 ⟨g1,g2,g3,g4,g5,g6,g7⟩ g8 g9;f_are
         exact⟨rfl,_,rfl,⟨by f_list,by f_list,by f_list,by f_list,by f_list,by f_list,by f_list⟩,by f_list⟩
        ·rintro TN i3 ⟨g1,g2,g3,g4,g5,g6,g7⟩ g8 g9' EH;f_are
         rw[uI,lJ,EH]at rH oj;refine⟨.inl rfl,_,_,es.length,i3,ms,us,rfl,by f_list,by f_list,by f_list,by f_list,by f_list,by f_list,aJ _,by omega,by omega, ?_,fr,Cp,EF, ?_,oj⟩
         ·have:=jE EH;omega
         ·rw[c9];exact rH
        ·rintro TN ⟨g1,g2,g3,g4,g5,g6,g7⟩ g8 EH;f_are
         rw[uI,lJ,EH]at rH oj;exact⟨.inr rfl,_,_,es.length,as.length,ms,us,rfl,by f_list,by f_list,by f_list,by f_list,by f_list,by f_list,aJ _,aJ _,by omega,by omega,fr,Cp,EF,by rw[c9];exact rH,by rw[c9];exact oj⟩
    ·refine nN (by omega) (by omega) ?_;have:j=as.length:=by omega
     subst this;rw[c9,nR]at rH oj;exact⟨.inl rfl,_,_,i,as.length,ms,us,rfl,by f_list,by f_list,by f_list,by f_list,by f_list,by f_list,hi,aJ _,Sd,ph,fr,Cp,EF,rH,by rw[c9];exact oj⟩
   ·refine nN (by omega) (by omega) ?_;have:i=es.length:=by omega
    subst this;rw[c9,lJ]at rH oj;exact⟨.inl rfl,_,_,es.length,j,ms,us,rfl,by f_list,by f_list,by f_list,by f_list,by f_list,by f_list,aJ _,hj,Sd,ph,fr,Cp,EF,by rw[c9];exact rH,oj⟩
  ·rintro fl s ⟨rfl,bj,lc,i',j',Mk,xJ,rfl,hl1,hl2,rI,AQ,vQ,GL,h1,h2,h3,h4,h5,h6,h7,h8,h9,Ia⟩;f_are
   exact⟨_,h3,_,_,i',j',f,Mk,xJ,rfl,hl1,hl2,rI,AQ,vQ,GL,h1,h2,rfl,by omega,h4,h5,h6,h7,h8,h9,Ia⟩
  ·rintro x s ⟨hx,bj,lc,i',j',Mk,xJ,rfl,hl1,hl2,rI,AQ,vQ,GL,h1,h2,h4,h5,h6,h7,h8,h9,Ia⟩;have hs1:=mh es i';have hs2:=mh as j';have hn2:=h6.keep _ _ id hn;have hm2:=h6.keep _ _ id hm;have xB:Mk.length+(es.drop i').length<10000:=by rw[d7];omega
   have Ca:xJ.length+(as.drop j').length<10000:=by rw[d7];omega
   have hx3:=aN h8;have VL:∀(τ:Hp),Fr No σ ((bj.set σ.length (.list (Mk++es.drop i'))).set (σ.length+1) (.list (xJ++as.drop j'))++τ):=λτ=>⟨by simp only [af,aV];have:=h6.len;omega,λx o h e=>bh (aM (by have:=aN e;omega) (aM (by have:=aN e;omega) (h6.keep x o h e)))⟩;have Vi:∀(τ:Hp),((bj.set σ.length (.list (Mk++es.drop i'))).set (σ.length+1) (.list (xJ++as.drop j'))++τ)[σ.length]? =some (.list (Mk++es.drop i')):=λτ=>bh (aM (by omega) (get_set (aN h7)));have Vg:∀(τ:Hp),((bj.set σ.length (.list (Mk++es.drop i'))).set (σ.length+1) (.list (xJ++as.drop j'))++τ)[σ.length+1]? =some (.list (xJ++as.drop j')):=λτ=>bh (get_set (by rw[aV];exact hx3));rw[h9]at VL Vi Vg;rw[Ia]at VL Vi Vg;rcases hx with rfl|rfl;all_goals
    f_are
    rw[h9,Ia];exact⟨rfl,_,_,rfl,VL _,by f_list,by f_list,Vi _,Vg _⟩
 ·rintro fl s ⟨rfl,bj,lc,rfl,fr,hl1,hl2,ha,hb⟩;f_are
  have g2:∀(o:bP),(bj++[o])[bj.length]? =some o:=λo=>by simp
  exact q _ bj.length σ.length (σ.length+1) ⟨fr.len,aJ _,j1 _⟩ (fr.trans .app) (g2 _) (bh ha) (bh hb)
end
end
section
variable (v:Nat->Int) (n:Nat)
def jr {α:Type}:KasT α->(α->Prop)->Prop
 | .ret a,R=>R a
 | .ask i j k,R=>i<n/\j<n/\jr (k (decide (v i<v j))) R
end
section
variable {v:Nat->Int} {n:Nat}
theorem jr.mono {α:Type} {R R':α->Prop}:∀{t:KasT α},jr v n t R->(∀a,R a->R' a)->jr v n t R'
 | .ret a,h,q=>q a h
 | .ask _ _ k,⟨a,b,h⟩,q=>⟨a,b,jr.mono h q⟩
theorem jr.bind {α β:Type} {f:α->KasT β} {R:β->Prop}:∀{t:KasT α},jr v n t (λa=>jr v n (f a) R)->jr v n (t.bind f) R
 | .ret _,h=>h
 | .ask _ _ k,⟨a,b,h⟩=>⟨a,b,jr.bind h⟩
def lex (v:Nat->Int) (a b:Nat):Prop:=v a<v b\/(v a=v b/\a<b)
theorem lex.trans {c:Nat} (x:lex v a b) (y:lex v b c):lex v a c:=by unfold lex at*;omega
def g (p:Array Nat) (k:Nat):Nat:=p.getD k 0
structure St (n:Nat) (p:Array Nat) (m:Nat):Prop where
 size:p.size=n
 perm:p.toList.Perm (List.range n)
 hi:∀k,m<=k->k<n->g p k=k
 lo:∀k,k<m->g p k<m
def HF (v:Nat->Int) (p:Array Nat) (m:Nat):Prop:=∀a b,a<b->b<m->lex v (g p a) (g p b)
def Lb (v:Nat->Int) (p:Array Nat) (m:Nat):Prop:=∀a b,a<b->b<m->lex v (g p b) (g p a)
theorem yT{k x:Nat} (h:p[k]? =some x):g p k=x:=by
 show p.getD k 0=x;rw[EW,h];rfl
theorem yR{k:Nat} (h:k<p.size):p[k]? =some (g p k):=by
 show _=some (p.getD k 0);rw[EW,Ih h];rfl
theorem mJ{k:Nat} (hj:j<=p.size) (hk:k<p.size):g (kas_rev p i j) k=if i<=k/\k<j then g p (i+j-1-k)else g p k:=by
 have h:=getElem?_mirror_all (i:=i) hj k;split
 ·rename_i q;rw[aD q,yR (p:=p) (k:=i+j-1-k) (by omega)]at h;exact yT h
 ·rename_i q;rw[aC q,yR (p:=p) hk]at h;exact yT h
theorem QL{k x:Nat} (hk:k<p.size) (hx:x<=k) (hi:i<p.size):g (bubble p k (k-x)) i=if i=x then g p k else if x<i/\i<=k then g p (i-1)else g p i:=by
 have h:=getElem?_bubble hk (k-x) (by omega) i;rw[show k-(k-x)=x by omega]at h;split
 ·rename_i q;rw[aD q,yR hk]at h;exact yT h
 ·rename_i q;rw[aC q]at h;split
  ·rename_i q2;rw[aD q2,yR (p:=p) (k:=i-1) (by omega)]at h;exact yT h
  ·rename_i q2;rw[aC q2,yR hi]at h;exact yT h
theorem St.rev (S:St n p m) (hj:j<=m) (hm:m<=n):St n (kas_rev p i j) m:=by
 refine⟨(mirror_size _ _ _ _).trans S.size,(HL.mp (mirror_perm _ _ _ _)).trans S.perm,λk h1 h2=> ?_,λk h=> ?_⟩
 ·rw[mJ (by rw[S.size];omega) (by rw[S.size];omega),aC (by omega)];exact S.hi k h1 h2
 ·rw[mJ (by rw[S.size];omega) (by rw[S.size];omega)];split
  ·exact S.lo _ (by omega)
  ·exact S.lo _ h
theorem uo{p:Array Nat}:∀(f m:Nat),St n p m->HF v p m->1<=m->m+f=n->jr v n (kas_asc p f m) (λr=>St n p r/\HF v p r/\m<=r/\r<=n/\(r<n->v (g p r)<v (g p (r-1))))
 |0,m,S,H,h1,hf=>⟨S,H,aJ _,by omega,λh=>by omega⟩
 |f+1,m,S,H,h1,hf=>by
  have e:=S.hi m (aJ _) (by omega);have e1:=S.lo (m-1) (by omega);refine⟨?_, ?_, ?_⟩
  ·show g p m<n;omega
  ·show g p (m-1)<n;omega
  ·show jr v n (if decide (v (g p m)<v (g p (m-1)))=true then .ret m else kas_asc p f (m+1)) _;by_cases h:v (g p m)<v (g p (m-1))
   ·rw[aD (cH h)];exact⟨S,H,aJ _,by omega,λ_=>h⟩
   ·rw[aC (by simpa using h)];have S':St n p (m+1):=⟨S.size,S.perm,λk a b=>S.hi k (by omega) b,λk a=>by
     by_cases q:k=m
     ·subst q;omega
     ·have:=S.lo k (by omega);omega⟩
    have l1:lex v (g p (m-1)) (g p m):=by unfold lex;omega
    have H':HF v p (m+1):=λa b om hb=>by
     by_cases q:b=m
     ·subst q;by_cases q2:a=b-1
      ·subst q2;exact l1
      ·exact(H a (b-1) (by omega) (by omega)).trans l1
     ·exact H a b om (by omega)
    exact(uo f (m+1) S' H' (by omega) (by omega)).mono λr ⟨a,b,c,d,e⟩=>⟨a,b,by omega,d,e⟩
structure Dn (v:Nat->Int) (p:Array Nat) (m q:Nat):Prop where
 qm:q<m
 old:∀a b,a<b->b<m->a<m-(q+1)->lex v (g p b) (g p a)
 strict:∀a b,a<m-(q+1)->m-(q+1)<=b->b<m->v (g p b)<v (g p a)
 eq:∀a b,m-(q+1)<=a->a<b->b<m->v (g p a)=v (g p b)/\g p a<g p b
theorem Dn.rev {q:Nat} (S:St n p m) (hm:m<=n) (D:Dn v p m q):Lb v (kas_rev p (m-(q+1)) m) m:=λa b om hb=>by
 have hs:=S.size;rw[mJ (by omega) (by omega),mJ (by omega) (by omega)];by_cases h1:m-(q+1)<=a
 ·rw[aD ⟨by omega,hb⟩,aD ⟨h1,by omega⟩];have:=D.eq (m-(q+1)+m-1-b) (m-(q+1)+m-1-a) (by omega) (by omega) (by omega);unfold lex;omega
 ·rw[aC (λh:m-(q+1)<=a/\a<m=>h1 h.1)];by_cases h2:m-(q+1)<=b
  ·rw[aD ⟨h2,hb⟩];have:=D.strict a (m-(q+1)+m-1-b) (by omega) (by omega) (by omega);unfold lex;omega
  ·rw[aC (λh:m-(q+1)<=b/\b<m=>h2 h.1)];exact D.old a b om hb (by omega)
theorem Dn.plain (D:Dn v p m 0):Lb v p m:=λa b om hb=>D.old a b om hb (by have:=D.qm;omega)
theorem n4:∀(f:Nat) (p:Array Nat) (m q:Nat),St n p m->Dn v p m q->m+f=n->jr v n (kas_desc f p m q) (λr=>St n r.1 r.2.1/\Dn v r.1 r.2.1 r.2.2/\r.2.1<=n)
 |0,p,m,q,S,D,hf=>⟨S,D,by show m<=n;omega⟩
 |f+1,p,m,q,S,D,hf=>by
  have e:=S.hi m (aJ _) (by omega);have hq:=D.qm;have e1:=S.lo (m-1) (by omega);have hsz:=S.size;refine⟨?_, ?_, ?_⟩
  ·show g p m<n;omega
  ·show g p (m-1)<n;omega
  ·show jr v n (if decide (v (g p m)<v (g p (m-1)))=true then(if q>0 then kas_desc f (kas_rev p (m-(q+1)) m) (m+1) 0 else kas_desc f p (m+1) 0)else .ask (g p (m-1)) (g p m) λd=>if d=true then .ret (p,m,q)else kas_desc f p (m+1) (q+1)) _;have grow:∀p':Array Nat,St n p' m->g p' m=m->St n p' (m+1):=λp' S' e'=>⟨S'.size,S'.perm,λk a b=>S'.hi k (by omega) b,λk a=>by
     by_cases q:k=m
     ·subst q;omega
     ·have:=S'.lo k (by omega);omega⟩
   have Nq:∀a,a<m->v (g p (m-1))<=v (g p a):=λa ha=>by
    by_cases h1:a<m-(q+1)
    ·have:=D.strict a (m-1) h1 (by omega) (by omega);omega
    ·by_cases h2:a=m-1
     ·subst h2;exact lV _
     ·have:=D.eq a (m-1) (by omega) (by omega) (by omega);omega
   by_cases h:v (g p m)<v (g p (m-1))
   ·rw[aD (cH h)];have next:∀p':Array Nat,St n p' m->g p' m=m->Lb v p' m->(∀a,a<m->v (g p (m-1))<=v (g p' a))->Dn v p' (m+1) 0:=λp' S' e' D' h'=>by
     have hv:∀a,a<m->v (g p' m)<v (g p' a):=λa ha=>by rw[e'];rw[e]at h;have:=h' a ha;omega
     refine⟨by omega,λa b om hb ha=> ?_,λa b ha Cm HW=> ?_,λa b ha om hb=>by omega⟩
     ·by_cases q:b=m
      ·subst q;exact .inl (hv a (by omega))
      ·exact D' a b om (by omega)
     ·have:b=m:=by omega
      subst this;exact hv a (by omega)
    split
    ·have S':=S.rev (i:=m-(q+1)) (aJ m) (by omega:m<=n);have e':g (kas_rev p (m-(q+1)) m) m=m:=by rw[mJ (by omega) (by omega),aC (by omega)];exact e
     refine n4 f _ (m+1) 0 (grow _ S' e') (next _ S' e' (D.rev S (by omega)) λa ha=> ?_) (by omega);rw[mJ (by omega) (by omega)];split
     ·exact Nq _ (by omega)
     ·exact Nq _ ha
    ·have:q=0:=by omega
     subst this;exact n4 f _ (m+1) 0 (grow _ S e) (next _ S e D.plain Nq) (by omega)
   ·rw[aC (by simpa using h)];refine⟨by omega,by omega, ?_⟩;dsimp only;by_cases h2:v (g p (m-1))<v (g p m)
    ·rw[aD (cH h2)];exact⟨S,D,by show m<=n;omega⟩
    ·rw[aC (by simpa using h2)];refine n4 f p (m+1) (q+1) (grow _ S e) ⟨by omega,λa b om hb ha=> ?_,λa b ha Cm HW=> ?_,λa b ha om hb=> ?_⟩ (by omega)
     ·by_cases qq:b=m
      ·subst qq;have:=D.strict a (b-1) (by omega) (by omega) (by omega);exact .inl (by omega)
      ·exact D.old a b om (by omega) (by omega)
     ·by_cases qq:b=m
      ·subst qq;have:=D.strict a (b-1) (by omega) (by omega) (by omega);omega
      ·exact D.strict a b (by omega) (by omega) (by omega)
     ·by_cases qq:b=m
      ·subst qq;have:=S.lo a (by omega);by_cases q3:a=b-1
       ·subst q3;omega
       ·have:=D.eq a (b-1) (by omega) (by omega) (by omega);omega
      ·exact D.eq a b (by omega) om (by omega)
theorem Lb.rev (S:St n p m) (hm:m<=n) (D:Lb v p m):HF v (kas_rev p 0 m) m:=λa b om hb=>by
 have hs:=S.size;rw[mJ (by omega) (by omega),mJ (by omega) (by omega),aD ⟨by omega,by omega⟩,aD ⟨by omega,by omega⟩];exact D _ _ (by omega) (by omega)
theorem HF.rev (S:St n p m) (hm:m<=n) (D:HF v p m):Lb v (kas_rev p 0 m) m:=λa b om hb=>by
 have hs:=S.size;rw[mJ (by omega) (by omega),mJ (by omega) (by omega),aD ⟨by omega,by omega⟩,aD ⟨by omega,by omega⟩];exact D _ _ (by omega) (by omega)
abbrev Ny (v:Nat->Int) (n:Nat) (r:Nat×Array Nat):Prop:=St n r.2 r.1/\HF v r.2 r.1/\1<=r.1/\r.1<=n
theorem vm(S:St n p m) (hm:m<=n) (h1:1<=m) (D:Lb v p m):jr v n (kas_tail3 m n p) (Ny v n):=by
 refine jr.bind ?_;exact(uo (n-m) m (S.rev (aJ _) hm) (D.rev S hm) h1 (by omega)).mono λr ⟨a,b,c,d,_⟩=>⟨a,b,by show 1<=r;omega,d⟩
theorem oy(S:St n p m) (hm:m<n) (h1:1<=m) (D:Lb v p m) (hl:∀a,a<m->v (g p m)<v (g p a)):jr v n (kas_descPart m n p) (Ny v n):=by
 have e:=S.hi m (aJ _) hm;have S':St n p (m+1):=⟨S.size,S.perm,λk a b=>S.hi k (by omega) b,λk a=>by
  by_cases q:k=m
  ·subst q;omega
  ·have:=S.lo k (by omega);omega⟩
 refine jr.bind ((n4 (n-(m+1)) p (m+1) 0 S' ⟨by omega,λa b om hb ha=> ?_,λa b ha Cm HW=> ?_,λa b ha om hb=>by omega⟩ (by omega)).mono ?_)
 ·by_cases q:b=m
  ·subst q;exact .inl (hl a (by omega))
  ·exact D a b om (by omega)
 ·have:b=m:=by omega
  subst this;exact hl a (by omega)
 ·rintro⟨p',m',q'⟩ ⟨S2,D2,h2⟩;dsimp only at S2 D2 h2 ⊢;have:=D2.qm;split
  ·exact vm (S2.rev (aJ _) h2) h2 (by omega) (D2.rev S2 h2)
  ·have:q'=0:=by omega
   subst this;exact vm S2 h2 (by omega) D2.plain
theorem A6(S:St n p 1) (h2:2<=n):jr v n (kas_count n p) (Ny v n):=by
 refine jr.bind ((uo (n-1) 1 S (λa b h h'=>by omega) (aJ _) (by omega)).mono ?_);rintro r ⟨S1,H1,h3,h4,h5⟩;have hs:=S1.size;show jr v n (if(r==n)=true then _ else _) _;by_cases e:r=n
 ·subst e;rw[aD (by simp)];exact⟨S1,H1,h3,h4⟩
 ·rw[aC (by simpa using e)];have f_tup:=h5 (by omega);split
  ·refine⟨?_, ?_, ?_⟩
   ·have:=S1.lo 0 (by omega);show g p 0<n;omega
   ·have:=S1.lo (r-1) (by omega);show g p (r-1)<n;omega
   ·show jr v n (if decide (v (g p 0)<v (g p (r-1)))=true then .ret (r,p)else kas_descPart r n (kas_rev p 0 r)) _;by_cases h:v (g p 0)<v (g p (r-1))
    ·rw[aD (cH h)];exact⟨S1,H1,h3,h4⟩
    ·rw[aC (by simpa using h)];refine oy (S1.rev (aJ _) h4) (by omega) h3 (H1.rev S1 h4) λa ha=> ?_;rw[mJ (by omega) (by omega),mJ (by omega) (by omega),aC (by omega),aD ⟨by omega,ha⟩];have x1:v (g p 0)<=v (g p (0+r-1-a)):=by
      by_cases q:0+r-1-a=0
      ·rw[q];exact lV _
      ·have:=H1 0 (0+r-1-a) (by omega) (by omega);unfold lex at this;omega
     omega
  ·have:r=1:=by omega
   subst this;exact oy S1 (by omega) h3 (λa b h h'=>by omega) λa ha=>by
    have:a=0:=by omega
    subst this;exact f_tup
theorem place_spec{p:Array Nat} {k:Nat} (S:St n p k) (hk:k<n) (H:HF v p k):∀(f l r:Nat),l<=r->r<=k->r-l<=f->(∀a,a<l->v (g p a)<=v (g p k))->(∀a,r<=a->a<k->v (g p k)<v (g p a))->
  jr v n (kas_place p k f l r) (λx=>x<=k/\(∀a,a<x->v (g p a)<=v (g p k))/\∀a,x<=a->a<k->v (g p k)<v (g p a))
 |0,l,r,h1,h2,h3,h4,h5=>⟨by omega,h4,λa ha hk=>h5 a (by omega) hk⟩
 |f+1,l,r,h1,h2,h3,h4,h5=>by
  show jr v n (if l≥r then .ret l else .ask (g p k) (g p ((l+r) / 2)) λc=>if c=true then kas_place p k f l ((l+r) / 2)else kas_place p k f ((l+r) / 2+1) r) _;split
  ·exact⟨by omega,h4,λa ha hk=>h5 a (by omega) hk⟩
  ·have hm:(l+r) / 2<r:=by omega
   have Se:l<=(l+r) / 2:=by omega
   refine⟨?_, ?_, ?_⟩
   ·rw[S.hi k (aJ _) hk];exact hk
   ·have:=S.lo ((l+r) / 2) (by omega);omega
   ·have mono:∀a b,a<=b->b<k->v (g p a)<=v (g p b):=λa b om hb=>by
     by_cases q:a=b
     ·subst q;exact lV _
     ·have:=H a b (by omega) hb;unfold lex at this;omega
    dsimp only;by_cases h:v (g p k)<v (g p ((l+r) / 2))
    ·rw[aD (cH h)];refine place_spec S hk H f l _ Se (by omega) (by omega) h4 λa ha hb=> ?_;have:=mono ((l+r) / 2) a ha hb;omega
    ·rw[aC (by simpa using h)];refine place_spec S hk H f _ r (by omega) h2 (by omega) (λa ha=> ?_) h5;have:=mono a ((l+r) / 2) (by omega) (by omega);omega
theorem zc:∀(f:Nat) (p:Array Nat) (k:Nat),St n p k->HF v p k->k+f=n->jr v n (kas_bin f p k) (λp'=>St n p' n/\HF v p' n)
 |0,p,k,S,H,hf=>by
  have:k=n:=by omega
  subst this;exact⟨S,H⟩
 |f+1,p,k,S,H,hf=>by
  refine jr.bind ((place_spec S (by omega) H k 0 k (bW _) (aJ _) (by omega) (λa h=>by omega) (λa h h'=>by omega)).mono ?_);rintro x ⟨hx,h1,h2⟩;have hs:=S.size;have ek:=S.hi k (aJ _) (by omega);have gb:∀i,i<n->g (bubble p k (k-x)) i=if i=x then g p k else if x<i/\i<=k then g p (i-1)else g p i:=λi hi=>QL (by omega) hx (by omega);refine zc f _ (k+1) ⟨(bubble_size _ _ _).trans hs,(HL.mp (bubble_perm _ _ _)).trans S.perm,λi a b=> ?_,λi a=> ?_⟩ (λa b om hb=> ?_) (by omega)
  ·rw[gb i b,aC (by omega),aC (by omega)];exact S.hi i (by omega) b
  ·rw[gb i (by omega)];split
   ·omega
   ·split
    ·have:=S.lo (i-1) (by omega);omega
    ·have:=S.lo i (by omega);omega
  ·rw[gb a (by omega),gb b (by omega)];by_cases qa:a=x
   ·rw[aD qa,aC (by omega),aD ⟨by omega,by omega⟩];have:=h2 (b-1) (by omega) (by omega);exact .inl this
   ·rw[aC qa];by_cases qb:b=x
    ·rw[aD qb,aC (by omega)];have:=h1 a (by omega);have:=S.lo a (by omega);unfold lex;omega
    ·rw[aC qb];by_cases xa:x<a
     ·rw[aD ⟨xa,by omega⟩,aD ⟨by omega,by omega⟩];exact H _ _ (by omega) (by omega)
     ·rw[aC (λh=>xa h.1)];by_cases xb:x<b
      ·rw[aD ⟨xb,by omega⟩];exact H _ _ (by omega) (by omega)
      ·rw[aC (λh=>xb h.1)];exact H _ _ om (by omega)
theorem CY(h2:2<=n):jr v n (kas_sort n) (λp=>p.size=n/\p.toList.Perm (List.range n)/\HF v p n):=by
 have hsz:(List.toArray (List.range n)).size=n:=by simp
 have gi:∀k,k<n->g (List.toArray (List.range n)) k=k:=λk hk=>yT (by simp [hk]);refine jr.bind ((A6 ⟨hsz,List.Perm.refl _,λk _ hk=>gi k hk,λk hk=>by rw[gi k (by omega)];omega⟩ h2).mono ?_);rintro⟨m,p⟩ ⟨S,H,h3,h4⟩;dsimp only at S H h3 h4 ⊢;split
 ·rw[Nat.max_eq_left h3];exact(zc (n-m) p m S H (by omega)).mono λp' ⟨S',H'⟩=>⟨S'.size,S'.perm,H'⟩
 ·have:m=n:=by omega
  subst this;exact⟨S.size,S.perm,H⟩
end
section
variable {l:Loc} {σ:Hp} {E:Exc->AS->Prop} {v:Nat->Int} {n:Nat}
theorem J5{α:Type} {f:Nat->Nat->PM Bool} {I:AS->Prop} {R:α->Prop} {Q:α->AS->Prop} (hf:∀i j st,i<n->j<n->I st->bK (f i j) (λb s=>b=decide (v i<v j)/\I s) (λ_ _=>False) st) (q:∀a s,R a->I s->Q a s):∀(t:KasT α) (st:AS),jr v n t R->I st->bK (dj f t) Q E st
 | .ret a,st,h,hI=>q a st h hI
 | .ask i j k,st,⟨h1,h2,h⟩,hI=>by
  show bK (PM.bind (f i j) λb=>dj f (k b)) Q E st;refine wb (cL (hf i j st h1 h2 hI) (λb s hb=> ?_) λ_ _ e=>e.elim);obtain⟨rfl,Vt⟩:=hb;exact J5 hf q (k _) s h Vt
structure Ord (v:Nat->Int) (n:Nat) (p:List Nat):Prop where
 perm:p.Perm (List.range n)
 sorted:p.Pairwise (lex v)
theorem w_sortBy{f:Nat->Nat->PM Bool} {xs:List AV} {I:AS->Prop} {st:AS} (hf:∀i j st,i<xs.length->j<xs.length->I st->bK (f i j) (λb s=>b=decide (v i<v j)/\I s) (λ_ _=>False) st) (hI:I st)
  (q:∀p s,Ord v xs.length p->I s->Q (p.map λi=>xs.getD i .none) s):bK (sortBy f xs) Q E st:=by
 unfold sortBy;by_cases h:xs.length<2
 ·rw[aD h];have e:(List.range xs.length).map (λi=>xs.getD i .none)=xs:=by
   refine List.ext_getElem (by simp) λi h1 h2=> ?_;simp [h2]
  have:=q (List.range xs.length) st ⟨List.Perm.refl _, ?_⟩ hI
  ·rw[e]at this;exact this
  ·match xs.length,h with
   |0,_=>exact .nil
   |1,_=>exact Lg ..
 ·rw[aC h];refine wb (J5 hf (λp s hp Vt=> ?_) (kas_sort xs.length) st (CY (v:=v) (by omega)) hI);obtain⟨h1,h2,h3⟩:=hp;refine q p.toList s ⟨h2, ?_⟩ Vt;rw[eO];intro i j hi hj hij;have DU:i<p.size:=by simpa using hi
  have hj':j<p.size:=by simpa using hj
  have e1:g p i=p.toList[i]:=by rw[yT (x:=p.toList[i])];simp [DU]
  have e2:g p j=p.toList[j]:=by rw[yT (x:=p.toList[j])];simp [hj']
  rw[<-e1,<-e2];exact h3 i j hij (by omega)
def DI {α:Type} (c:α->α->Bool) (x:α):List α->List α
 |[]=>[x]
 |y::r=>if c x y then x::y::r else y::DI c x r
def cD {α:Type} (c:α->α->Bool):List α->List α
 |[]=>[]
 |x::r=>DI c x (cD c r)
section
variable {α:Type} {key:α->Int}
abbrev gY (key:α->Int) (a b:α):Bool:=decide (key a<key b)
theorem qN{c:α->α->Bool} {x:α}:∀{l:List α},(DI c x l).Perm (x::l)
 |[]=> .refl _
 |y::r=>by
  unfold DI;split
  ·exact .refl _
  ·exact(qN.cons y).trans (.swap ..)
theorem cw{c:α->α->Bool}:∀{l:List α},(cD c l).Perm l
 |[]=> .refl _
 |x::r=>qN.trans (cw.cons x)
theorem rG{x:α}:∀{l:List α},l.Pairwise (λa b=>key a<=key b)->(DI (gY key) x l).Pairwise (λa b=>key a<=key b)
 |[],_=>Lg ..
 |y::r,h=>by
  obtain⟨h1,h2⟩:=bS.mp h;unfold DI;split
  ·rename_i hc;have hc:key x<key y:=dE hc;exact bS.mpr ⟨λz hz=>by
    rcases aK.mp hz with rfl|hz
    ·omega
    ·have:=h1 z hz;omega,h⟩
  ·rename_i hc;have hc:¬key x<key y:=λh=>hc (cH h);exact bS.mpr ⟨λz hz=>by
    rcases aK.mp (qN.mem_iff.mp hz)with rfl|hz
    ·omega
    ·exact h1 z hz,rG h2⟩
theorem dI:∀{l:List α},(cD (gY key) l).Pairwise (λa b=>key a<=key b)
 |[]=> .nil
 |_::_=>rG dI
theorem ki:∀{l₁ l₂:List α},l₁.Perm l₂->l₁.Pairwise (λa b=>key a<=key b)->l₂.Pairwise (λa b=>key a<=key b)->(∀a∈l₁,∀b∈l₁,key a=key b->a=b)->l₁=l₂
 |[],_,h,_,_,_=>(wc.mp h).symm
 |a::r,[],h,_,_,_=>absurd h.length_eq (by simp)
 |a::r,b::s,h,h1,h2,hi=>by
  obtain⟨h3,h4⟩:=bS.mp h1;obtain⟨h5,h6⟩:=bS.mp h2;have e:a=b:=by
   have ha:a∈b::s:=h.mem_iff.mp (aj ..);have hb:b∈a::r:=h.mem_iff.mpr (aj ..);refine hi a (aj ..) b hb ?_;have x1:key a<=key b:=by
    rcases aK.mp hb with q|q
    ·rw[q];exact lV _
    ·exact h3 b q
   have x2:key b<=key a:=by
    rcases aK.mp ha with q|q
    ·rw[q];exact lV _
    ·exact h5 a q
   omega
  subst e;rw[ki ((List.perm_cons a).mp h) h4 h6 λx hx y hy=>hi x (ah _ hx) y (ah _ hy)]
theorem wH{v:Nat->Int} {p:List Nat} {ds:List α} {d0:α} (O:Ord v ds.length p) (hv:∀i,i<ds.length->v i=key (ds.getD i d0)) (hi:∀a∈ds,∀b∈ds,key a=key b->a=b):(p.map λi=>ds.getD i d0)=cD (gY key) ds:=by
 have e:(List.range ds.length).map (λi=>ds.getD i d0)=ds:=by
  refine List.ext_getElem (by simp) λi h1 h2=> ?_;simp [h2]
 have hp:(p.map λi=>ds.getD i d0).Perm ds:=by
  have:=O.perm.map λi=>ds.getD i d0;rw[e]at this;exact this
 refine ki (key:=key) (hp.trans cw.symm) ?_ dI λa ha b hb=>hi a (hp.mem_iff.mp ha) b (hp.mem_iff.mp hb);rw[i9];refine O.sorted.imp_of_mem fun{a b} ha hb h=> ?_;have h1:=dh.mp (O.perm.mem_iff.mp ha);have h2:=dh.mp (O.perm.mem_iff.mp hb);rw[<-hv a h1,<-hv b h2];unfold lex at h;omega
end
theorem zL{is:List Int} {st:AS} (hl:is.length<64) (q:Q ((cD (gY id) is).map .int) st):bK (dn (is.map .int)) Q E st:=by
 obtain⟨l,σ⟩:=st;unfold dn;have hlen:(is.map AV.int).length=is.length:=aG ..;rw[aC (by omega)];refine wb ?_;show bK (if(is.map AV.int).all qL=true then _ else _) Q E ⟨l,σ⟩;rw[aD (by rw[List.all_map,ee];exact λ_ _=>rfl)];refine w_sortBy (v:=λi=>is.getD i 0) (I:=λs=>s=⟨l,σ⟩) (λi j s hi hj e=> ?_) rfl λp s O e=> ?_
 ·subst e;rw[hlen]at hi hj;have e1:(is.map AV.int).getD i .none= .int (is.getD i 0):=by simp [hi]
  have e2:(is.map AV.int).getD j .none= .int (is.getD j 0):=by simp [hj]
  rw[e1,e2];exact⟨rfl,rfl⟩
 ·subst e;rw[hlen]at O;have:=wH (key:=id) (d0:=0) O (λi _=>rfl) λa _ b _ h=>h;rw[<-this,eD]at q;have e:(p.map λi=>(is.map AV.int).getD i .none)=p.map (AV.int∘λi=>is.getD i 0):=by
   refine dc λi hi=> ?_;have:=dh.mp (O.perm.mem_iff.mp hi);simp [this]
  rw[e];exact q
end
section
section
variable {sa:Addr} {xs:List Int} {k:Nat} {l:Loc} {σ:Hp} {E:Exc->AS->Prop} {Q:AV->AS->Prop} {n:Nat}
theorem xH{d0:α} {pr:α->Int×Int} {key:α->Int} {Q:List AV->AS->Prop} (hl:vs.length<64) (hn:vs.length=ds.length) (hx:∀i,i<vs.length->pairAt σ (vs.getD i .none)=some (pr (ds.getD i d0)))
  (hk:∀a∈ds,∀b∈ds,eQ (pr a) (pr b)=decide (key a<key b)) (q:∀p,Ord (λi=>key (ds.getD i d0)) ds.length p->Q (p.map λi=>vs.getD i .none) ⟨l,σ⟩):bK (dn vs) Q E ⟨l,σ⟩:=by
 unfold dn;rw[aC (by omega)];refine wb ?_;show bK (if vs.all qL=true then _ else _) Q E ⟨l,σ⟩;have gm:∀i,i<ds.length->ds.getD i d0∈ds:=λi hi=>by
  rw[aT,ay hi];exact bw hi
 cases vs with
 |nil=>
  have:ds=[]:=List.eq_nil_of_length_eq_zero hn.symm;subst this;exact q [] ⟨.refl _,.nil⟩
 |cons x vs=>
  have h0:=hx 0 (by simp);have Qk:qL x=false:=by
   cases x<;>first|rfl|cases h0
  have tV:(x::vs).all qL=false:=by rw[pe,Qk];rfl
  rw[tV,aC (by decide)];have hp:((x::vs).all λy=>(pairAt σ y).isSome)=true:=by
   rw[ee];intro y hy;obtain⟨i,hi,rfl⟩:=List.mem_iff_getElem.mp hy;have:=hx i hi;rw[aT,ay hi]at this;show(pairAt σ ((x::vs)[i])).isSome=true
   rw[show pairAt σ ((x::vs)[i])=_ from this];rfl
  rw[aD hp];refine w_sortBy (v:=λi=>key (ds.getD i d0)) (I:=λs=>s=⟨l,σ⟩) (λi j s hi hj e=> ?_) rfl λp s O e=> ?_
  ·subst e;refine wb ?_;show bK (PM.b8 (pK σ _ _)) _ _ _;unfold pK;rw[hx i hi,hx j hj];exact⟨hk _ (gm i (by omega)) _ (gm j (by omega)),rfl⟩
  ·subst e;rw[hn]at O;exact q p O
end
section
variable {P:Prog} {fuel k:Nat} {l:Loc} {σ:Hp} {E:Exc->AS->Prop} {Q:AV->AS->Prop}
theorem OO{params:Arguments} {body:PySem.Expr} {scope:Scope} {cs:List (Str×Nat)} {f:Nat} (h:σ[f]? =some (.lam params body scope cs)) (q:bK (eY ⟨P,gj P fuel k,fuel,0⟩ params body scope cs args) Q E ⟨l,σ⟩):
  bK ((gj P fuel (k+1)).call (.ref f) args) Q E ⟨l,σ⟩:=by
 show bK (PM.bind (PM.obj f) _) Q E ⟨l,σ⟩;exact wb (jf h q)
theorem Fe{C:Cx} {params:Arguments} {body:PySem.Expr} {scope:Scope} {clos:List (Str×Nat)} (h1:(scope.kind != .function||scope.isGenerator||scope.isCoroutine)=false)
  (q:bK (PM.bind (mK params [] args) λbinds=>PM.bind (dJ scope.names clos) λcells=>PM.within [] (PM.bind (storeAll ⟨scope,cells,.none⟩ binds) λ_=>ev C body ⟨scope,cells,.none⟩)) Q E ⟨l,σ⟩):bK (eY C params body scope clos args) Q E ⟨l,σ⟩:=by
 unfold eY;rw[h1];exact q
theorem OS{g:AV} (q:Q (.ref (σ.length+1)) ⟨l,σ++[.cell (some g),.jb σ.length]⟩):bK ((gj P fuel (k+1)).call (.base P.dN) [g]) Q E ⟨l,σ⟩:=by
 show bK (fj P fuel (gj P fuel k) (.base P.dN) [g]) Q E ⟨l,σ⟩;unfold fj;dsimp only;rw[aD rfl];have e:(σ++[bP.cell (some g)]).length=σ.length+1:=by simp
 show Q (.ref (σ++[bP.cell (some g)]).length) ⟨l,σ++[.cell (some g)]++[.jb σ.length]⟩;rw[e,bc];exact q
theorem Iq{c:Nat} {x:AV} (h:σ[n]? =some (.jb c)) (hi:∀(σ:Hp) (s:Nat) (l:Loc),σ[s]? =some (.slots (.ref n) [.none])->σ[n]? =some (.jb c)->bK (cX ⟨P,gj P fuel k,fuel,0⟩ P.pV [] [.ref s,x]) (λv st=>v= .none/\st=⟨l,σ.set s (.slots (.ref n) [some x])⟩) (λ_ _=>False) ⟨l,σ⟩)
  (q:Q (.ref σ.length) ⟨l,σ++[.slots (.ref n) [some x]]⟩):bK ((gj P fuel (k+1)).call (.ref n) [x]) Q E ⟨l,σ⟩:=by
 show bK (PM.bind (PM.obj n) _) Q E ⟨l,σ⟩;refine wb (jf h ?_);refine wb ?_;show bK (PM.bind (cX _ _ _ [.ref σ.length,x]) _) Q E ⟨l,σ++[.slots (.ref n) [.none]]⟩;refine wb (cL (hi _ _ l eM (bh h)) (λv st h=> ?_) λ_ _ e=>e.elim);obtain⟨rfl,rfl⟩:=h;rw[rY _ _ (aJ _),jx];exact q
theorem Fh{n c:Nat} (hi:∀(x:AV) (σ:Hp) (s:Nat) (l:Loc),σ[s]? =some (.slots (.ref n) [.none])->σ[n]? =some (.jb c)->bK (cX ⟨P,gj P fuel k,fuel,0⟩ P.pV [] [.ref s,x]) (λv st=>v= .none/\st=⟨l,σ.set s (.slots (.ref n) [some x])⟩) (λ_ _=>False) ⟨l,σ⟩):
  ∀(vs:List AV) (σ:Hp) (Q:List AV->AS->Prop),σ[n]? =some (.jb c)->Q ((List.range' σ.length vs.length).map .ref) ⟨l,σ++vs.map λx=> .slots (.ref n) [some x]⟩->bK (dC (gj P fuel (k+1)).call (.ref n) vs) Q E ⟨l,σ⟩
 |[],σ,Q,_,q=>by
  rw[qX,aX]at q;exact q
 |x::vs,σ,Q,h,q=>by
  show bK (PM.bind ((gj P fuel (k+1)).call (.ref n) [x]) _) Q E ⟨l,σ⟩;refine wb (Iq h (hi x) ?_);refine wb (Fh hi vs _ _ (bh h) ?_);have e:(σ++[bP.slots (.ref n) [some x]]).length=σ.length+1:=by simp
  rw[e,bc];exact q
theorem OQ{c:Nat} {a:Option AV} {y:AV} {Q:Bool->AS->Prop} (hs:σ[s]? =some (.slots (.ref n) [a])) (hn:σ[n]? =some (.jb c)) (q:bK (cX ⟨P,gj P fuel k,fuel,0⟩ P.klt [("mycmp",c)] [.ref s,y]) (λv s=>∃b,v= .bool b/\Q b s) E ⟨l,σ⟩):
  bK ((gj P fuel (k+1)).lt (.ref s) y) Q E ⟨l,σ⟩:=by
 show bK (PM.bind (PM.obj s) _) Q E ⟨l,σ⟩;refine wb (jf hs ?_);refine wb (jf hn ?_);refine wb (cL q (λv st h=> ?_) λ_ _ e=>e);obtain⟨b,rfl,h⟩:=h;exact h
end
seal PM.bind PM.pure PM.obj PM.cm PM.alloc PM.ey PM.gd PM.within PM.sure PM.attempt PM.hp PM.b8 PM.stuck PM.raise forLoop whileLoop compLoop dj dC sortBy gj bK cX eY cg bM mm
section
variable {sa:Addr} {xs:List Int} {k:Nat} {l:Loc} {σ:Hp} {E:Exc->AS->Prop} {Q:AV->AS->Prop} {n:Nat}
theorem Ay{x:AV} (h:σ[s]? =some (.slots (.ref n) [.none])) (hk:∃c,σ[n]? =some (.jb c)) (q:Q .none ⟨l,σ.set s (.slots (.ref n) [some x])⟩):
  bK (cX (Ck sa xs k) (PP sa xs).pV [] [.ref s,x]) Q E ⟨l,σ⟩:=by
 obtain⟨c,hk⟩:=hk;refine iI ?_;f_are
 exact q
theorem Gj{t c:Nat} {g x y:AV} (hs:σ[s]? =some (.slots (.ref n) [some x])) (ht:σ[t]? =some (.slots (.ref n) [some y])) (hn:σ[n]? =some (.jb c)) (hc:σ[c]? =some (.cell (some g))) (hx:mm x=PM.pure x) (hy:mm y=PM.pure y)
  {Q:AV->AS->Prop} (q:∀l',bK ((gj (PP sa xs) 1000 k).call g [x,y]) (λv s=>s.loc=l'/\∃z,v= .int z/\Q (.bool (decide (z<0))) ⟨l,s.hp⟩) (λ_ _=>False) ⟨l',σ⟩):
  bK (cX (Ck sa xs k) (PP sa xs).klt [("mycmp",c)] [.ref s,.ref t]) Q E ⟨l,σ⟩:=by
 refine iI ?_;f_are
 refine Ff hx ?_;f_are
 refine Ff hy ?_;f_are
 refine cL (q _) (λv s h=> ?_) λ_ _ e=>e;obtain⟨e,z,rfl,h⟩:=h;obtain⟨l',bj⟩:=s;f_are
 exact h
theorem CL{c:Nat} {g:AV} {w:Nat->Int} {Q:List AV->AS->Prop} (hl:vs.length<64) (hn:σ[n]? =some (.jb c)) (hc:σ[c]? =some (.cell (some g))) (hb:∀x∈vs,mm x=PM.pure x)
  (hg:∀(i j:Nat) (bj:Hp) (l':Loc),i<vs.length->j<vs.length->Fr No σ bj->bK ((gj (PP sa xs) 1000 k).call g [vs.getD i .none,vs.getD j .none]) (λv s=>s.loc=l'/\Fr No bj s.hp/\∃z,v= .int z/\decide (z<0)=decide (w i<w j)) (λ_ _=>False) ⟨l',bj⟩)
  (q:∀p bj,Ord w vs.length p->Fr No σ bj->Q (p.map λi=>vs.getD i .none) ⟨l,bj⟩):bK (fC (gj (PP sa xs) 1000 (k+1)) (.ref n) vs) Q E ⟨l,σ⟩:=by
 unfold fC;rw[aC (by intro h;rcases h with h|h;omega;cases h)];refine wb (Fh (c:=c) (λx σ s l h1 h2=>Ay h1 ⟨c,h2⟩ ⟨rfl,rfl⟩) vs σ _ hn ?_);refine wb ?_
 f_look
 have slot:∀(bj:Hp) i,i<vs.length->Fr No (σ++vs.map λx=>bP.slots (.ref n) [some x]) bj->bj[σ.length+i]? =some (.slots (.ref n) [some (vs.getD i .none)]):=λbj i hi fr=>by
  refine fr.keep _ _ id ?_;rw[aY (by omega),cB,cx,ay hi,aT,ay hi];rfl
 have I4:∀i,i<vs.length->(((List.range' σ.length vs.length).map AV.ref).getD i .none)= .ref (σ.length+i):=λi hi=>by
  rw[aT,cx,List.getElem?_range' (by omega)];simp
 have tV:(((List.range' σ.length vs.length).map AV.ref).all (qM (σ++vs.map λx=>bP.slots (.ref n) [some x]) (.ref n)))=true:=by
  rw[ee];intro x hx;obtain⟨m,hm,rfl⟩:=aR.mp hx;obtain⟨i,hi,rfl⟩:=List.mem_range'.mp hm;rw[Nat.one_mul];unfold qM;dsimp only;rw[slot _ i hi .refl];simp
 rw[aD tV];have gm:∀i,i<vs.length->mm (vs.getD i .none)=PM.pure (vs.getD i .none):=λi hi=>by
  rw[aT,ay hi];exact hb _ (bw hi)
 refine w_sortBy (v:=w) (I:=λs=>s.loc=l/\Fr No (σ++vs.map λx=>bP.slots (.ref n) [some x]) s.hp) (λi j st hi hj hI=> ?_) ⟨rfl,.refl⟩ λp s O hI=> ?_
 ·obtain⟨l1,dO⟩:=st;obtain⟨rfl,fr⟩:=hI;have fr:Fr No (σ++vs.map λx=>bP.slots (.ref n) [some x]) dO:=fr;have Nb:Fr No σ dO:=Fr.app.trans fr;rw[I4 i hi,I4 j hj];refine OQ (slot _ i hi fr) (Nb.keep _ _ id hn) (Gj (slot _ i hi fr) (slot _ j hj fr) (Nb.keep _ _ id hn) (Nb.keep _ _ id hc) (gm i hi) (gm j hj) λl'=> ?_);refine cL (hg i j dO l' hi hj Nb) (λv s h=> ?_) λ_ _ e=>e;obtain⟨h1,h2,z,rfl,h3⟩:=h;exact⟨h1,z,rfl,_,rfl,h3,rfl,fr.trans h2⟩
 ·obtain⟨l1,dO⟩:=s;obtain⟨rfl,fr⟩:=hI;exact q p dO O (Fr.app.trans fr)
end
end
section
theorem zO{P:List AV->AS->Prop} {assign:AV->PM Unit} {body orelse:PM dk} {Q:dk->AS->Prop} {E:Exc->AS->Prop} {it ls:Nat} {ys:List AV}:∀(fuel:Nat) (rest:List AV) (i:Nat) (l:Loc) (σ:Hp),σ[it]? =some (.eZ ls i)->σ[ls]? =some (.list ys)->ys.drop i=rest->P rest ⟨l,σ⟩->rest.length<fuel->
  (∀v rest i l σ,P (v::rest) ⟨l,σ⟩->σ[it]? =some (.eZ ls i)->σ[ls]? =some (.list ys)->bK (assign v) (λ_ s1=>bK body (CD (λs2=>P rest s2/\s2.hp[it]? =some (.eZ ls (i+1))/\s2.hp[ls]? =some (.list ys)) Q) E s1) E ⟨l,σ.set it (.eZ ls (i+1))⟩)->
  (∀l σ,P [] ⟨l,σ⟩->it<σ.length->(∃i,σ[it]? =some (.eZ ls i))->bK orelse Q E ⟨l,σ.set it .lN⟩)->bK (forLoop fuel assign body orelse (.obj it)) Q E ⟨l,σ⟩
 |0,_,_,_,_,_,_,_,_,h,_,_=>absurd h (fB _)
 |f+1,[],i,l,σ,h1,h2,h3,hp,_,_,fin=>by
  unfold forLoop;show bK (PM.bind (PM.bind (PM.obj it) _) _) Q E ⟨l,σ⟩;refine wb (wb (jf h1 ?_));refine wb (jf h2 ?_);dsimp only;rw[drop_nil h3];refine wb (xI (aN h1) ?_);exact fin l σ hp (aN h1) ⟨i,h1⟩
 |f+1,v::rest,i,l,σ,h1,h2,h3,hp,hf,step,fin=>by
  obtain⟨e1,e2⟩:=drop_cons h3;unfold forLoop;show bK (PM.bind (PM.bind (PM.obj it) _) _) Q E ⟨l,σ⟩;refine wb (wb (jf h1 ?_));refine wb (jf h2 ?_);dsimp only;rw[e1];refine wb (xI (aN h1) ?_);show bK (PM.bind (assign v) _) Q E _;refine wb (cL (step v rest i l σ hp h1 h2) (λ_ s1 h=> ?_) λ_ _ e=>e);refine wb (cL h (λfl s2 h=> ?_) λ_ _ e=>e);cases fl with
  |next=>exact zO f rest (i+1) s2.loc s2.hp h.2.1 h.2.2 e2 h.1 (du hf) step fin
  |cont=>exact zO f rest (i+1) s2.loc s2.hp h.2.1 h.2.2 e2 h.1 (du hf) step fin
  |brk=>exact h
  |ret x=>exact h
theorem Jb{h:Hp} (h1:h[n]? =some (.list ys)):isA P h (.ref n) (.base P.missing)=some false:=by
 unfold isA;dsimp only;rw[aD rfl,h1]
def Y6 (σ bj:Hp):Prop:=∀(i:Nat) (o:bP),σ[i]? =some o->(∀a b,o≠bP.eZ a b)->bj[i]? =some o
seal PM.bind PM.pure PM.obj PM.cm PM.alloc PM.ey PM.gd PM.within PM.sure PM.attempt PM.hp PM.b8 PM.stuck PM.raise forLoop whileLoop compLoop dj dC sortBy gj bK cX eY cg bM mm
section
variable {sa:Addr} {xs:List Int} {k:Nat} {l:Loc} {σ:Hp} {E:Exc->AS->Prop} {Q:AV->AS->Prop} {n:Nat}
theorem Dg{f:AV} {v0:Nat} {R:List AV->AV->Hp->Prop} (hn:σ[n]? =some (.list vs)) (hv:∃ys,σ[v0]? =some (.list ys)) (hl:vs.length<900)
  (LU:∀d v dO cI,Y6 dO cI->R d v dO->R d v cI) (h0:R [] (.ref v0) σ)
  (step:∀d x r v dO l1,vs=d++x::r->Fr No σ dO->R d v dO->bK ((gj (PP sa xs) 1000 (k+1)).call f [v,x]) (λv' s=>s.loc=l1/\Fr No dO s.hp/\R (d++[x]) v' s.hp) (λ_ _=>False) ⟨l1,dO⟩)
  (q:∀v bj,Fr No σ bj->R vs v bj->Q v ⟨l,bj⟩):bK ((gj (PP sa xs) 1000 (k+2)).call (.base Q8) [f,.ref n,.ref v0]) Q E ⟨l,σ⟩:=by
 obtain⟨ys,hv⟩:=hv;refine w_call rfl (show Q8≠mV by decide) (iI ?_);have hm:=Jb (P:=PP sa xs) (bh (τ:=[.eZ n 0]) hv);f_are
 have h1:(σ++[.eZ n 0])[σ.length]? =some (.eZ n 0):=eM;have h0':R [] (.ref v0) (σ++[.eZ n 0]):=LU _ _ _ _ (λi o e _=>bh e) h0;refine zO (ls:=n) (ys:=vs) (P:=fun(rest:List AV) (st:AS)=>∃(bj:Hp) (lc:Loc) (d:List AV) (v:AV),st=AS.mk lc bj/\er lc "function" f/\er lc "it" (.ref σ.length)/\er lc "value" v/\vs=d++rest/\R d v bj/\Fr No σ bj) 1000 vs 0 _ _ h1 (bh hn) rfl ?_ (by omega) ?_ ?_
 ·exact⟨_,_,[],.ref v0,rfl,rfl,rfl,rfl,rfl,h0',.app⟩
 ·rintro x rest i l1 dO ⟨cI,lc,d,v,e1,hl1,hl2,rI,e2,hR,fr⟩ hit UI;cases e1;have hlit:=aN hit;have GO:σ.length<=σ.length:=aJ _;have p7:Fr No σ (dO.set σ.length (.eZ n (i+1))):=⟨by rw[aV];exact fr.len,λj o h e=>aM (by have:=aN e;omega) (fr.keep j o h e)⟩;have hR2:R d v (dO.set σ.length (.eZ n (i+1))):=LU _ _ _ _ (λj o e h=>aM (λq=>by subst q;rw[hit]at e;cases e;exact h _ _ rfl) e) hR;f_are
  refine cL (step d x rest v _ _ e2 p7 hR2) (λv' s h=> ?_) λ_ _ e=>e.elim;obtain⟨l3,ie⟩:=s;obtain⟨h1,nZ,hR3⟩:=h;have h1:l3=_:=h1;subst h1;have nZ:Fr No (dO.set σ.length (.eZ n (i+1))) ie:=nZ;f_are
  refine⟨⟨_,_,d++[x],v',rfl,by f_list,by f_list,by f_list,by rw[e2];simp,hR3,p7.trans nZ⟩,nZ.keep _ _ id (get_set hlit),nZ.keep _ _ id (aM (by have:=aN hn;omega) UI)⟩
 ·rintro l1 dO ⟨cI,lc,d,v,e1,hl1,hl2,rI,e2,hR,fr⟩ f_tup ⟨i,hit⟩;cases e1;rw[aX]at e2;subst e2;f_are
  exact q v _ ⟨by show σ.length<=(dO.set σ.length .lN).length;rw[aV];exact fr.len,λj o h e=>aM (by have:=aN e;omega) (fr.keep j o h e)⟩ (LU _ _ _ _ (λj o e h=>aM (λq=>by subst q;rw[hit]at e;cases e;exact h _ _ rfl) e) hR)
end
end
theorem dM(h:τ[j]? =some o):(σ++τ)[σ.length+j]? =some o:=by
 rw[aY (by omega),cB];exact h
theorem dK(h:τ[0]? =some o):(σ++τ)[σ.length]? =some o:=dM (j:=0) h
inductive A2 {α:Type} (R:AV->α->Prop):List AV->List α->Prop
 |nil:A2 R [] []
 |cons {v:AV} {d:α} {vs:List AV} {ds:List α}:R v d->A2 R vs ds->A2 R (v::vs) (d::ds)
section
variable {α:Type} {R S:AV->α->Prop}
theorem A2.length {vs:List AV} {ds:List α} (h:A2 R vs ds):vs.length=ds.length:=by
 induction h with
 |nil=>rfl
 |cons _ _ ih=>rw[aq,aq,ih]
theorem A2.imp {ds:List α} (h:A2 R vs ds) (q:∀v d,d∈ds->R v d->S v d):A2 S vs ds:=by
 induction h with
 |nil=>exact .nil
 |cons a _ ih=>exact .cons (q _ _ (aj ..) a) (ih λv d hd=>q v d (ah _ hd))
theorem A2.append {ws:List AV} {ds es:List α} (h:A2 R vs ds) (h':A2 R ws es):A2 R (vs++ws) (ds++es):=by
 induction h with
 |nil=>exact h'
 |cons a _ ih=>exact .cons a ih
theorem A2.snoc {ds:List α} {d:α} (h:A2 R vs ds) (h':R v d):A2 R (vs++[v]) (ds++[d]):=h.append (.cons h' .nil)
theorem A2.get {ds:List α} {v0:AV} {d0:α} (h:A2 R vs ds):∀i,i<ds.length->R (vs.getD i v0) (ds.getD i d0):=by
 induction h with
 |nil=>intro i hi;cases hi
 |cons a _ ih=>
  intro i hi;cases i with
  |zero=>exact a
  |succ i=>exact ih i (du hi)
theorem A2.map {vs:List AV} {ds:List α} {v0:AV} {d0:α} (h:A2 R vs ds) {p:List Nat} (hp:∀i∈p,i<ds.length):A2 R (p.map λi=>vs.getD i v0) (p.map λi=>ds.getD i d0):=by
 induction p with
 |nil=>exact .nil
 |cons i p ih=>exact .cons (h.get i (hp i (aj ..))) (ih λj hj=>hp j (ah _ hj))
theorem A2.mem {ds:List α} (h:A2 R vs ds) (hv:v∈vs):∃d∈ds,R v d:=by
 induction h with
 |nil=>cases hv
 |cons a _ ih=>
  rcases aK.mp hv with rfl|hv
  ·exact⟨_,aj ..,a⟩
  ·obtain⟨d,hd,hr⟩:=ih hv;exact⟨d,ah _ hd,hr⟩
theorem A2.drop {vs:List AV} {ds:List α} (h:A2 R vs ds):∀n,A2 R (vs.drop n) (ds.drop n):=by
 induction h with
 |nil=>intro n;simp;exact .nil
 |cons a h' ih=>
  intro n;cases n with
  |zero=>exact .cons a h'
  |succ n=>exact ih n
theorem A2.set {vs:List AV} {ds:List α} (h:A2 R vs ds) {v:AV} {d:α} (hv:R v d):∀i,A2 R (vs.set i v) (ds.set i d):=by
 induction h with
 |nil=>intro n;exact .nil
 |cons a h' ih=>
  intro n;cases n with
  |zero=>exact .cons hv h'
  |succ n=>exact .cons a (ih n)
end
abbrev Rep (α:Type):=(Nat->Prop)->Hp->AV->α->Prop
structure Dat {α:Type} (R:Rep α):Prop where
 keep:∀{M σ bj v d},R M σ v d->Fr M σ bj->R M bj v d
 away:∀{M M' σ v d},R M σ v d->(∀i<σ.length,M' i->M i)->R M' σ v d
 Ea:∀{M σ bj v d},R M σ v d->Y6 σ bj->R M bj v d
def isInt:Rep Int:=λ_ _ v i=>v= .int i
def ic {α:Type} (R:Rep α):Rep (List α):=λM σ v ds=>∃n vs,v= .ref n/\¬M n/\σ[n]? =some (.list vs)/\A2 (R M σ) vs ds
def Mw {α:Type} (R:Rep α):Rep (List α):=λM σ v ds=>∃n vs,v= .ref n/\¬M n/\σ[n]? =some (.tuple vs)/\A2 (R M σ) vs ds
def TS {α β:Type} (R:Rep α) (S:Rep β):Rep (α×β):=λM σ v d=>∃n a b,v= .ref n/\¬M n/\σ[n]? =some (.list [a,b])/\R M σ a d.1/\S M σ b d.2
def tL {α β:Type} (R:Rep α) (S:Rep β):Rep (α×β):=λM σ v d=>∃n a b,v= .ref n/\¬M n/\σ[n]? =some (.tuple [a,b])/\R M σ a d.1/\S M σ b d.2
theorem eW:Dat isInt:=⟨λh _=>h,λh _=>h,λh _=>h⟩
section
variable {α β:Type} {R:Rep α} {S:Rep β}
theorem dL(h:Dat R):Dat (ic R):=⟨λ⟨n,vs,a,b,c,d⟩ f=>⟨n,vs,a,b,f.keep _ _ b c,d.imp λ_ _ _ x=>h.keep x f⟩,λ⟨n,vs,a,b,c,d⟩ f=>⟨n,vs,a,λq=>b (f n (aN c) q),c,d.imp λ_ _ _ x=>h.away x f⟩,λ⟨n,vs,a,b,c,d⟩ f=>⟨n,vs,a,b,f _ _ c (λ_ _ q=>by cases q),d.imp λ_ _ _ x=>h.Ea x f⟩⟩
theorem dT(h:Dat R):Dat (Mw R):=⟨λ⟨n,vs,a,b,c,d⟩ f=>⟨n,vs,a,b,f.keep _ _ b c,d.imp λ_ _ _ x=>h.keep x f⟩,λ⟨n,vs,a,b,c,d⟩ f=>⟨n,vs,a,λq=>b (f n (aN c) q),c,d.imp λ_ _ _ x=>h.away x f⟩,λ⟨n,vs,a,b,c,d⟩ f=>⟨n,vs,a,b,f _ _ c (λ_ _ q=>by cases q),d.imp λ_ _ _ x=>h.Ea x f⟩⟩
theorem dP(h:Dat R) (h':Dat S):Dat (TS R S):=⟨λ⟨n,x,y,a,b,c,d,e⟩ f=>⟨n,x,y,a,b,f.keep _ _ b c,h.keep d f,h'.keep e f⟩,λ⟨n,x,y,a,b,c,d,e⟩ f=>⟨n,x,y,a,λq=>b (f n (aN c) q),c,h.away d f,h'.away e f⟩,λ⟨n,x,y,a,b,c,d,e⟩ f=>⟨n,x,y,a,b,f _ _ c (λ_ _ q=>by cases q),h.Ea d f,h'.Ea e f⟩⟩
theorem EP(h:Dat R) (h':Dat S):Dat (tL R S):=⟨λ⟨n,x,y,a,b,c,d,e⟩ f=>⟨n,x,y,a,b,f.keep _ _ b c,h.keep d f,h'.keep e f⟩,λ⟨n,x,y,a,b,c,d,e⟩ f=>⟨n,x,y,a,λq=>b (f n (aN c) q),c,h.away d f,h'.away e f⟩,λ⟨n,x,y,a,b,c,d,e⟩ f=>⟨n,x,y,a,b,f _ _ c (λ_ _ q=>by cases q),h.Ea d f,h'.Ea e f⟩⟩
theorem Dat.all (h:Dat R) {ds:List α} (x:A2 (R M σ) vs ds) (f:Fr M σ bj):A2 (R M bj) vs ds:=x.imp λ_ _ _ r=>h.keep r f
theorem Dat.iN (h:Dat R) {M':Nat->Prop} {ds:List α} (x:A2 (R M σ) vs ds) (f:∀i<σ.length,M' i->M i):A2 (R M' σ) vs ds:=x.imp λ_ _ _ r=>h.away r f
end
theorem j7{is:List Int}:A2 (isInt M σ) vs is↔vs=is.map .int:=by
 constructor
 ·intro h;induction h with
  |nil=>rfl
  |cons a _ ih=>rw[aS,ih];rw[show _=_ from a]
 ·rintro rfl;induction is with
  |nil=>exact .nil
  |cons i is ih=>exact .cons rfl ih
theorem fJ(N:Nat->Prop) {Bh:Rep α} {n8:Rep β} (KS:Dat Bh) (Ef:Dat n8) {acc:Nat} {fb:α->Option β} {assign:AV->PM Unit} {ifs:PM Bool} {body:PM Unit} {Q:Unit->AS->Prop} {E:Exc->AS->Prop} {l:Loc}
  (hi:Es σ it vs) (AH:∀bj,Fr (· =acc) σ bj->fq σ bj it) (wY:A2 (Bh (λi=>i=acc\/N i) σ) vs ds) (ha:σ[acc]? =some (.list [])) (hl:vs.length<fuel) (hl2:vs.length<9000)
  (step:∀v d dO l1 ws,d∈ds->v∈vs->Bh (λi=>i=acc\/N i) dO v d->Fr (· =acc) σ dO->dO[acc]? =some (.list ws)->ws.length<10000->
   bK (assign v) (λ_ s1=>bK ifs (λb s2=>bK (if b=true then body else PM.pure ()) (λ_ s3=>Fr (· =acc) dO s3.hp/\match fb d with
    |some e=>∃w,n8 (λi=>i=acc\/N i) s3.hp w e/\s3.hp[acc]? =some (.list (ws++[w]))
    |none=>s3.hp[acc]? =some (.list ws)) E s2) E s1) E ⟨l1,dO⟩)
  (q:∀bj l' ws,Fr (· =acc) σ bj->bj[acc]? =some (.list ws)->A2 (n8 (λi=>i=acc\/N i) bj) ws (ds.filterMap fb)->Q () ⟨l',bj⟩):bK (compLoop fuel assign ifs body it) Q E ⟨l,σ⟩:=by
 refine qw (P:=λrest st=>∃(d1 d2:List α) (ws:List AV),ds=d1++d2/\A2 (Bh (λi=>i=acc\/N i) st.hp) rest d2/\(∀v∈rest,v∈vs)/\Fr (· =acc) σ st.hp/\st.hp[acc]? =some (.list ws)/\ws.length<=d1.length/\A2 (n8 (λi=>i=acc\/N i) st.hp) ws (d1.filterMap fb)) fuel vs it l σ hi ⟨[],ds,[],rfl,wY,λ_ h=>h,.refl,ha,aJ _,.nil⟩ hl ?_ ?_
 ·rintro v rest l1 dO ⟨d1,d2,ws,rfl,h1,hv,h2,h3,h4,h5⟩;cases h1 with
  |cons hd h1=>
   rename_i d d2;have hlen:=wY.length;refine cL (step v d dO l1 ws (by simp) (hv v (aj ..)) hd h2 h3 (by simp at hlen;omega)) (λ_ s1 h=> ?_) λ_ _ e=>e;refine cL h (λb s2 h=> ?_) λ_ _ e=>e;refine cL h (λ_ s3 h=> ?_) λ_ _ e=>e;obtain⟨h6,h7⟩:=h;have h6:Fr (· =acc) dO s3.hp:=h6;refine⟨?_, ?_⟩
   ·cases e:fb d with
    |none=>
     rw[e]at h7;exact⟨d1++[d],d2,ws,by simp,KS.all h1 (h6.mono λ_ _ h=> .inl h),λv h=>hv v (ah _ h),h2.trans h6,h7,by simp;omega,by rw[r4];simp [e];exact Ef.all h5 (h6.mono λ_ _ h=> .inl h)⟩
    |some x=>
     rw[e]at h7;obtain⟨w,hw,h7⟩:=h7;refine⟨d1++[d],d2,ws++[w],by simp,KS.all h1 (h6.mono λ_ _ h=> .inl h),λv h=>hv v (ah _ h),h2.trans h6,h7,by simp;omega, ?_⟩;rw[r4];simp only [de,e,List.filterMap_nil];exact(Ef.all h5 (h6.mono λ_ _ h=> .inl h)).snoc hw
   ·have k1:=AH _ h2;have k2:=AH _ (h2.trans h6);cases it with
    |list n i=>intro o ho;obtain⟨xs,hx,_⟩:=hi;have:=k1 _ hx;rw[ho]at this;cases this;exact k2 _ hx
    |tup n i=>intro o ho;obtain⟨xs,hx,_⟩:=hi;have:=k1 _ hx;rw[ho]at this;cases this;exact k2 _ hx
    |jz n i a b=>intro o ho;obtain⟨xs,hx,_⟩:=hi;have:=k1 _ hx;rw[ho]at this;cases this;exact k2 _ hx
    |gy n i a b=>intro o ho;obtain⟨xs,hx,_⟩:=hi;have:=k1 _ hx;rw[ho]at this;cases this;exact k2 _ hx
    |mH a b=>trivial
    |obj n=>trivial
 ·rintro⟨l1,dO⟩ ⟨d1,d2,ws,e,h1,_,h2,h3,_,h5⟩;cases h1;rw[aX]at e;subst e;exact q dO l1 ws h2 h3 h5
theorem qQ{Bh:Rep α} {n8:Rep β} (KS:Dat Bh) (Ef:Dat n8) {acc:Nat} {fb:α->Option β} {assign:AV->PM Unit} {ifs:PM Bool} {body:PM Unit} {Q:Unit->AS->Prop} {E:Exc->AS->Prop} {l:Loc}
  (hi:Es σ it vs) (AH:∀bj,Fr (· =acc) σ bj->fq σ bj it) (wY:A2 (Bh (· =acc) σ) vs ds) (ha:σ[acc]? =some (.list [])) (hl:vs.length<fuel) (hl2:vs.length<9000)
  (step:∀v d dO l1 ws,d∈ds->v∈vs->Bh (· =acc) dO v d->Fr (· =acc) σ dO->dO[acc]? =some (.list ws)->ws.length<10000->
   bK (assign v) (λ_ s1=>bK ifs (λb s2=>bK (if b=true then body else PM.pure ()) (λ_ s3=>Fr (· =acc) dO s3.hp/\match fb d with
    |some e=>∃w,n8 (· =acc) s3.hp w e/\s3.hp[acc]? =some (.list (ws++[w]))
    |none=>s3.hp[acc]? =some (.list ws)) E s2) E s1) E ⟨l1,dO⟩)
  (q:∀bj l' ws,Fr (· =acc) σ bj->bj[acc]? =some (.list ws)->A2 (n8 (· =acc) bj) ws (ds.filterMap fb)->Q () ⟨l',bj⟩):bK (compLoop fuel assign ifs body it) Q E ⟨l,σ⟩:=by
 refine fJ No KS Ef hi AH (KS.iN wY λ_ _ h=>h.elim id False.elim) ha hl hl2 (λv d dO l1 ws h1 h2 h3 h4 h5 h6=> ?_) λbj l' ws h1 h2 h3=>q bj l' ws h1 h2 (Ef.iN h3 λ_ _ h=> .inl h);refine cL (step v d dO l1 ws h1 h2 (KS.away h3 λ_ _ h=> .inl h) h4 h5 h6) (λ_ s1 h=> ?_) λ_ _ e=>e;refine cL h (λb s2 h=> ?_) λ_ _ e=>e;refine cL h (λ_ s3 h=> ?_) λ_ _ e=>e;obtain⟨h7,h8⟩:=h;refine⟨h7, ?_⟩;cases e:fb d with
 |none=>rw[e]at h8;exact h8
 |some x=>
  rw[e]at h8;obtain⟨w,hw,h8⟩:=h8;exact⟨w,Ef.away hw λ_ _ h=>h.elim id False.elim,h8⟩
section
seal PM.bind PM.pure PM.obj PM.cm PM.alloc PM.ey PM.gd PM.within PM.sure PM.attempt PM.hp PM.b8 PM.stuck PM.raise forLoop whileLoop compLoop dj dC sortBy gj bK cX eY cg bM mm
section
variable (T:Nat->Int×Int)
def eV:Rep Nat:=λM σ v r=>∃n,v= .ref n/\¬M n/\σ[n]? =some (.list [.int (T r).1,.int (T r).2])
abbrev lO:Rep (Int×Nat):=TS isInt (eV T)
abbrev mr:Rep ((Int×Nat)×List (Int×Nat)):=TS (lO T) (ic (lO T))
theorem gv:Dat (eV T):=⟨λ⟨n,a,b,c⟩ f=>⟨n,a,b,f.keep _ _ b c⟩,λ⟨n,a,b,c⟩ f=>⟨n,a,λq=>b (f n (aN c) q),c⟩,λ⟨n,a,b,c⟩ f=>⟨n,a,b,f _ _ c (λ_ _ q=>by cases q)⟩⟩
theorem lE:Dat (lO T):=dP eW (gv T)
theorem iA:Dat (mr T):=dP (lE T) (dL (lE T))
end
section
variable {T:Nat->Int×Int} {sa:Addr} {xs:List Int} {k:Nat} {l:Loc} {σ:Hp} {E:Exc->AS->Prop} {Q:AV->AS->Prop} {n:Nat}
abbrev CC:Addr:=188
abbrev KU:Addr:=176
theorem y6(hN:∀i,N i->i<σ.length) {s p:AV} {st:(Int×Nat)×List (Int×Nat)} {pt:Int×Nat} (hs:mr T N σ s st) (hp:lO T N σ p pt) (hl:st.2.length<1000)
  (q:∀v bj,Fr No σ bj->mr T N bj v (pt,st.2++[(pt.1,st.1.2)])->Q v ⟨l,bj⟩):
  bK ((gj (PP sa xs) 1000 (k+1)).call (.base CC) [s,p]) Q E ⟨l,σ⟩:=by
 obtain⟨n1,a1,b1,rfl,_,h1,⟨n2,a2,b2,rfl,_,h2,h3,h4⟩,⟨n5,vs,rfl,_,h5,h6⟩⟩:=hs;have hp0:=hp;obtain⟨n3,a3,b3,rfl,_,h7,h8,h9⟩:=hp;have h8:a3= .int pt.1:=h8;subst h8;have hlen:vs.length+[AV.ref (σ.length+2)].length<10000:=by rw[h6.length];simp;omega
 have vP:=h6.length;refine w_call rfl (show CC≠mV by decide) (iI ?_);f_are
 have fr:∀τ,Fr N σ (σ++τ):=λτ=> .app;have nw:∀j,¬N (σ.length+j):=λj h=>by have:=hN _ h;omega
 refine q _ _ .app ⟨_,_,_,rfl,nw 3,dM (j:=3) rfl,(lE T).keep hp0 (fr _),_,_,rfl,nw 2,dM (j:=2) rfl,((lE T).all h6 (fr _)).snoc ⟨_,_,_,rfl,nw 0,dK rfl,rfl,(gv T).keep h4 (fr _)⟩⟩
end
end
section
variable {I:cA}
def iu (I:cA):Nat:=(I.map λp=>p.2.2.length).sum
theorem xc:jg [] I=iu I:=by
 show(I.map λp=>if([]:List Int).contains p.1=true then 0 else p.2.2.length).sum=_
 simp only [Zj,bU,gH];rfl
theorem Ee{A B:cA}:iu (A++B)=iu A+iu B:=by unfold iu;rw[bq,List.sum_append]
theorem ip(k:Int) (I:cA):(cO k I=I/\(I.lookup k).isSome=true)\/(cO k I=I++[(k,0,[])]/\I.lookup k=none):=by
 cases e:I.lookup k with
 |some v=>exact .inl ⟨oX e,rfl⟩
 |none=>exact .inr ⟨oW e,rfl⟩
theorem xd:iu (cO k I)=iu I:=by
 rcases ip k I with⟨e,_⟩|⟨e,_⟩
 ·rw[e]
 ·rw[e,Ee];rfl
theorem rC(nd:(I.map (·.1)).Nodup):((cO k I).map (·.1)).Nodup:=by
 rcases ip k I with⟨e,_⟩|⟨e,h⟩
 ·rw[e];exact nd
 ·rw[e,bq,bT];refine⟨nd,by simp,λx hx y hy=> ?_⟩;obtain⟨p,hp,rfl⟩:=aR.mp hx;simp only [aS,qX,aA]at hy;subst hy;exact lu h p hp
theorem Hd{f:Int->Int}:iu (cP k (λq=>(f q.1,q.2)) I)=iu I:=by
 unfold iu cP;rw[eD];congr 1;refine dc λp _=> ?_;show(if p.1=k then(p.1,f p.2.1,p.2.2)else p).2.2.length=_
 split<;>rfl
theorem xK{k:Int} {f:Int×List Int->Int×List Int}:∀{I:cA},(∀p∈I,p.1≠k)->cP k f I=I
 |[],_=>rfl
 |p::I,h=>by
  have:=xK (f:=f) (I:=I) λq hq=>h q (ah _ hq);unfold cP at this ⊢;rw[aS,this,aC (h p (aj ..))]
theorem y4{k x:Int}:∀{I:cA},(I.map (·.1)).Nodup->iu (cP k (λq=>(q.1,q.2++[x])) I)<=iu I+1
 |[],_=>by show 0<=_;omega
 |p::I,nd=>by
  rw[aS,bA]at nd;have e1:iu (p::I)=p.2.2.length+iu I:=by unfold iu;rw[aS,c8]
  by_cases h:p.1=k
  ·have e2:cP k (λq=>(q.1,q.2++[x])) (p::I)=(p.1,p.2.1,p.2.2++[x])::I:=by
    have:=xK (k:=k) (f:=λq=>(q.1,q.2++[x])) (I:=I) λq hq e=>nd.1 (aR.mpr ⟨q,hq,by rw[e,h]⟩);rw[show cP k (λq=>(q.1,q.2++[x])) (p::I)=(if p.1=k then(p.1,p.2.1,p.2.2++[x])else p)::cP k (λq=>(q.1,q.2++[x])) I from rfl,aD h,this]
   rw[e2,e1];have e3:iu ((p.1,p.2.1,p.2.2++[x])::I)=(p.2.2++[x]).length+iu I:=by unfold iu;rw[aS,c8]
   rw[e3,af];simp only [aq,bO];omega
  ·have e2:cP k (λq=>(q.1,q.2++[x])) (p::I)=p::cP k (λq=>(q.1,q.2++[x])) I:=by
    rw[show cP k (λq=>(q.1,q.2++[x])) (p::I)=(if p.1=k then(p.1,p.2.1,p.2.2++[x])else p)::cP k (λq=>(q.1,q.2++[x])) I from rfl,aC h]
   have e3:iu (p::cP k (λq=>(q.1,q.2++[x])) I)=p.2.2.length+iu (cP k (λq=>(q.1,q.2++[x])) I):=by unfold iu;rw[aS,c8]
   rw[e2,e3,e1];have:=y4 (k:=k) (x:=x) nd.2;omega
structure Up (n e:Nat) (I:cA):Prop where
 nd:(I.map (·.1)).Nodup
 sm:Small n I
 ed:iu I<=e
 up:∀p∈I,∀v∈p.2.2,(I.lookup v).isSome=true/\p.1<v
theorem lz(h:(I.lookup x).isSome=true):((cO k I).lookup x).isSome=true:=by
 rcases ip k I with⟨e,_⟩|⟨e,_⟩
 ·rw[e];exact h
 ·rw[e];obtain⟨v,hv⟩:=cJ.mp h;exact isSome_of_mem (p:=(x,v)) (aI _ (mem_of_lookup hv))
theorem oR:((cO k I).lookup k).isSome=true:=by
 rcases ip k I with⟨e,h⟩|⟨e,h⟩
 ·rw[e];exact h
 ·rw[e,nj h];rfl
theorem Up.lD {n e:Nat} {k:Int} (U:Up n e I):Up (n+1) e (cO k I):=by
 refine⟨rC U.nd,U.sm.lD,by rw[xd];exact U.ed,λp hp v hv=> ?_⟩;rcases ip k I with⟨e1,_⟩|⟨e1,_⟩
 ·rw[e1]at hp ⊢;exact U.up p hp v hv
 ·rw[e1]at hp;rcases au.mp hp with h|h
  ·obtain⟨a,b⟩:=U.up p h v hv;exact⟨lz a,b⟩
  ·rw[aA.mp h]at hv;cases hv
theorem Up.np {e:Nat} {f:Int->Int} (U:Up n e I):Up n e (cP k (λq=>(f q.1,q.2)) I):=by
 refine⟨by rw[kg];exact U.nd,U.sm.vd,by rw[Hd];exact U.ed,λp hp v hv=> ?_⟩;obtain⟨q,hq,e1,h⟩:=dH hp;rw[fh];rcases h with⟨_,e3⟩|⟨_,rfl⟩
 ·rw[e3]at hv;rw[<-e1];exact U.up q hq v hv
 ·exact U.up _ hq v hv
theorem Up.pred {n e:Nat} {k x:Int} (U:Up n e I) (hk:(I.lookup k).isSome=true) (hx:x<k):Up (n+2) (e+1) (fZ k I x):=by
 have U':=U.lD (k:=x);refine⟨by unfold fZ;rw[kg];exact U'.nd,U.sm.pred,cy (y4 U'.nd) (lG U'.ed),λp hp v hv=> ?_⟩;obtain⟨q,hq,e1,h⟩:=dH hp;unfold fZ;rw[fh];rcases h with⟨e2,e3⟩|⟨_,rfl⟩
 ·rw[e3]at hv;rcases au.mp hv with hv|hv
  ·rw[<-e1];exact U'.up q hq v hv
  ·rw[aA.mp hv,e2];exact⟨lz hk,hx⟩
 ·exact U'.up _ hq v hv
theorem Up.yn {k:Int}:∀{ps:List Int} {n e:Nat} {I:cA},Up n e I->(I.lookup k).isSome=true->(∀x∈ps,x<k)->Up (n+2*ps.length) (e+ps.length) (ps.foldl (fZ k) I)
 |[],_,_,_,U,_,_=>U
 |x::ps,n,e,I,U,hk,hx=>by
  have:=Up.yn (ps:=ps) (U.pred hk (hx x (aj ..))) (by unfold fZ;rw[fh];exact lz hk) λy hy=>hx y (ah _ hy);rw[aq,show n+2*(ps.length+1)=n+2+2*ps.length by omega,show e+(ps.length+1)=e+1+ps.length by omega];exact this
theorem Up.add {e:Nat} {ps:List Int} (U:Up n e I) (hx:∀x∈ps,x<k):Up (n+1+2*ps.length) (e+ps.length) (xo k ps I):=
 Up.yn (U.lD.np (f:=λz=>z+ps.length)) (by rw[fh];exact oR) hx
end
def kB (bH:List (Int×Nat)) (t:Int) (r:Nat):List Int:=bH.filterMap λq=>if q.1<t/\q.2<r then some q.1 else none
def fK (all bH:List (Int×Nat)):cA:=bH.foldl (λI q=>xo q.1 (kB all q.1 q.2) I) []
theorem FT{bH:List (Int×Nat)} {t:Int}:∀x∈kB bH t r,x<t:=λx hx=>by
 obtain⟨q,_,h⟩:=d4.mp hx;split at h
 ·rename_i h2;cases h;exact h2.1
 ·cases h
theorem vB{bH:List (Int×Nat)} {t:Int}:(kB bH t r).length<=bH.length:=JY ..
theorem ui{all:List (Int×Nat)}:∀{bH:List (Int×Nat)} {n e:Nat} {I:cA},Up n e I->Up (n+(1+2*all.length)*bH.length) (e+all.length*bH.length) (bH.foldl (λI q=>xo q.1 (kB all q.1 q.2) I) I)
 |[],_,_,_,U=>U
 |q::bH,n,e,I,U=>by
  have h:=U.add (k:=q.1) (ps:=kB all q.1 q.2) FT;have hl:=vB (bH:=all) (t:=q.1) (r:=q.2);have h':Up (n+(1+2*all.length)) (e+all.length) (xo q.1 (kB all q.1 q.2) I):=⟨h.nd,h.sm.mono (by omega),cy h.ed (by omega),h.up⟩;have:=ui (all:=all) (bH:=bH) h';rw[aq,ND,ND,show n+((1+2*all.length)*bH.length+(1+2*all.length))=n+(1+2*all.length)+(1+2*all.length)*bH.length by omega,show e+(all.length*bH.length+all.length)=e+all.length+all.length*bH.length by omega];exact this
section
seal PM.bind PM.pure PM.obj PM.cm PM.alloc PM.ey PM.gd PM.within PM.sure PM.attempt PM.hp PM.b8 PM.stuck PM.raise forLoop whileLoop compLoop dj dC sortBy gj bK cX eY cg bM mm
abbrev fU:=List (Int×Nat)
inductive oB:fU->u3->List (List Int)->u3->Prop
 |nil {st:u3}:oB [] st [] st
 |idle {p:Int×Nat} {r:fU} {st st':u3} {gs:List (List Int)} (h:st.2=[]) (t:oB r st gs st'):oB (p::r) st gs st'
 |go {p:Int×Nat} {r:fU} {st st':u3} {gs:List (List Int)} (h:st.2≠[]) (hb:st.2.length<90) (hk:∀x∈st.2,(st.1.lookup x).isSome=true) (ok:sU st.2 (outI st.2 st.1,[])) (t:oB r (st.2.foldl di (outI st.2 st.1,[])) gs st'):oB (p::r) st (st.2::gs) st'
section
variable {T:Nat->Int×Int} {sa:Addr} {xs:List Int} {k:Nat} {l:Loc} {σ:Hp} {E:Exc->AS->Prop} {Q:AV->AS->Prop} {n:Nat}
theorem vh(hT:∀r s,r<7->s<7->eQ (T r) (T s)=decide (r<s)) {M':Nat->Prop} {a b:AV} (ha:eV T M σ a r) (hb:eV T M' σ b s) (hr:r<7) (hs:s<7):vH σ a b=some (decide (r<s)):=by
 obtain⟨n,rfl,_,h1⟩:=ha;obtain⟨m,rfl,_,h2⟩:=hb;unfold vH pairAt;dsimp only;rw[h1,h2];dsimp only;rw[<-hT r s hr hs]
theorem qB{m:Nat}:∀{rs:List Int} {I:cA},Small m I->Small m (outI rs I)
 |[],_,h=>h
 |_::rs,_,h=>qB (rs:=rs) (h.vd (f:=λ_=> -1))
theorem uM(h:Small m st.1):Small m (di st x).1:=by
 unfold di;split
 ·exact oL (h.vd (f:=λ_=> -2))
 ·exact h
theorem sF{m:Nat}:∀{ns:List Int} {st:u3},Small m st.1->Small m (ns.foldl di st).1
 |[],_,h=>h
 |_::ns,_,h=>sF (ns:=ns) (uM h)
theorem eq_nil{h:Hp} (ha:h[a]? =some (.tuple [])) (hb:h[b]? =some (.tuple [])):(yZ h (.ref a) (.ref b)).map (!·)=some false:=by
 unfold yZ toD;rw[ha,hb];rfl
def PF:Rep Unit:=λ_ _ v _=>v= .none
theorem dNo:Dat PF:=⟨λh _=>h,λh _=>h,λh _=>h⟩
theorem Bt:decide (((if decide (b<a)=true then(1:Int)else 0)-if decide (a<b)=true then 1 else 0)<0)=decide (a<b):=by
 by_cases h1:a<b
 ·have h2:¬b<a:=by omega
  simp [h1,h2]
 ·by_cases h2:b<a<;>simp [h1,h2]
theorem CP(hT:∀r s,r<7->s<7->eQ (T r) (T s)=decide (r<s)) {gs:List (List Int)} (hv:ic (lO T) No σ v bH) (hl:bH.length<=7) (hr:∀p∈bH,p.2<7)
  (ht:oB bH (fK bH bH,gu (fK bH bH)) gs st) (he:st.2=[]) (q:∀v bj,Fr No σ bj->ic (Mw isInt) No bj v gs->Q v ⟨l,bj⟩):
  bK ((gj (PP sa xs) 1000 (k+5)).call (.base KU) [v]) Q E ⟨l,σ⟩:=by
 have RU:=hv;obtain⟨n,vs,rfl,_,h1,h2⟩:=hv;refine w_call rfl (show KU≠mV by decide) (iI ?_);f_are
 have hC:∀τ,(σ++[bP.cell none,bP.cell none]++τ)[σ.length]? =some (.cell none)/\(σ++[bP.cell none,bP.cell none]++τ)[σ.length+1]? =some (.cell none):=λτ=>⟨bh (dK rfl),bh (dM (j:=1) rfl)⟩;refine DJ (F:=λi=>σ.length+2<=i) (λi h=>by simp at h;omega) λdO H1 M9=> ?_;have Qf:=M9.len;have c0:=M9.keep σ.length _ (by omega) (dK rfl);have c1:=M9.keep (σ.length+1) _ (by omega) (dM (j:=1) rfl);have Nb:Fr No σ dO:=⟨by simp at Qf;omega,λi o _ e=>M9.keep i o (by have:=aN e;omega) (bh e)⟩;have hn1:=Nb.keep _ _ id h1;have Jd:=h2.length;have hL:(σ++[bP.cell none,bP.cell none]).length=σ.length+2:=by simp
 rw[hL]at H1 ⊢;have hA:σ.length+3<dO.length:=by
  obtain⟨ep,sl,su,H1⟩:=H1;exact aN H1.inst
 f_are
 refine km (P:=fun(rest:List AV) (s:AS)=>∃(bj:Hp) (lc:Loc) (d1 d2:fU) (x0 x1:Option AV),s=AS.mk lc bj/\er lc "points" (.ref n)/\er lc "sorter" (.ref (σ.length+2+1))/\er lc "answers" (.ref dO.length)/\bH=d1++d2/\A2 (lO T No σ) rest d2/\
   bj[σ.length]? =some (.cell x0)/\bj[σ.length+1]? =some (.cell x1)/\bj[dO.length]? =some (.list [])/\Fr No σ bj/\SG (λi=>σ.length+2<=i/\i≠dO.length) (σ.length+2+1) (σ.length+2) (σ.length+2+2) .none 0 0 (fK bH d1) bj) 1000 vs _ _ _ ⟨vs,bh hn1,rfl⟩ ?_ (by omega) ?_ ?_
 ·refine⟨_,_,[],bH,none,none,rfl,rfl,rfl,rfl,rfl,h2,bh c0,bh c1,eM,Nb.trans .app, ?_⟩;obtain⟨ep,sl,su,H1⟩:=H1;exact⟨ep,sl,su,(H1.mono λi h f=>⟨f,dW h⟩).app _⟩
 ·rintro v rest l2 cI ⟨bj,lc,d1,d2,x0,x1,e1,hl1,hl2,rI,rfl,hd,g0,g1,gA,fr,⟨ep,sl,su,H2⟩⟩;cases e1;cases hd with
  |cons hp hd=>
   rename_i d d2;obtain⟨m,a,b,rfl,_,p1,p2,p3⟩:=hp;have p2:a= .int d.1:=p2;subst p2;have ZW:=fr.keep _ _ id p1;have hs2:=H2.inst;have hd2:=H2.ns;have hn2:=fr.keep _ _ id h1;have abk:σ.length≠σ.length+1:=by omega
   have e0:=aN g0;have e1:=aN g1;have vP:=fr.len;have AY:=aN gA;f_are
   have XM:Fr No σ ((cI.set σ.length (.cell (some (.int d.1)))).set (σ.length+1) (.cell (some b))++[.list []]):=⟨by simp only [af,aV];omega,λi o _ e=>bh (aM (by have:=aN e;omega) (aM (by have:=aN e;omega) (fr.keep i o id e)))⟩;have PG:Fr (· =cI.length) σ ((cI.set σ.length (.cell (some (.int d.1)))).set (σ.length+1) (.cell (some b))++[.list []]):=XM.mono λ_ _ h=>h.elim;have t0:((cI.set σ.length (.cell (some (.int d.1)))).set (σ.length+1) (.cell (some b))++[bP.list []])[σ.length]? =some (.cell (some (.int d.1))):=by ints_of
   have t1:((cI.set σ.length (.cell (some (.int d.1)))).set (σ.length+1) (.cell (some b))++[bP.list []])[σ.length+1]? =some (.cell (some b)):=bh (get_set (by rw[aV];omega));have tA:((cI.set σ.length (.cell (some (.int d.1)))).set (σ.length+1) (.cell (some b))++[bP.list []])[cI.length]? =some (.list []):=by
    have:((cI.set σ.length (.cell (some (.int d.1)))).set (σ.length+1) (.cell (some b))).length=cI.length:=by simp only [aV]
    rw[<-this];exact eM
   have tn:=XM.keep _ _ id h1;have ZA:eV T (· =cI.length) σ b d.2:=(gv T).away p3 λi h e=>by omega
   refine qQ (vs:=vs) (lE T) eW (acc:=cI.length) (fb:=λq=>if q.1<d.1/\q.2<d.2 then some q.1 else none) ⟨vs,tn,rfl⟩ (λie f3 o ho=>f3.keep _ _ (by have:=aN h1;show ¬n=cI.length;omega) ho) ((lE T).all ((lE T).iN h2 λi h e=>by have e:i=cI.length:=e;omega) PG) tA (show vs.length<1000 by omega) (by omega) ?_ ?_
   ·rintro v' q' ie l1 ws zB _ ⟨m',a',b',rfl,_,r1,r2,r3⟩ f3 zz DK;have r2:a'= .int q'.1:=r2;subst r2;have u0:=f3.keep _ _ (show ¬σ.length=cI.length by omega) t0;have u1:=f3.keep _ _ (show ¬σ.length+1=cI.length by omega) t1;have Om:eV T (· =cI.length) ie b d.2:=(gv T).keep ZA (PG.trans f3);have w1:=vh hT r3 Om (hr _ zB) (hr _ (by simp));have w2:=vh hT Om r3 (hr _ (by simp)) (hr _ zB);f_are
    cases c1:decide (q'.1<d.1)with
    |false=>
     have hf:¬(q'.1<d.1/\q'.2<d.2):=λh=>by have:=xu c1;exact this h.1
     f_are
     rw[aC hf];exact⟨.refl,zz⟩
    |true=>
     have hq1:=dE c1;f_are
     refine xM w1 w2 ?_;f_are
     rw[Bt];cases c2:decide (q'.2<d.2)with
     |false=>
      have hf:¬(q'.1<d.1/\q'.2<d.2):=λh=>by have:=xu c2;exact this h.2
      f_are
      rw[aC hf];exact⟨.refl,zz⟩
     |true=>
      have hq2:=dE c2;f_are
      rw[aD ⟨hq1,hq2⟩];exact⟨.set rfl,_,rfl,get_set (aN zz)⟩
   ·intro ie l3 ws f3 zz HZ;f_are
    have TX:ws=(kB (d1++d::d2) d.1 d.2).map .int:=j7.mp HZ;subst TX;rw[aX];have Nf:Fr (λi=>i=σ.length\/i=σ.length+1) cI ie:=by
     refine⟨by have:=f3.len;simp only [af,aV]at this;omega,λi o hi e=> ?_⟩;have:=aN e;exact f3.keep i o (by omega) (bh (aM (by omega) (aM (by omega) e)))
    have H3:SG (λi=>σ.length+2<=i/\i≠dO.length) (σ.length+2+1) (σ.length+2) (σ.length+2+2) .none 0 0 (fK (d1++d::d2) d1) ie:=⟨ep,sl,su,H2.other (Nf.mono λi _ h=>by omega)⟩;have rI:=Nf.len;have hU:=ui (all:=d1++d::d2) (bH:=d1) (n:=0) (e:=0) (I:=[]) ⟨kN,⟨aJ _,λ_ m=>(nomatch m)⟩,aJ _,λ_ m=>(nomatch m)⟩;refine Hx H3 (λi h=>⟨by omega,by omega⟩) hU.sm ?_ λjv H4 f4=> ?_
    ·have hd1:d1.length<=(d1++d::d2).length:=by simp
     have h5:(1+2*(d1++d::d2).length)*d1.length<=15*7:=nJ (by omega) (by omega);have:=vB (bH:=d1++d::d2) (t:=d.1) (r:=d.2);omega
    ·have eB:fK (d1++d::d2) (d1++[d])=xo d.1 (kB (d1++d::d2) d.1 d.2) (fK (d1++d::d2) d1):=by unfold fK;rw[fA];rfl
     have HZ:=Nf.keep _ _ (by omega) gA;have Kt:=Nf.keep _ _ (by have:=aN h1;omega) hn2;f_are
     refine⟨⟨_,_,d1++[d],d2,_,_,rfl,by f_list,by f_list,by f_list,by simp,hd,f4.keep _ _ (by omega) (f3.keep _ _ (by omega) t0),f4.keep _ _ (by omega) (f3.keep _ _ (by omega) t1),f4.keep _ _ (λh=>h.2 rfl) HZ,⟨cy vP (cy Nf.len f4.len),λi o _ e=> ?_⟩, ?_⟩,λo ho=> ?_⟩
     ·have:=aN e;exact f4.keep _ _ (by omega) (Nf.keep _ _ (by omega) (fr.keep _ _ id e))
     ·rw[eB];exact H4
     ·have:=aN h1;exact f4.keep _ _ (by omega) (Nf.keep _ _ (by omega) ho)
 ·rintro s ⟨cI,lc,d1,d2,x0,x1,rfl,hl1,hl2,rI,e,hd,g0,g1,gA,fr,H2⟩;cases hd;rw[aX]at e;subst e;have hU:=ui (all:=bH) (bH:=bH) (n:=0) (e:=0) (I:=[]) ⟨kN,⟨aJ _,λ_ m=>(nomatch m)⟩,aJ _,λ_ m=>(nomatch m)⟩;have hI:(fK bH bH).length<400:=by
   have h5:(1+2*bH.length)*bH.length<=15*7:=nJ (by omega) (by omega);have:=hU.sm.1;unfold fK;omega
  have hE:jg [] (fK bH bH)<900:=by
   have h5:bH.length*bH.length<=7*7:=nJ (by omega) (by omega);have:=hU.ed;rw[xc];unfold fK;omega
  have hs2:∃ep sl su,mL cI (λi=>σ.length+2<=i/\i≠dO.length) (σ.length+2+1) (σ.length+2) (σ.length+2+2) ep .none 0 0 (fK bH bH) sl su:=H2;obtain⟨ep,sl,su,Y5⟩:=hs2;have hi2:=Y5.inst;have hd2:=Y5.ns;have AY:=aN gA;f_are
  refine Di H2 (λi h=>⟨by omega,by omega⟩) (rk:=id) hU.up hI hE λie r H3 f3=> ?_;have gA3:=f3.keep _ _ (λh=>h.2 rfl) gA;have nZ:Fr No σ ie:=⟨cy fr.len f3.len,λi o _ e=>f3.keep i o (by have:=aN e;omega) (fr.keep i o id e)⟩;have Kt:=nZ.keep _ _ id h1;have HZ:=aN gA3;have hnA:n≠dO.length:=by have:=aN h1;omega
  f_are
  have Od:Small 105 (fK bH bH):=hU.sm.mono (by
   have h5:(1+2*bH.length)*bH.length<=15*7:=nJ (by omega) (by omega);omega)
  refine km (P:=fun(rest:List AV) (s:AS)=>∃(bj:Hp) (lc:Loc) (rem:fU) (ts:List Nat) (as:List AV) (JC QJ:List (List Int)) (cur:u3) (po:Int),s=AS.mk lc bj/\er lc "sorter" (.ref (σ.length+2+1))/\er lc "answers" (.ref dO.length)/\er lc "groups" (.ref ie.length)/\rest.length=rem.length/\rem.length+as.length<=8/\rem.length+ts.length<=7/\
   oB rem cur QJ st/\gs=JC++QJ/\Small 105 cur.1/\SR (λi=>σ.length+2<=i/\i≠dO.length/\i≠ie.length/\i∉ts) (σ.length+2+1) (σ.length+2) (σ.length+2+2) r cur.2 po po cur.1 bj/\
   bj[dO.length]? =some (.list as)/\(∀a∈as,a= .none)/\bj[ie.length]? =some (.list (ts.map .ref))/\(∀t∈ts,t<bj.length/\ie.length<t)/\A2 (Mw isInt (λi=>i∉ts) bj) (ts.map .ref) JC/\Fr No σ bj) 1000 vs _ _ _ ⟨vs,bh (aM (dF hnA) Kt),rfl⟩ ?_ (by omega) ?_ ?_
  ·refine⟨_,_,bH,[],[.none],[],gs,_,0,rfl,by f_list,by f_list,by f_list,Jd,by simp;omega,by simp;omega,ht,rfl,Od, ?_,bh (get_set HZ),by simp, ?_,λ_ m=>(nomatch m),.nil, ?_⟩
   ·refine((H3.mono (G:=λi=>σ.length+2<=i/\i≠dO.length/\i≠ie.length/\i∉([]:List Nat)) λi h f=>⟨f.1,f.2,dW h,by simp⟩).other (.trans (.set λh=>h.2.1 rfl) .app))
   ·have e:(ie.set dO.length (bP.list [AV.none])).length=ie.length:=aV;rw[<-e];exact eM
   ·exact⟨by simp only [af,aV];have:=nZ.len;omega,λi o _ e=>bh (aM (by have:=aN e;omega) (nZ.keep i o id e))⟩
  ·rintro v rest l4 jv ⟨bj,lc,rem,ts,as,JC,QJ,cur,po,e1,hl1,hl2,rI,EE,Cm,HW,ht,rfl,Od,H,gA,has,gG,Je,hg,fr⟩;cases e1;cases rem with
   |nil=>cases EE
   |cons p rem=>
   have EE:rest.length=rem.length:=Nat.succ.inj EE;obtain⟨⟨ep,sl,su,HS,_⟩,Ko,_⟩:=id H;have hi4:=HS.inst;have hd4:=HS.ns;have hn4:=fr.keep _ _ id h1;have JA:=aN gA;have hG4:=aN gG;simp only [aq]at Cm HW;have jy:∀ib,Fr No σ ib->fq jv ib (.list n 0):=λib f o ho=>by
    have ho:jv[n]? =some o:=ho;rw[hn4]at ho;cases ho;exact f.keep _ _ id h1
   f_are
   refine ur H ?_;cases ht with
   |idle h ht=>
    have hb:(decide (po<po)|| !cur.2.isEmpty)=false:=by rw[h];simp
    rw[hb];f_are
    exact⟨⟨_,_,rem,ts,as,JC,QJ,cur,po,rfl,by f_list,by f_list,by f_list,EE,by omega,by omega,ht,rfl,Od,H,gA,has,gG,Je,hg,fr⟩,jy _ fr⟩
   |go h Om hk ok ht=>
    have apart_at:cur.2.isEmpty=false:=by cases e:cur.2 with
     |nil=>exact absurd e h
     |cons _ _=>rfl
    have hb:(decide (po<po)|| !cur.2.isEmpty)=true:=by rw[apart_at];simp
    rw[hb];f_are
    refine yQ H (λi hi=>⟨by have:=fr.len;omega,by omega,by omega,λm=>by have:=Je i m;omega⟩) hk (by omega) λib H5 f5 Oa=> ?_;obtain⟨⟨ep5,sl5,su5,Y4,_⟩,_,_⟩:=id H5;have Yc:=Y4.inst;have U7:=Y4.ns;have QN:=f5.keep _ _ (λh=>h.2.1 rfl) gA;have SK:=f5.keep _ _ (λh=>h.2.2.1 rfl) gG;have Yv:=aN SK;have hb4:(ts.map AV.ref).length<10000:=by rw[aG];omega
    have hb5:as.length<10000:=by omega
    f_are
    have H6:SR (λi=>σ.length+2<=i/\i≠dO.length/\i≠ie.length/\i∉ts++[jv.length]) (σ.length+2+1) (σ.length+2) (σ.length+2+2) r [] (po+cur.2.length) po (outI cur.2 cur.1) (ib.set ie.length (.list (ts.map AV.ref++[.ref jv.length]))):=
     (H5.mono λi _ h=>⟨h.1.1,h.1.2.1,h.1.2.2.1,λm=>by
      rcases au.mp m with m|m
      ·exact h.1.2.2.2 m
      ·exact h.2 (aA.mp m)⟩).other (.set λh=>h.2.2.1 rfl)
    refine ur H6 ?_;have wW:0<cur.2.length:=vb.mpr h;have Ym:(decide (po<po+(cur.2.length:Int))|| !([]:List Int).isEmpty)=true:=by
     rw[cH (by omega)];rfl
    rw[Ym];obtain⟨⟨ep6,sl6,su6,Y3,_⟩,_,_⟩:=id H6;have hi6:=Y3.inst;have hd6:=Y3.ns;have gA6:(ib.set ie.length (.list (ts.map AV.ref++[.ref jv.length])))[dO.length]? =some (.list as):=aM (by omega) QN;have XR:(ib.set ie.length (.list (ts.map AV.ref++[.ref jv.length])))[jv.length]? =some (.tuple (cur.2.map .int)):=aM (by omega) Oa;have f6:Fr (λi=>σ.length+2<=i/\i≠dO.length/\i∉ts) jv (ib.set ie.length (.list (ts.map AV.ref++[.ref jv.length]))):=(f5.mono λi _ h=>⟨h.1,h.2.1,h.2.2.2⟩).trans (.set ⟨by omega,by omega,λm=>by have:=Je _ m;omega⟩);have Kw:=f6.len;f_are
    rw[aX];refine Eg H6 (λi hi=>⟨by have:=fr.len;omega,by omega,by omega,λm=>by
     rcases au.mp m with m|m
     ·have:=Je i m;omega
     ·have:=aA.mp m;have:=aN XR;omega⟩) ok (qB Od) (by omega) (by omega) (by simp;omega) λqt H7 f7=> ?_
    have gA7:=f7.keep _ _ (λh=>h.2.1 rfl) gA6;have HY:=aN gA7;have Kv:=f7.len;f_are
    have f8:Fr (λi=>i∉ts) jv (qt.set dO.length (.list (as++[.none]))):=(f6.mono λi _ h=>h.2.2).trans ((f7.mono λi _ h=>λm=>h.2.2.2 (aI _ m)).trans (.set λm=>by have:=Je _ m;omega));have YJ:Fr No σ (qt.set dO.length (.list (as++[.none]))):=⟨by rw[aV];have:=fr.len;omega,λi o _ e=>by
     have:=aN e;exact aM (by omega) (f7.keep _ _ (by omega) (f6.keep _ _ (by omega) (fr.keep _ _ id e)))⟩
    have XQ:(qt.set dO.length (.list (as++[.none])))[jv.length]? =some (.tuple (cur.2.map .int)):=aM (by omega) (f7.keep _ _ (λh=>h.2.2.2 (by simp)) XR);refine⟨⟨_,_,rem,ts++[jv.length],as++[.none],JC++[cur.2],_,_,po+cur.2.length,rfl,by f_list,by f_list,by f_list,EE,by simp;omega,by simp;omega,ht,by simp,sF (qB Od),H7.other (.set λh=>h.2.1 rfl),get_set HY, ?_, ?_, ?_, ?_,YJ⟩,jy _ YJ⟩
    ·intro a ha;rcases au.mp ha with m|m
     ·exact has a m
     ·exact aA.mp m
    ·rw[bq];exact aM (by omega) (f7.keep _ _ (λh=>h.2.2.1 rfl) (get_set Yv))
    ·intro t m;rcases au.mp m with m|m
     ·have:=Je t m;exact⟨by show t<(qt.set _ _).length;rw[aV];omega,this.2⟩
     ·have:=aA.mp m;exact⟨by have:=aN XQ;show t<(qt.set _ _).length;omega,by omega⟩
    ·rw[bq];refine(((dT eW).iN ((dT eW).all hg f8)) λi _ h m=>h (aI _ m)).snoc ⟨_,_,rfl,by simp,XQ,j7.mpr rfl⟩
  ·rintro s ⟨jv,lc,rem,ts,as,JC,QJ,cur,po,rfl,hl1,hl2,rI,EE,Cm,HW,ht,rfl,Od,H,gA,has,gG,Je,hg,fr⟩;cases rem with
   |cons _ _=>cases EE
   |nil=>
   cases ht;obtain⟨⟨ep,sl,su,HS,_⟩,Ko,_⟩:=id H;have hi4:=HS.inst;have hd4:=HS.ns;have JA:=aN gA;have hG4:=aN gG;f_are
   refine ur H ?_;have hb:(decide (po<po)|| !st.2.isEmpty)=false:=by rw[he];simp
   rw[hb];f_are
   refine yQ H (λi hi=>⟨by have:=fr.len;omega,by omega,by omega,λm=>by have:=Je i m;omega⟩) (by rw[he];intro x m;cases m) (by rw[he];decide) λib H5 f5 Oa=> ?_;rw[he]at Oa;have Oa:ib[jv.length]? =some (.tuple []):=Oa;have heq:=eq_nil (h:=ib++[.tuple []]) (bh Oa) eM;have QN:=f5.keep _ _ (λh=>h.2.1 rfl) gA;have SK:=f5.keep _ _ (λh=>h.2.2.1 rfl) gG;have SF:=aN QN;have Yv:=aN SK;have JG:Fr No σ ib:=⟨cy fr.len f5.len,λi o _ e=>f5.keep i o (by have:=aN e;omega) (fr.keep i o id e)⟩;have Yf:A2 (Mw isInt (λi=>i∉ts) ib) (ts.map .ref) JC:=(dT eW).all hg (f5.mono λi _ h=>h.2.2.2);have Cg:=hg.length;f_are
   have Vh:∀(M:Nat->Prop) (τ:Hp),A2 (PF M τ) as (as.map λ_=>()):=λM τ=>by
    clear gA QN Cm;induction as with
    |nil=>exact .nil
    |cons a as ih=>exact .cons (has a (aj ..)) (ih λb hb=>has b (ah _ hb))
   refine qQ (vs:=as) (ds:=as.map λ_=>()) dNo eW (acc:=ib.length+1) (fb:=λ_=>none) ⟨as,bh QN,rfl⟩ (λja f6 o ho=>f6.keep _ _ (show ¬dO.length=ib.length+1 by omega) ho) (Vh _ _) (dM (j:=1) rfl) (show as.length<1000 by omega) (by omega) ?_ ?_
   ·rintro v' u ja l6 ws _ nW AO f6 zz DK;have AO:v'= .none:=AO;subst AO;f_are
    exact⟨.refl,zz⟩
   ·intro ja l6 ws f6 zz Jz;have e:(as.map λ_=>()).filterMap (λ_=>(none:Option Int))=[]:=by simp
    rw[e]at Jz;cases Jz;have Wi:Fr (· =ib.length+1) ib ja:=Fr.app.trans f6;have Kw:=f6.len;simp only [af,aq,bO]at Kw;have YF:=Wi.keep _ _ (show ¬ie.length=ib.length+1 by omega) SK;f_are
    have Ye:A2 (Mw isInt (· =ja.length) (ja++[.list []])) (ts.map .ref) JC:=by
     refine(dT eW).all ((dT eW).iN Yf (M':=λi=>i=ib.length+1\/i=ja.length) λi hi h m=> ?_) (.trans (.mono Wi λi _ h=> .inl h) .app)|>λx=>(dT eW).iN x λi _ h=> .inr h;have:=Je i m;have:=f5.len;omega
    refine qQ (vs:=ts.map .ref) (dT eW) eW (acc:=ja.length) (fb:=λ_=>none) ⟨_,bh YF,rfl⟩ (λqt f7 o ho=>f7.keep _ _ (show ¬ie.length=ja.length by omega) ho) Ye eM (show(ts.map AV.ref).length<1000 by rw[aG];omega) (by rw[aG];omega) ?_ ?_
    ·rintro v' u qt l7 ws _ nW ⟨t,us,rfl,_,ht7,_⟩ f7 PK DK;f_are
     exact⟨.refl,PK⟩
    ·intro qt l7 ws f7 PK HY;have e:JC.filterMap (λ_=>(none:Option Int))=[]:=by simp
     rw[e]at HY;cases HY;have gG7:=f7.keep _ _ (show ¬ie.length=ja.length by omega) (bh YF);f_are
     have Kv:=f7.len;simp only [af,aq,bO]at Kv;refine q _ qt ⟨by have:=JG.len;omega,λi o _ e=> ?_⟩ ⟨_,_,rfl,id,gG7, ?_⟩
     ·have:=aN e;have:=JG.len;exact f7.keep _ _ (show ¬i=ja.length by omega) (bh (Wi.keep _ _ (show ¬i=ib.length+1 by omega) (JG.keep i o id e)))
     ·rw[aX];exact(dT eW).iN ((dT eW).all Ye f7) λ_ _ h=>h.elim
end
end
section
theorem FZ(i:Int):mm (.int i)=PM.pure (.int i):=rfl
seal PM.bind PM.pure PM.obj PM.cm PM.alloc PM.ey PM.gd PM.within PM.sure PM.attempt PM.hp PM.b8 PM.stuck PM.raise forLoop whileLoop compLoop dj dC sortBy gj bK cX eY cg bM mm fC
theorem vJ{k y:Int} {v:AV}:∀{es:List (Int×AV)},(dictPut k v es).lookup y=if y=k then some v else es.lookup y
 |[]=>by
  unfold dictPut;rw[az];by_cases e:y=k
  ·subst e;simp
  ·rw[aP.mpr e,aC e]
 | (a,b)::es=>by
  have ih:=vJ (k:=k) (y:=y) (v:=v) (es:=es);unfold dictPut;by_cases h:a=k
  ·subst h;rw[aD rfl,az,az];by_cases e:y=a
   ·subst e;simp
   ·rw[aP.mpr e,aC e]
  ·rw[aC h,az,az];by_cases e:y=a
   ·subst e;simp [h]
   ·rw[aP.mpr e];exact ih
theorem yz{k:Int} {v:AV}:∀{es:List (Int×AV)},(dictPut k v es).length<=es.length+1
 |[]=>by unfold dictPut;exact aJ _
 | (a,b)::es=>by
  unfold dictPut;split
  ·simp
  ·have:=yz (k:=k) (v:=v) (es:=es);simp;omega
abbrev Hy:Addr:=181
def cu (bH:fU) (t:Int):Nat:=(bH.lookup t).getD 0
def cZ (bH:fU) (gs:List (List Int)):List fU:=gs.map λg=>(cD (gY λt=> -(cu bH t:Int)) g).map λt=>(t,cu bH t)
theorem jG{t:Int} (nd:(bH.map (·.1)).Nodup) (h:(t,r)∈bH):cu bH t=r:=by
 unfold cu;induction bH with
 |nil=>cases h
 |cons p bH ih=>
  obtain⟨a,b⟩:=p;rw[aS,bA]at nd;rw[az];rcases aK.mp h with e|h
  ·cases e;simp
  ·have:t≠a:=λe=>nd.1 (aR.mpr ⟨_,h,e⟩);rw[aP.mpr this];exact ih nd.2 h
section
variable {T:Nat->Int×Int} {sa:Addr} {xs:List Int} {k:Nat} {l:Loc} {σ:Hp} {E:Exc->AS->Prop} {Q:AV->AS->Prop} {n:Nat}
theorem Ar(hT:∀r s,r<7->s<7->eQ (T r) (T s)=decide (r<s)) (hN:∀i,N i->i<σ.length) {gs:List (List Int)} (hv:ic (lO T) N σ v bH) (hl:bH.length<=7) (hr:∀p∈bH,p.2<7) (hnd:(bH.map (·.1)).Nodup)
  (ht:oB bH (fK bH bH,gu (fK bH bH)) gs st) (he:st.2=[]) (Cg:gs.length<=7) (hg:∀g∈gs,g.length<=7/\(∀t∈g,∃r,(t,r)∈bH)/\∀a∈g,∀b∈g,cu bH a=cu bH b->a=b)
  (q:∀v bj,Fr No σ bj->ic (ic (lO T)) N bj v (cZ bH gs)->Q v ⟨l,bj⟩):
  bK ((gj (PP sa xs) 1000 (k+6)).call (.base Hy) [v]) Q E ⟨l,σ⟩:=by
 have RU:ic (lO T) No σ v bH:=(dL (lE T)).away hv λ_ _ h=>h.elim;obtain⟨n,vs,rfl,_,h1,h2⟩:=hv;refine w_call rfl (show Hy≠mV by decide) (iI ?_);f_are
 have Jd:=h2.length;refine km (P:=fun(rest:List AV) (s:AS)=>∃(bj:Hp) (lc:Loc) (d1 d2:fU) (es:List (Int×AV)) (ep:Nat),s=AS.mk lc bj/\er lc "points" (.ref n)/\bH=d1++d2/\A2 (lO T N σ) rest d2/\bj[σ.length]? =some (.cell (some (.ref (σ.length+1))))/\bj[σ.length+1]? =some (.dict es ep)/\es.length<=d1.length/\
   (∀p∈d1,∃v,es.lookup p.1=some v/\eV T N σ v p.2)/\Fr No σ bj) 1000 vs _ _ _ ⟨vs,bh h1,rfl⟩ ?_ (by omega) ?_ ?_
 ·exact⟨_,_,[],bH,[],0,rfl,rfl,rfl,h2,dK rfl,dM (j:=1) rfl,aJ _,λ_ m=>(nomatch m),.app⟩
 ·rintro v rest l2 cI ⟨bj,lc,d1,d2,es,ep,e1,hl1,rfl,hd,gC,gD,KC,ED,fr⟩;cases e1;cases hd with
  |cons hp hd=>
   rename_i d d2;obtain⟨m,a,b,rfl,_,p1,p2,p3⟩:=hp;have p2:a= .int d.1:=p2;subst p2;have ZW:=fr.keep _ _ id p1;have hlen:es.length<1000:=by simp at hl;omega
   have hn2:=fr.keep _ _ id h1;have hnl:=aN h1;f_are
   refine⟨⟨_,_,d1++[d],d2,_,_,rfl,by f_list,by simp,hd,aM (by omega) gC,get_set (aN gD), ?_, ?_,⟨by rw[aV];exact fr.len,λi o _ e=>aM (by have:=aN e;omega) (fr.keep i o id e)⟩⟩,λo ho=>aM (by omega) ho⟩
   ·have:=yz (k:=d.1) (v:=b) (es:=es);rw[af];simp only [aq,bO];omega
   ·intro p hp;rw[vJ];rcases au.mp hp with h|h
    ·have apart_at:p.1≠d.1:=λe=>by
      rw[bq,bT]at hnd;exact hnd.2.2 p.1 (aR.mpr ⟨p,h,rfl⟩) d.1 (by simp) e
     rw[aC apart_at];exact ED p h
    ·rw[aA.mp h,aD rfl];exact⟨b,rfl,p3⟩
 ·rintro s ⟨cI,lc,d1,d2,es,ep,rfl,hl1,e,hd,gC,gD,KC,ED,fr⟩;cases hd;rw[aX]at e;subst e;f_are
  refine OS ?_;f_are
  refine CP hT ((dL (lE T)).keep RU (fr.trans (.trans .app .app))) hl hr ht he λv3 ie f3 hgs=> ?_;obtain⟨m,ws,rfl,_,hm,hA⟩:=hgs;have VD:=f3.keep _ _ id (bh (τ:=_) (eM (σ:=cI)));have VG:=f3.keep _ _ id (dK rfl);have gK:=f3.keep _ _ id (dM (j:=1) rfl);have gL:=f3.keep _ _ id (dM (j:=2) rfl);have M8:=f3.keep _ _ id (bh (bh gC));have gD3:=f3.keep _ _ id (bh (bh gD));have nZ:Fr No σ ie:=fr.trans ((Fr.trans .app .app).trans f3);have hD2:=aN gD;rw[af]at VG gK gL ⊢;have hL3:=aN gL;have HR:=aN hm;have DK:=hA.length;simp only [aq,bO]at VG gK gL ⊢;f_are
  refine km (P:=fun(rest:List AV) (s:AS)=>∃(bj:Hp) (lc:Loc) (d1 d2:List (List Int)) (us:List AV),s=AS.mk lc bj/\er lc "lines" (.ref (cI.length+1+2))/\er lc "falling" (.ref (cI.length+1+1))/\gs=d1++d2/\A2 (Mw isInt No ie) rest d2/\bj[cI.length+1+2]? =some (.list us)/\
   A2 (ic (lO T) (λi=>i=cI.length+1+2\/N i) bj) us (cZ bH d1)/\Fr (· =cI.length+1+2) ie bj) 1000 ws _ _ _ ⟨ws,hm,rfl⟩ ?_ (by omega) ?_ ?_
  ·exact⟨_,_,[],gs,[],rfl,by f_list,by f_list,rfl,hA,gL,.nil,.refl⟩
  ·rintro v rest l4 jv ⟨bj,lc,d1,d2,us,e1,hl2,rI,rfl,hd,SJ,ph,rV⟩;cases e1;cases hd with
   |cons hp hd=>
    rename_i g d2;obtain⟨t,is,rfl,_,Ud,his⟩:=hp;have his:=j7.mp his;subst his;have ht4:=rV.keep _ _ (λe=>by rw[e,gL]at Ud;cases Ud) Ud;have gK4:=rV.keep _ _ (show ¬cI.length+1+1=cI.length+1+2 by omega) gK;have VF:=rV.keep _ _ (show ¬cI.length+1=cI.length+1+2 by omega) VG;have QM:=rV.keep _ _ (show ¬cI.length=cI.length+1+2 by omega) VD;have Oq:=rV.keep _ _ (show ¬σ.length=cI.length+1+2 by omega) M8;have YG:=rV.keep _ _ (show ¬σ.length+1=cI.length+1+2 by omega) gD3;have UG:m≠cI.length+1+2:=by
     intro e;rw[e,gL]at hm;cases hm;simp at DK
    obtain⟨U1,Sl,Ky⟩:=hg g (by simp);have PO:∀i,i<g.length->∃v,es.lookup (g.getD i 0)=some v/\eV T N σ v (cu bH (g.getD i 0))/\cu bH (g.getD i 0)<7:=λi hi=>by
     have hm:g.getD i 0∈g:=by rw[aT,ay hi];exact bw hi
     obtain⟨r,pj⟩:=Sl _ hm;obtain⟨v,e1,e2⟩:=ED _ pj;have e3:cu bH (g.getD i 0)=r:=jG hnd pj;rw[e3];exact⟨v,e1,e2,hr _ pj⟩
    have JH:Fr No σ jv:=⟨by have:=nZ.len;have:=rV.len;omega,λi o _ e=>rV.keep i o (show ¬i=cI.length+1+2 by have:=aN e;omega) (nZ.keep i o id e)⟩;have Ql:(g.map AV.int).length=g.length:=aG ..;f_are
    refine CL (w:=λi=> -(cu bH (g.getD i 0):Int)) (by omega) gK4 VF (λx hx=>by obtain⟨i,_,rfl⟩:=aR.mp hx;exact FZ i) (λi j ib l5 hi hj f5=> ?_) λp ib O f5=> ?_
    ·rw[Ql]at hi hj;have e1:(g.map AV.int).getD i .none= .int (g.getD i 0):=by simp [hi]
     have e2:(g.map AV.int).getD j .none= .int (g.getD j 0):=by simp [hj]
     rw[e1,e2];obtain⟨vi,li,ti,Xu⟩:=PO i hi;obtain⟨vj,lj,tj,Xs⟩:=PO j hj;have Xv:=(gv T).keep ti ((JH.trans f5).mono λ_ _ h=>h.elim);have Xt:=(gv T).keep tj ((JH.trans f5).mono λ_ _ h=>h.elim);have w1:=vh hT Xt Xv Xs Xu;have w2:=vh hT Xv Xt Xu Xs;have VH:=f5.keep _ _ id Oq;have VE:=f5.keep _ _ id YG;refine OO (f5.keep _ _ id QM) (Fe rfl ?_);f_are
     refine xM w1 w2 ?_;f_are
     refine⟨rfl,.refl,_,rfl, ?_⟩;rw[Bt];exact jw.mpr (by omega)
    ·rw[Ql]at O;have eS:(p.map λi=>(g.map AV.int).getD i .none)=(cD (gY λt=> -(cu bH t:Int)) g).map .int:=by
      rw[<-wH (key:=λt=> -(cu bH t:Int)) (d0:=0) O (λi _=>rfl) λa ha b hb h=>Ky a ha b hb (by have h: -(cu bH a:Int)= -(cu bH b:Int):=h;omega),eD];refine dc λi hi=> ?_;have:=dh.mp (O.perm.mem_iff.mp hi);simp [this]
     rw[eS];f_are
     have VH:=f5.keep _ _ id Oq;have VE:=f5.keep _ _ id YG;have Ce:=f5.len;have JG:Fr No σ ib:=JH.trans f5;have X4:=JH.len;have hC5:=aN VH;have hD5:=aN VE;have hSl:((cD (gY λt=> -(cu bH t:Int)) g).map AV.int).length=g.length:=by rw[aG];exact cw.length_eq
     refine fJ (λi=>i=cI.length+1+2\/N i) (vs:=(cD (gY λt=> -(cu bH t:Int)) g).map .int) (ds:=cD (gY λt=> -(cu bH t:Int)) g) eW (lE T) (acc:=ib.length+1) (fb:=λt=>some (t,cu bH t)) ⟨_,dK rfl,rfl⟩ (λja f6 o ho=>f6.keep _ _ (show ¬ib.length=ib.length+1 by omega) ho) (j7.mpr rfl) (dM (j:=1) rfl) (show _<1000 by omega) (by omega) ?_ ?_
     ·rintro v' t ja l6 HM ht nW TY f6 wU EC;have TY:v'= .int t:=TY;subst TY;obtain⟨r,pj⟩:=Sl t (cw.mem_iff.mp ht);obtain⟨v,e1,e2⟩:=ED _ pj;have e3:cu bH t=r:=jG hnd pj;have gC6:=f6.keep _ _ (show ¬σ.length=ib.length+1 by omega) (bh VH);have gD6:=f6.keep _ _ (show ¬σ.length+1=ib.length+1 by omega) (bh VE);have e1:es.lookup t=some v:=e1;have UH:=aN wU;f_are
      have ZD:eV T (λi=>i=ib.length+1\/i=cI.length+1+2\/N i) ib v r:=(gv T).keep ((gv T).away e2 (M':=λi=>i=ib.length+1\/i=cI.length+1+2\/N i) λi hi h=>by
       rcases h with h|h|h
       ·omega
       ·omega
       ·exact h) (JG.mono λ_ _ h=>h.elim)
      have fS:Fr (· =ib.length+1) ja (ja.set (ib.length+1) (.list (HM++[.ref ja.length]))++[bP.list [.int t,v]]):=(Fr.set (F:=(· =ib.length+1)) rfl).trans .app;have ZC:eV T (λi=>i=ib.length+1\/i=cI.length+1+2\/N i) (ja.set (ib.length+1) (.list (HM++[.ref ja.length]))++[bP.list [.int t,v]]) v r:=(gv T).keep ZD (((Fr.app.trans f6).trans fS).mono λ_ _ h=> .inl h);have eL:(ja.set (ib.length+1) (bP.list (HM++[.ref ja.length]))).length=ja.length:=aV;have gN:(ja.set (ib.length+1) (.list (HM++[.ref ja.length]))++[bP.list [.int t,v]])[ja.length]? =some (.list [.int t,v]):=by
       have h:=eM (σ:=ja.set (ib.length+1) (bP.list (HM++[.ref ja.length]))) (o:=bP.list [.int t,v]);rw[eL]at h;exact h
      refine⟨fS,.ref ja.length,⟨ja.length,_,_,rfl,(by
       rintro(h|h|h)
       ·omega
       ·have:=aN SJ;omega
       ·have:=hN _ h;omega),gN,rfl, ?_⟩,bh (get_set UH)⟩
      rw[e3];exact ZC
     ·intro ja l6 HM f6 wU Jz;have M7:=f5.keep _ _ id SJ;have hL5:=aN M7;have gL6:=f6.keep _ _ (show ¬cI.length+1+2=ib.length+1 by omega) (bh M7);have EC:=ph.length;have Ua:us.length<10000:=by
       rw[EC];unfold cZ;rw[aG];have:d1.length<=(d1++g::d2).length:=by simp
       omega
      have Ku:=rV.keep _ _ UG hm;have hL6:=aN gL6;f_are
      have fL:Fr (· =cI.length+1+2) ja (ja.set (cI.length+1+2) (.list (us++[.ref (ib.length+1)]))):= .set rfl;have fL':Fr (λi=>i=cI.length+1+2\/N i) ja (ja.set (cI.length+1+2) (.list (us++[.ref (ib.length+1)]))):= .set (.inl rfl);have SM:Fr (· =cI.length+1+2) jv ja:=⟨by have:=f6.len;simp only [af,aq,bO]at this;omega,λi o h e=>f6.keep i o (show ¬i=ib.length+1 by have:=aN (f5.keep _ _ id e);omega) (bh (f5.keep _ _ id e))⟩;have eF:(cD (gY λt=> -(cu bH t:Int)) g).filterMap (λt=>some (t,cu bH t))=(cD (gY λt=> -(cu bH t:Int)) g).map λt=>(t,cu bH t):=by
       rw[<-la];rfl
      rw[eF]at Jz;refine⟨⟨_,_,d1++[g],d2,_,rfl,by f_list,by f_list,by simp,hd,get_set hL6, ?_,(rV.trans SM).trans fL⟩,λo ho=> ?_⟩
      ·have eP:cZ bH (d1++[g])=cZ bH d1++[(cD (gY λt=> -(cu bH t:Int)) g).map λt=>(t,cu bH t)]:=by unfold cZ;rw[bq];rfl
       rw[eP];exact((dL (lE T)).all ph ((SM.trans fL).mono λ_ _ h=> .inl h)).snoc ⟨_,HM,rfl,λh=>h.elim (λh=>by omega) (λh=>by have:=hN _ h;omega),aM (by omega) wU,(lE T).all ((lE T).iN Jz λ_ _ h=> .inr h) fL'⟩
      ·have ho:jv[m]? =some o:=ho;exact aM (dF UG) (SM.keep _ _ UG ho)
  ·rintro s ⟨bj,lc,d1,d2,us,rfl,hl2,rI,e,hd,SJ,ph,rV⟩;cases hd;rw[aX]at e;subst e;f_are
   refine q _ bj ⟨by have:=nZ.len;have:=rV.len;omega,λi o _ e=>rV.keep i o (show ¬i=cI.length+1+2 by have:=aN e;omega) (nZ.keep i o id e)⟩ ⟨_,us,rfl,λh=>by have:=hN _ h;omega,SJ,(dL (lE T)).iN ph λ_ _ h=> .inr h⟩
end
end
section
seal PM.bind PM.pure PM.obj PM.cm PM.alloc PM.ey PM.gd PM.within PM.sure PM.attempt PM.hp PM.b8 PM.stuck PM.raise forLoop whileLoop compLoop dj dC sortBy gj bK cX eY cg bM mm fC dn ll
abbrev KX:Addr:=203
abbrev MA (σ:Hp) (N:Nat->Prop):Nat->Prop:=λi=>i=σ.length+2\/N i
section
variable {T:Nat->Int×Int} {sa:Addr} {xs:List Int} {k:Nat} {l:Loc} {σ:Hp} {E:Exc->AS->Prop} {Q:AV->AS->Prop} {n:Nat}
theorem nY{R:Rep α} (dR:Dat R) (hN:∀i,N i->i<σ.length) {d:Nat} {rows:List (List α)} {res:List α} (hv:ic (ic R) N σ v rows) (hl:rows.length<100) (hl2:∀r∈rows,r.length<90)
  (hs:∀us bj l',A2 (R N bj) us (rows.drop d).flatten->Fr No σ bj->bK (dn us) (λys s=>s=⟨l',bj⟩/\A2 (R N bj) ys res) (λ_ _=>False) ⟨l',bj⟩)
  (q:∀v bj,Fr No σ bj->ic R N bj v res->Q v ⟨l,bj⟩):
  bK ((gj (PP sa xs) 1000 (k+2)).call (.base KX) [v,.int (d:Nat)]) Q E ⟨l,σ⟩:=by
 obtain⟨n,vs,rfl,_,h1,h2⟩:=hv;refine w_call rfl (show KX≠mV by decide) (iI ?_);have hsl:=mh vs d;f_are
 have hA:A2 (ic R (MA σ N) σ) (vs.drop d) (rows.drop d):=(dL dR).iN (h2.drop d) λi hi h=>h.elim (λh=>by omega) id;have Uh:∀(ds:List (List α)),(∀r∈ds,r.length<90)->ds.flatten.length<=90*ds.length:=λds=>by
  induction ds with
  |nil=>intro _;simp
  |cons r ds ih=>
   intro h;have:=ih λx hx=>h x (ah _ hx);have:=h r (aj ..);rw[bl,af,aq];omega
 have hdl:(rows.drop d).length<=rows.length:=by rw[d7];omega
 have Jd:=(h2.drop d).length;refine qw (P:=fun(rest:List AV) (s:AS)=>∃(d1 d2:List (List α)) (us:List AV),rows.drop d=d1++d2/\A2 (ic R (MA σ N) s.hp) rest d2/\s.hp[σ.length+2]? =some (.list us)/\A2 (R (MA σ N) s.hp) us d1.flatten/\Fr (· =σ.length+2) (σ++[.slice (.int (d:Nat)) .none .none,.list (vs.drop d),.list []]) s.hp) 1000 (vs.drop d) _ _ _ ⟨_,dM (j:=1) rfl,rfl⟩ ?_ (by omega) ?_ ?_
 ·exact⟨[],rows.drop d,[],rfl,(dL dR).all hA .app,dM (j:=2) rfl,.nil,.refl⟩
 ·rintro v rest l1 dO ⟨d1,d2,us,e,hd,gA,ph,fr⟩;cases hd with
  |cons hp hd=>
   rename_i r d2;obtain⟨m,ws,rfl,MN,p1,p2⟩:=hp;have MN:¬m=σ.length+2:=λh=>MN (.inl h);have DK:=p2.length;have aaA:r.length<90:=hl2 r (gI (by rw[e];simp));have hd1:d1.flatten.length<=90*d1.length:=Uh d1 λx hx=>hl2 x (gI (by rw[e];exact aI _ hx));have abg:d1.length<=rows.length:=by have:=dg List.length e;rw[af,aq]at this;omega
   f_are
   refine qw (P:=fun(J9:List AV) (s:AS)=>∃(e1 e2:List α) (Ey:List AV),r=e1++e2/\A2 (R (MA σ N) s.hp) J9 e2/\s.hp[σ.length+2]? =some (.list Ey)/\A2 (R (MA σ N) s.hp) Ey (d1.flatten++e1)/\Fr (· =σ.length+2) dO s.hp) 1000 ws _ _ _ ⟨ws,p1,rfl⟩ ?_ (by omega) ?_ ?_
   ·exact⟨[],r,us,rfl,p2,gA,by rw[aX];exact ph,.refl⟩
   ·rintro v2 J9 l2 cI ⟨e1,e2,Ey,rfl,he,VI,DP,p7⟩;cases he with
    |cons hx he=>
     rename_i x e2;have EC:=DP.length;have Ua:Ey.length<10000:=by
      rw[EC,af];have:e1.length<=(e1++x::e2).length:=by simp
      omega
     f_are
     have fS:Fr (· =σ.length+2) cI (cI.set (σ.length+2) (.list (Ey++[v2]))):= .set rfl;have fM:Fr (MA σ N) cI (cI.set (σ.length+2) (.list (Ey++[v2]))):= .set (.inl rfl);refine⟨⟨e1++[x],e2,_,by simp,dR.all he fM,get_set (aN VI), ?_,p7.trans fS⟩,λo ho=>aM (dF MN) ho⟩;rw[<-bc];exact(dR.all DP fM).snoc (dR.keep hx fM)
   ·rintro⟨l2,cI⟩ ⟨e1,e2,Ey,e3,he,VI,DP,p7⟩;cases he;rw[aX]at e3;subst e3;have p7:Fr (· =σ.length+2) dO cI:=p7;refine⟨⟨d1++[r],d2,Ey,by rw[e];simp,(dL dR).all hd (p7.mono λ_ _ h=> .inl h),VI, ?_,fr.trans p7⟩,λo ho=>p7.keep _ _ (show ¬σ.length+1=σ.length+2 by omega) ho⟩;rw[List.flatten_append];simpa using DP
 ·rintro⟨l1,dO⟩ ⟨d1,d2,us,e,hd,gA,ph,fr⟩;cases hd;rw[aX]at e;subst e;have fr:Fr (· =σ.length+2) (σ++[.slice (.int (d:Nat)) .none .none,.list (vs.drop d),.list []]) dO:=fr;have f0:Fr No σ dO:=⟨by have:=fr.len;simp only [af,aq,bO]at this;omega,λi o _ h=>fr.keep i o (show ¬i=σ.length+2 by have:=aN h;omega) (bh h)⟩;f_are
  refine cL (hs us dO _ (dR.iN ph λ_ _ h=> .inr h) f0) (λys s h=> ?_) λ_ _ h=>h;obtain⟨rfl,hy⟩:=h;f_are
  refine q _ _ (f0.trans .app) ⟨_,ys,rfl,λh=>by have:=hN _ h;have:=f0.len;omega,eM,dR.all hy .app⟩
end
end
section
variable {α:Type} {R:AV->α->Prop} {key:α->Int} {c:AV->AV->Bool}
def mF (key:α->Int) (a:α) (xs:List α):List α:=xs.dropWhile λx=> !gY key x a&& !gY key a x
def pD (key:α->Int):Nat->List α->List α->List α×List α
 |0,_,_=>([],[])
 |_+1,[],bs=>([],bs)
 |_+1,as,[]=>(as,[])
 |f+1,a::as,b::bs=>
  if gY key a b=true then(a::(pD key f (mF key a as) (b::bs)).1,(pD key f (mF key a as) (b::bs)).2)
  else if gY key b a=true then((pD key f (a::as) (mF key b bs)).1,b::(pD key f (a::as) (mF key b bs)).2)
  else pD key f (mF key a as) (mF key b bs)
theorem A2.dropWhile {S:AV->Bool} {S':α->Bool} (h:∀v d,R v d->S v=S' d) {vs:List AV} {ds:List α} (x:A2 R vs ds):A2 R (vs.dropWhile S) (ds.dropWhile S'):=by
 induction x with
 |nil=>exact .nil
 |cons a x ih=>
  rw[hJ,hJ,h _ _ a];split
  ·exact ih
  ·exact .cons a x
theorem r8(hc:∀v w d e,R v d->R w e->c v w=gY key d e) {d:α} (h:R v d) {ds:List α} (x:A2 R vs ds):A2 R (iK c v vs) (mF key d ds):=
 x.dropWhile λw e hw=>by rw[hc _ _ _ _ hw h,hc _ _ _ _ h hw]
theorem wq(hc:∀v w d e,R v d->R w e->c v w=gY key d e):∀(f:Nat) {as bs:List AV} {ds es:List α},A2 R as ds->A2 R bs es->A2 R (gV c f as bs).1 (pD key f ds es).1/\A2 R (gV c f as bs).2 (pD key f ds es).2
 |0,_,_,_,_,_,_=>⟨.nil,.nil⟩
 |f+1,_,bs,_,es,.nil,y=>by rw[lJ];unfold pD;exact⟨.nil,y⟩
 |f+1,_,_,_,_,.cons a x,.nil=>by rw[nR];unfold pD;exact⟨.cons a x,.nil⟩
 |f+1,_,_,_,_,.cons (v:=v) (d:=d) a x,.cons (v:=w) (d:=e) b y=>by
  have e1:=hc _ _ _ _ a b;have e2:=hc _ _ _ _ b a;rw[pD];by_cases h1:c v w=true
  ·rw[BE h1,aD (by rw[<-e1];exact h1)];obtain⟨i1,i2⟩:=wq hc f (r8 hc a x) (.cons b y);exact⟨.cons a i1,i2⟩
  ·rw[aC (by rw[<-e1];exact h1)];by_cases h2:c w v=true
   ·rw[BF h1 h2,aD (by rw[<-e2];exact h2)];obtain⟨i1,i2⟩:=wq hc f (.cons a x) (r8 hc b y);exact⟨i1,.cons b i2⟩
   ·rw[BG h1 h2,aC (by rw[<-e2];exact h2)];exact wq hc f (r8 hc a x) (r8 hc b y)
theorem BH{a:α} {xs:List α} (h:∀x∈xs,key a<key x):mF key a xs=xs:=by
 cases xs with
 |nil=>rfl
 |cons x xs=>
  unfold mF;have:=h x (aj ..);have h2:gY key a x=true:=cH this;rw[hJ,aC];rw[h2];simp
def dbl (S:List α):List α:=S.flatMap λx=>[x,x]
theorem p9{s:α} {S:List α}:dbl (s::S)=s::s::dbl S:=rfl
theorem BQ{x:α} {S:List α}:x∈dbl S↔x∈S:=by
 unfold dbl;rw[List.mem_flatMap];constructor
 ·rintro⟨y,hy,h⟩;simp at h;subst h;exact hy
 ·intro h;exact⟨x,h,by simp⟩
theorem qC[DecidableEq α]:∀{as S:List α} {f:Nat},as.length<f->as.Pairwise (λa b=>key a<key b)->S.Sublist as->pD key f as (dbl S)=(as.filter λx=>decide (x∉S),[])
 |_,_,0,h,_,_=>absurd h (fB _)
 |[],_,f+1,_,_,h=>by
  have:=List.sublist_nil.mp h;subst this;rfl
 |a::as,[],f+1,_,_,_=>by
  show(a::as,[])=_
  rw[S8.mpr (by simp)]
 |a::as,s::S,f+1,hf,hp,hS=>by
  obtain⟨h1,h2⟩:=bS.mp hp;have Oe:mF key a as=as:=BH h1;rw[p9,pD];cases hS with
  |cons _ h=>
   have hs:key a<key s:=h1 s (h.subset (aj ..));rw[aD (cH hs),Oe];have ih:=qC (f:=f) (du hf) h2 h;rw[p9]at ih;rw[ih];have ha:a∉s::S:=λm=>by have:=h1 a (h.subset m);omega
   rw[fX,aD (by simpa using ha)]
  |cons_cons _ h=>
   have hn:¬gY key a a=true:=by simp
   rw[aC hn,aC hn,Oe];have MX:∀x∈dbl S,key a<key x:=λx hx=>h1 x (h.subset (BQ.mp hx));have Uk:mF key a (a::dbl S)=dbl S:=by
    have h3:=BH MX;unfold mF at h3 ⊢;rw[hJ,aD (by simp)];exact h3
   rw[Uk,qC (du hf) h2 h,fX,aC (by simp)];congr 1;refine List.filter_congr λx hx=> ?_;have:x≠a:=λe=>by have:=h1 x hx;rw[e]at this;omega
   simp [this]
theorem y5:∀{S:List α},(dbl S).Perm (S++S)
 |[]=> .refl _
 |s::S=>by
  rw[p9,bG];exact((y5 (S:=S)).cons s).cons s|>.trans ((dw (a:=s) (l₁:=S) (l₂:=S)).symm.cons s)
theorem ua:∀{S:List α},S.Pairwise (λa b=>key a<=key b)->(dbl S).Pairwise (λa b=>key a<=key b)
 |[],_=> .nil
 |s::S,h=>by
  obtain⟨h1,h2⟩:=bS.mp h;rw[p9];have h3:∀x∈dbl S,key s<=key x:=λx hx=>h1 x (BQ.mp hx);exact bS.mpr ⟨λx hx=>by
   rcases aK.mp hx with rfl|hx
   ·exact lV _
   ·exact h3 x hx,bS.mpr ⟨h3,ua h2⟩⟩
theorem zV{S:List α} (hi:∀a∈S,∀b∈S,key a=key b->a=b):cD (gY key) (S++S)=dbl (cD (gY key) S):=by
 refine ki (key:=key) ?_ dI (ua dI) λa ha b hb=> ?_
 ·exact cw.trans ((cw.append cw).symm.trans y5.symm)
 ·have tW:=cw.mem_iff.mp ha;have sq:=cw.mem_iff.mp hb;exact hi a (by simpa using tW) b (by simpa using sq)
end
structure HB {α:Type} (R:Rep α) (f:α->PyData) (k:Nat):Prop where
 to:∀{M σ v d},R M σ v d->∀j,k<=j->toD σ j v=some (f d)
 lay:∀d,(f d).canLay0=true
section
variable {α β:Type} {R:Rep α} {S:Rep β} {f:α->PyData} {g:β->PyData} {k:Nat}
theorem TA:HB isInt .int 0:=⟨λh j _=>by rw[show _=_ from h];cases j<;>rfl,λ_=>rfl⟩
theorem BU{Q:AV->α->Prop} (h:∀v d,Q v d->toD σ j v=some (f d)) {ds:List α} (x:A2 Q vs ds):rR (toD σ j) vs=some (ds.map f):=by
 induction x with
 |nil=>rfl
 |cons a _ ih=>
  unfold rR;rw[h _ _ a,ih];rfl
theorem wM(h:∀d,(f d).canLay0=true):∀ds:List α,PyData.canLayAll0 (ds.map f)=true
 |[]=>rfl
 |d::ds=>by
  show((f d).canLay0&&PyData.canLayAll0 (ds.map f))=true
  rw[h d,wM h ds];rfl
theorem pL(h:HB R f k):HB (ic R) (λds=> .list (ds.map f)) (k+1):=⟨fun{M σ v d} ⟨n,vs,e,_,h1,h2⟩ j hj=>by
  subst e;cases j with
  |zero=>omega
  |succ j=>
   unfold toD;rw[h1];dsimp only;rw[BU (Q:=R M σ) (λv d r=>h.to r j (by omega)) h2];rfl,λds=>wM h.lay ds⟩
theorem pT(h:HB R f k):HB (Mw R) (λds=> .tuple (ds.map f)) (k+1):=⟨fun{M σ v d} ⟨n,vs,e,_,h1,h2⟩ j hj=>by
  subst e;cases j with
  |zero=>omega
  |succ j=>
   unfold toD;rw[h1];dsimp only;rw[BU (Q:=R M σ) (λv d r=>h.to r j (by omega)) h2];rfl,λds=>wM h.lay ds⟩
theorem XE(h:HB R f k) (h':HB S g k):HB (tL R S) (λd=> .tuple [f d.1,g d.2]) (k+1):=⟨λ⟨n,a,b,e,_,h1,h2,h3⟩ j hj=>by
  subst e;cases j with
  |zero=>omega
  |succ j=>
   unfold toD;rw[h1];dsimp only;unfold rR;rw[h.to h2 j (by omega)];unfold rR;rw[h'.to h3 j (by omega)];rfl,λd=>by
  show((f d.1).canLay0&&((g d.2).canLay0&&true))=true
  rw[h.lay,h'.lay];rfl⟩
theorem ZV:HB (eV T) (λr=> .list [.int (T r).1,.int (T r).2]) 1:=⟨λ⟨n,e,_,h1⟩ j hj=>by
  subst e;cases j with
  |zero=>omega
  |succ j=>
   unfold toD;rw[h1];cases j<;>rfl,λ_=>rfl⟩
theorem JN(h:HB R f k) (hk:k<=8) {M':Nat->Prop} {w:AV} {d:α} (a:R M σ v d) (b:R M' σ w d):yZ σ v w=some true:=by
 unfold yZ;rw[h.to a 8 hk,h.to b 8 hk];exact dg some (PySem.SeqAt.eqv_refl _ (h.lay d))
end
section
variable {T:Nat->Int×Int} {l:Loc} {σ:Hp} {E:Exc->AS->Prop}
theorem il{c:α->α->Bool} {x:α}:x∈cD c ds↔x∈ds:=cw.mem_iff
theorem nQ{us:List AV} {is:List Int} (h:A2 (isInt M σ) us is) (hl:is.length<64) (q:∀ys,A2 (isInt M σ) ys (cD (gY id) is)->Q ys ⟨l,σ⟩):bK (dn us) Q E ⟨l,σ⟩:=by
 rw[j7.mp h];exact zL hl (q _ (j7.mpr rfl))
theorem kU(hT:∀r s,r<7->s<7->eQ (T r) (T s)=decide (r<s)) {us:List AV} {rs:List Nat} (h:A2 (eV T M σ) us rs) (h7:∀r∈rs,r<7) (hl:rs.length<64)
  (q:∀ys,A2 (eV T M σ) ys (cD (gY Int.ofNat) rs)->Q ys ⟨l,σ⟩):bK (dn us) Q E ⟨l,σ⟩:=by
 have hlen:=h.length;have gm:∀i,i<rs.length->rs.getD i 0∈rs:=λi hi=>by
  rw[aT,ay hi];exact bw hi
 refine xH (ds:=rs) (d0:=0) (pr:=T) (key:=Int.ofNat) (by omega) hlen (λi hi=> ?_) (λa ha b hb=> ?_) λp O=> ?_
 ·obtain⟨n,e,_,h1⟩:=h.get (v0:= .none) (d0:=0) i (by omega);rw[e];unfold pairAt;dsimp only;rw[h1]
 ·rw[hT a b (h7 a ha) (h7 b hb)];exact jw.mpr (show a<b↔(a:Int)<(b:Int) by omega)
 ·refine q _ ?_;rw[<-wH (key:=Int.ofNat) (d0:=0) O (λi _=>rfl) λa _ b _ h=>by have h:(a:Int)=(b:Int):=h;omega];exact h.map λi hi=>dh.mp (O.perm.mem_iff.mp hi)
end
section
seal PM.bind PM.pure PM.obj PM.cm PM.alloc PM.ey PM.gd PM.within PM.sure PM.attempt PM.hp PM.b8 PM.stuck PM.raise forLoop whileLoop compLoop dj dC sortBy gj bK cX eY cg bM mm fC dn ll jZ
abbrev KW:Addr:=198
abbrev jT (a c:Nat) (bs gs:List Nat):Nat->Prop:=λi=>i=a\/i=c\/i∈bs\/i∈gs
structure lT (T:Nat->Int×Int) (a c:Nat) (bs gs:List Nat) (rows:List (List Nat)) (grown:List (List Int)) (σ:Hp):Prop where
 ra:σ[a]? =some (.list (bs.map .ref))
 rc:σ[c]? =some (.list (gs.map .ref))
 lb:bs.length=rows.length
 lg:gs.length=rows.length
 lr:grown.length=rows.length
 row:∀(i b:Nat) (r:List Nat),bs[i]? =some b->rows[i]? =some r->∃us,σ[b]? =some (.list us)/\A2 (eV T (jT a c bs gs) σ) us r
 M5:∀(i b:Nat) (r:List Int),gs[i]? =some b->grown[i]? =some r->σ[b]? =some (.list (r.map .int))
 nd:(a::c::bs++gs).Nodup
def cR (x:Nat) (row:List Nat):List Int:=row.filterMap λo=>if o<x then some 1 else none
def eK (turn:Int):Nat->List (List Nat)->List (List Int)->List (List Nat)×List (List Int)
 |x,row::rows,g::grown=>if(cR x row).length=row.length then((row++[x])::rows,(g++[turn])::grown)
  else(row.set (cR x row).length x::(eK turn (row.getD (cR x row).length 0) rows grown).1,g::(eK turn (row.getD (cR x row).length 0) rows grown).2)
 |x,rows,grown=>(rows++[[x]],grown++[[turn]])
theorem jI:∀(n:Nat) (a:Int),(intsFrom a n).length=n
 |0,_=>rfl
 |n+1,a=>by unfold intsFrom;rw[aq,jI n]
theorem sR(x:Nat) (r:List Nat):(cR x r).length<=r.length:=JY ..
theorem r9{A B:List α} {x y:α} {d:Nat} (h:A.length=d):(A++x::B).set d y=A++y::B:=by
 subst h;rw[rY _ _ (aJ _),jx,List.set_cons_zero]
theorem Af{l:List α} (nd:l.Nodup) {x:α} (h1:l[i]? =some x) (h2:l[j]? =some x):i=j:=by
 obtain⟨a,ha⟩:=bx.mp h1;obtain⟨b,hb⟩:=bx.mp h2;have h:=eO.mp nd;rcases zm i j with q|q|q
 ·exact(h i j a b q (ha.trans hb.symm)).elim
 ·exact q
 ·exact(h j i b a q (hb.trans ha.symm)).elim
theorem nU{l:List α} {x:α} (h:l[i]? =some x):x∈l:=by
 obtain⟨a,ha⟩:=bx.mp h;exact ha▸bw a
theorem lT.upd {c:Nat} {r':List Nat} {g':List Int} {d b1 b2:Nat} {xJ:List AV} (H:lT T a c bs gs rows grown σ) (hd:d<rows.length) (hb:bs[d]? =some b1) (hg:gs[d]? =some b2) (fr:Fr (λi=>i=b1\/i=b2) σ bj)
  (h1:bj[b1]? =some (.list xJ)) (h2:A2 (eV T (jT a c bs gs) bj) xJ r') (h3:bj[b2]? =some (.list (g'.map .int))):lT T a c bs gs (rows.set d r') (grown.set d g') bj:=by
 have nd:=H.nd;have m1:=nU hb;have m2:=nU hg;have ZZ:bs.Nodup:=by
  have:=(bT.mp nd).1;exact(bA.mp (bA.mp this).2).2
 have TJ:gs.Nodup:=(bT.mp nd).2.1;have na:∀x,x∈bs\/x∈gs->a≠x/\c≠x:=λx hx=>by
  rw[bG,bG,bA,bA]at nd;have hm:x∈bs++gs:=au.mpr hx;exact⟨λe=>nd.1 (by rw[e];exact ah _ hm),λe=>nd.2.1 (by rw[e];exact hm)⟩
 have XJ:∀x∈bs,∀y∈gs,x≠y:=λx hx y hy=>(bT.mp nd).2.2 x (by simp [hx]) y hy;refine⟨fr.keep _ _ ?_ H.ra,fr.keep _ _ ?_ H.rc,by rw[aV];exact H.lb,by rw[aV];exact H.lg,by rw[aV,aV];exact H.lr, ?_, ?_,nd⟩
 ·rintro(h|h)
  ·exact(na _ (.inl m1)).1 h
  ·exact(na _ (.inr m2)).1 h
 ·rintro(h|h)
  ·exact(na _ (.inl m1)).2 h
  ·exact(na _ (.inr m2)).2 h
 ·intro i b r sq hr;by_cases e:i=d
  ·subst e;rw[qY hd]at hr;cases hr;rw[hb]at sq;cases sq;exact⟨xJ,h1,h2⟩
  ·rw[uG (dF e)]at hr;obtain⟨us,e1,e2⟩:=H.row i b r sq hr;refine⟨us,fr.keep _ _ ?_ e1,(gv T).all e2 (fr.mono λj _ h=> ?_)⟩
   ·rintro(h|h)
    ·subst h;exact e (Af ZZ sq hb)
    ·exact XJ _ (nU sq) _ m2 h
   ·rcases h with h|h
    ·subst h;exact .inr (.inr (.inl m1))
    ·subst h;exact .inr (.inr (.inr m2))
 ·intro i b r sq hr;by_cases e:i=d
  ·subst e;rw[qY (by rw[H.lr];exact hd)]at hr;cases hr;rw[hg]at sq;cases sq;exact h3
  ·rw[uG (dF e)]at hr;refine fr.keep _ _ ?_ (H.M5 i b r sq hr);rintro(h|h)
   ·exact XJ _ m1 _ (nU sq) h.symm
   ·subst h;exact e (Af TJ sq hg)
theorem lT.keep {T:Nat->Int×Int} {a c:Nat} {bs gs:List Nat} {rows:List (List Nat)} {grown:List (List Int)} {σ bj:Hp} (H:lT T a c bs gs rows grown σ) (fr:Fr No σ bj):lT T a c bs gs rows grown bj:=
 ⟨fr.keep _ _ id H.ra,fr.keep _ _ id H.rc,H.lb,H.lg,H.lr,λi b r h1 h2=>by
  obtain⟨us,e1,e2⟩:=H.row i b r h1 h2;exact⟨us,fr.keep _ _ id e1,(gv T).all e2 (fr.mono λ_ _ h=>h.elim)⟩,λi b r h1 h2=>fr.keep _ _ id (H.M5 i b r h1 h2),H.nd⟩
theorem By{o o':Option AV} (h:eV T M σ v r) (hc:σ[m]? =some (.cell o)):eV T M (σ.set m (.cell o')) v r:=by
 obtain⟨n,e,hm,h1⟩:=h;exact⟨n,e,hm,aM (λq=>by subst q;rw[hc]at h1;cases h1) h1⟩
theorem lT.cell {T:Nat->Int×Int} {a c:Nat} {bs gs:List Nat} {rows:List (List Nat)} {grown:List (List Int)} {σ:Hp} {m:Nat} {o o':Option AV} (H:lT T a c bs gs rows grown σ) (hc:σ[m]? =some (.cell o)):lT T a c bs gs rows grown (σ.set m (.cell o')):=by
 have k:∀{n:Nat} {xs:List AV},σ[n]? =some (.list xs)->(σ.set m (.cell o'))[n]? =some (.list xs):=λh=>aM (λq=>by subst q;rw[hc]at h;cases h) h;exact⟨k H.ra,k H.rc,H.lb,H.lg,H.lr,λi b r h1 h2=>by
  obtain⟨us,e1,e2⟩:=H.row i b r h1 h2;exact⟨us,k e1,e2.imp λ_ _ _ h=>By h hc⟩,λi b r h1 h2=>k (H.M5 i b r h1 h2),H.nd⟩
theorem lT.RK {c:Nat} (H:lT T a c bs gs rows grown σ):∀x∈a::c::bs++gs,x<σ.length:=λx hx=>by
 rw[bG,bG]at hx;rcases aK.mp hx with rfl|hx
 ·exact aN H.ra
 rcases aK.mp hx with rfl|hx
 ·exact aN H.rc
 rcases au.mp hx with h|h
 ·obtain⟨i,hi,e⟩:=hH h;obtain⟨xJ,e',_⟩:=H.row i _ (rows[i]'(by have:=H.lb;omega)) (ay hi) (by simp);rw[<-e];exact aN e'
 ·obtain⟨i,hi,e⟩:=hH h;have e':=H.M5 i _ (grown[i]'(by have:=H.lg;have:=H.lr;omega)) (ay hi) (by simp);rw[<-e];exact aN e'
theorem xQ{l:List α} {x y:α} (h:(l++[x])[i]? =some y):l[i]? =some y\/i=l.length/\y=x:=by
 by_cases hi:i<l.length
 ·rw[cF hi]at h;exact .inl h
 ·have hi2:i<(l++[x]).length:=(bx.mp h).1;rw[af,dG]at hi2;have e:i=l.length:=by omega
  subst e;rw[aY (aJ _),jx]at h;cases h;exact .inr ⟨rfl,rfl⟩
theorem lT.grow {c y:Nat} {w:AV} {turn:Int} (H:lT T a c bs gs rows grown σ) (hw:eV T (jT a c bs gs) σ w y):
  lT T a c (bs++[σ.length]) (gs++[σ.length+1]) (rows++[[y]]) (grown++[[turn]]) ((σ.set a (.list (bs.map .ref++[.ref σ.length]))).set c (.list (gs.map .ref++[.ref (σ.length+1)]))++[.list [w],.list [.int turn]]):=by
 have nd:=H.nd;have RK:=H.RK;have ha:=aN H.ra;have hc:=aN H.rc;have HX:a≠c:=λe=>by rw[bG,bG,bA]at nd;exact nd.1 (by rw[e];exact aj ..)
 have na:∀x,x∈bs\/x∈gs->a≠x/\c≠x:=λx hx=>by
  rw[bG,bG,bA,bA]at nd;have hm:x∈bs++gs:=au.mpr hx;exact⟨λe=>nd.1 (by rw[e];exact ah _ hm),λe=>nd.2.1 (by rw[e];exact hm)⟩
 have fr:Fr (λi=>i=a\/i=c) σ ((σ.set a (.list (bs.map .ref++[.ref σ.length]))).set c (.list (gs.map .ref++[.ref (σ.length+1)]))++[.list [w],.list [.int turn]]):=((Fr.set (F:=λi=>i=a\/i=c) (.inl rfl)).trans (.set (.inr rfl))).trans .app;have YH:Fr (jT a c (bs++[σ.length]) (gs++[σ.length+1])) σ _:=fr.mono λi _ h=>by
  rcases h with h|h
  ·exact .inl h
  ·exact .inr (.inl h)
 have aw:∀i<σ.length,jT a c (bs++[σ.length]) (gs++[σ.length+1]) i->jT a c bs gs i:=λi hi h=>by
  rcases h with h|h|h|h
  ·exact .inl h
  ·exact .inr (.inl h)
  ·rcases au.mp h with h|h
   ·exact .inr (.inr (.inl h))
   ·have:=aA.mp h;omega
  ·rcases au.mp h with h|h
   ·exact .inr (.inr (.inr h))
   ·have:=aA.mp h;omega
 have hL:((σ.set a (.list (bs.map .ref++[.ref σ.length]))).set c (.list (gs.map .ref++[.ref (σ.length+1)]))).length=σ.length:=by rw[aV,aV]
 refine⟨?_, ?_,by simp [H.lb],by simp [H.lg],by simp [H.lr], ?_, ?_, ?_⟩
 ·rw[bq];exact bh (aM (dF HX) (get_set ha))
 ·rw[bq];exact bh (get_set (Aj hc))
 ·intro i b r h1 h2;rcases xQ h1 with h1|⟨e1,e2⟩
  ·have hi:i<rows.length:=by rw[<-H.lb];exact(bx.mp h1).1
   rw[cF hi]at h2;obtain⟨us,e1,e2⟩:=H.row i b r h1 h2;have hn:=na b (.inl (nU h1));exact⟨us,fr.keep _ _ (λh=>h.elim (λh=>hn.1 h.symm) λh=>hn.2 h.symm) e1,(gv T).all ((gv T).iN e2 aw) YH⟩
  ·subst e1 e2;rw[H.lb,aY (aJ _),jx]at h2;cases h2;exact⟨[w],by have h:=dK (σ:=(σ.set a (.list (bs.map .ref++[.ref σ.length]))).set c (.list (gs.map .ref++[.ref (σ.length+1)]))) (τ:=[.list [w],.list [.int turn]]) rfl;rw[hL]at h;exact h,.cons ((gv T).keep ((gv T).away hw aw) YH) .nil⟩
 ·intro i b r h1 h2;rcases xQ h1 with h1|⟨e1,e2⟩
  ·have hi:i<grown.length:=by rw[H.lr,<-H.lg];exact(bx.mp h1).1
   rw[cF hi]at h2;have hn:=na b (.inr (nU h1));exact fr.keep _ _ (λh=>h.elim (λh=>hn.1 h.symm) λh=>hn.2 h.symm) (H.M5 i b r h1 h2)
  ·subst e1 e2;rw[H.lg,<-H.lr,aY (aJ _),jx]at h2;cases h2;have h:=dM (σ:=(σ.set a (.list (bs.map .ref++[.ref σ.length]))).set c (.list (gs.map .ref++[.ref (σ.length+1)]))) (τ:=[.list [w],.list [.int turn]]) (j:=1) rfl;rw[hL]at h;exact h
 ·have hp:(a::c::(bs++[σ.length])++(gs++[σ.length+1])).Perm (σ.length::(σ.length+1)::(a::c::bs++gs)):=by
   refine List.perm_iff_count.mpr λx=> ?_;simp only [List.count_cons,List.count_append,List.count_nil,bG];omega
  rw[hp.nodup_iff,bA,bA];refine⟨λh=> ?_,λh=> ?_,nd⟩
  ·rcases aK.mp h with h|h
   ·omega
   ·have:=RK _ h;omega
  ·have:=RK _ h;omega
section
variable {T:Nat->Int×Int} {sa:Addr} {xs:List Int} {k:Nat} {l:Loc} {σ:Hp} {E:Exc->AS->Prop} {Q:AV->AS->Prop} {n:Nat}
theorem Dy{c:Nat} (H:lT T a c bs gs rows grown σ) {turn:Int} {x:Nat} (hv:eV T (jT a c bs gs) σ v x) (hl:rows.length<20) (hr:∀r∈rows,r.length<20/\∀y∈r,y<7) (Cg:∀g∈grown,g.length<20) (hx:x<7) (hT:∀r s,r<7->s<7->eQ (T r) (T s)=decide (r<s))
  (q:∀bj Ou SH,lT T a c Ou SH (eK turn x rows grown).1 (eK turn x rows grown).2 bj->Fr (λi=>jT a c bs gs i) σ bj->(∀i,jT a c Ou SH i->jT a c bs gs i\/σ.length<=i)->Q .none ⟨l,bj⟩):
  bK ((gj (PP sa xs) 1000 (k+2)).call (.base KW) [.ref a,.ref c,.int turn,v]) Q E ⟨l,σ⟩:=by
 refine w_call rfl (show KW≠mV by decide) (iI ?_);have ra:=H.ra;have rc:=H.rc;have X7:(bs.map AV.ref).length=rows.length:=by rw[aG];exact H.lb
 f_are
 have g0:(σ++[bP.cell (some v),bP.mH 0 ((bs.map AV.ref).length:Nat)])[σ.length]? =some (.cell (some v)):=dK rfl;have Qg:(intsFrom 0 (((bs.map AV.ref).length:Int)-0).toNat).length<1000:=by
  rw[jI,X7];omega
 refine km (P:=fun(rest:List AV) (s:AS)=>∃(bj:Hp) (lc:Loc) (d:Nat) (R1 R2:List (List Nat)) (G1 G2:List (List Int)) (y:Nat) (w:AV),s=AS.mk lc bj/\er lc "rows" (.ref a)/\er lc "grown" (.ref c)/\er lc "turn" (.int turn)/\rest=intsFrom d R2.length/\R1.length=d/\G1.length=d/\bj[σ.length]? =some (.cell (some w))/\eV T (jT a c bs gs) bj w y/\y<7/\
   lT T a c bs gs (R1++R2) (G1++G2) bj/\(∀r∈R2,r.length<20/\∀y∈r,y<7)/\(∀g∈G2,g.length<20)/\(R1++(eK turn y R2 G2).1,G1++(eK turn y R2 G2).2)=eK turn x rows grown/\Fr (λi=>jT a c bs gs i) σ bj) 1000 _ _ _ _ (show Es _ (.mH 0 ((bs.map AV.ref).length:Nat)) _ from rfl) ?_ Qg ?_ ?_
 ·refine⟨_,_,0,[],rows,[],grown,x,v,rfl,rfl,rfl,rfl, ?_,rfl,rfl,dK rfl,(gv T).keep hv .app,hx,H.keep .app,hr,Cg,rfl,.app⟩;rw[X7];rfl
 ·rintro v1 rest l1 dO ⟨bj,lc,d,R1,R2,G1,G2,y,w,e1,hl1,hl2,rI,e2,e3,e4,gC,hw,hy,HT,oj,Cg,e5,fr⟩;cases e1;cases R2 with
  |nil=>cases e2
  |cons r R2=>
   cases e2;have MX:d<bs.length:=by rw[HT.lb,af,e3,aq];omega
   have Qu:d<gs.length:=by rw[HT.lg,af,e3,aq];omega
   have hb:(bs.map AV.ref)[d]? =some (.ref bs[d]):=by simp [MX]
   have hg:(gs.map AV.ref)[d]? =some (.ref gs[d]):=by simp [Qu]
   have XX:=HT.ra;have ML:=HT.rc;obtain⟨us,MK,ph⟩:=HT.row d bs[d] r (ay MX) (by rw[aY (by omega),e3,jx];rfl);obtain⟨aaB,XY⟩:=oj r (aj ..);have EC:=ph.length;have hlen:=fr.len;have Om:=aN MK;f_are
   refine fI hb ?_;f_are
   have DP:A2 (eV T (λi=>i=dO.length\/jT a c bs gs i) (dO++[.list []])) us r:=(gv T).all ((gv T).iN ph λi hi h=>by
    rcases h with h|h
    ·omega
    ·exact h) .app
   refine fJ (jT a c bs gs) (vs:=us) (gv T) eW (acc:=dO.length) (fb:=λo=>if o<y then some 1 else none) ⟨us,bh MK,rfl⟩ (λja f6 o ho=>f6.keep _ _ (show ¬bs[d]=dO.length by omega) ho) DP eM (show us.length<1000 by omega) (by omega) ?_ ?_
   ·rintro v' o ie l3 ws ho _ nW f3 zz DK;have RR:eV T (λi=>i=dO.length\/jT a c bs gs i) ie w y:=(gv T).keep ((gv T).away hw (M':=λi=>i=dO.length\/jT a c bs gs i) λi hi h=>by
     rcases h with h|h
     ·have hi:i<dO.length:=hi;omega
     ·exact h) ((Fr.app.trans f3).mono λ_ _ h=> .inl h)
    have M8:=f3.keep _ _ (show ¬σ.length=dO.length by have:=aN gC;omega) (bh gC);have w1:=vh hT nW RR (XY o ho) hy;f_are
    cases c1:decide (o<y)with
    |false=>
     have hf:¬o<y:=xu c1;f_are
     rw[aC hf];exact⟨.refl,zz⟩
    |true=>
     have hf:o<y:=dE c1;f_are
     rw[aD hf];exact⟨.set rfl,_,rfl,get_set (aN zz)⟩
   ·intro ie l3 ws f3 zz HZ;have DK:ws.length=(cR y r).length:=HZ.length;have Ot:Fr No dO ie:=⟨by have:=f3.len;simp at this;omega,λi o _ h=>f3.keep i o (show ¬i=dO.length by have:=aN h;omega) (bh h)⟩;have Cb:=Ot.keep _ _ id MK;have Sw:=HT.keep Ot;have nZ:=fr.trans (Ot.mono (G:=λi=>jT a c bs gs i) λ_ _ h=>h.elim);have M8:=Ot.keep _ _ id gC;have RR:=(gv T).keep hw (Ot.mono λ_ _ h=>h.elim);have MF:=(gv T).all ph (Ot.mono λ_ _ h=>h.elim);have aaz:=Sw.rc;cases G2 with
    |nil=>have:=HT.lr;rw[aX,af,aq]at this;omega
    |cons g G2=>
     have nd:=HT.nd;have mb:bs[d]∈bs:=bw MX;have mg:gs[d]∈gs:=bw Qu;have Ss:bs[d]≠gs[d]:=(bT.mp nd).2.2 _ (by simp) _ mg;have hcb:c≠bs[d]:=λe=>by rw[bG,bG,bA,bA]at nd;exact nd.2.1 (by rw[e];exact aI _ mb)
     have Jq:=Sw.M5 d gs[d] g (ay Qu) (by rw[aY (by omega),e4,jx];rfl);by_cases hc:(cR y r).length=r.length
     ·have hc2:(PyData.int ↑ws.length).eqv (PyData.int ↑us.length)=true:=by rw[DK,EC,hc];simp [j8]
      f_are
      have hbd:=aN Cb;have hgd:=aN Jq;have MH:us.length<10000:=by omega
      have aa5:(g.map AV.int).length<10000:=by have:=Cg g (by simp);rw[aG];omega
      f_are
      refine fI hg ?_;f_are
      have e6:eK turn x rows grown=((R1++r::R2).set d (r++[y]),(G1++g::G2).set d (g++[turn])):=by
       rw[<-e5,r9 e3,r9 e4,eK,aD hc]
      have fS:Fr (λi=>i=bs[d]\/i=gs[d]) ie ((ie.set bs[d] (.list (us++[w]))).set gs[d] (.list (g.map .int++[.int turn]))):=(Fr.set (F:=λi=>i=bs[d]\/i=gs[d]) (.inl rfl)).trans (.set (.inr rfl));have fM:Fr (λi=>jT a c bs gs i) ie ((ie.set bs[d] (.list (us++[w]))).set gs[d] (.list (g.map .int++[.int turn]))):=fS.mono λi _ h=>by
       rcases h with h|h
       ·subst h;exact .inr (.inr (.inl mb))
       ·subst h;exact .inr (.inr (.inr mg))
      refine q _ bs gs ?_ (nZ.trans fM) λ_ h=> .inl h;rw[e6];exact Sw.upd (by simp;omega) (ay MX) (ay Qu) fS (aM (dF Ss) (get_set hbd)) (((gv T).all MF fM).snoc ((gv T).keep RR fM)) (by rw[bq];exact get_set (Aj hgd))
     ·have hc2:¬(PyData.int ↑ws.length).eqv (PyData.int ↑us.length)=true:=by rw[DK,EC];simp [j8];omega
      have RZ:(cR y r).length<us.length:=by have:=sR y r;omega
      have hbd:=aN Cb;have hu:us[ws.length]? =some us[(cR y r).length]:=by rw[DK];simp [RZ]
      have aaI:ws.length<us.length:=by omega
      have MH:us.length<10000:=by omega
      f_are
      refine fI hu ?_;f_are
      have e6:eK turn y (r::R2) (g::G2)=(r.set (cR y r).length y::(eK turn (r.getD (cR y r).length 0) R2 G2).1,g::(eK turn (r.getD (cR y r).length 0) R2 G2).2):=by
       rw[eK,aC hc]
      have hCb:bs[d]≠σ.length:=λe=>by rw[e,M8]at Cb;cases Cb
      have hCg:gs[d]≠σ.length:=λe=>by rw[e,M8]at Jq;cases Jq
      have hgC:σ.length<ie.length:=aN M8;have fS:Fr (λi=>i=bs[d]\/i=gs[d]) ie (ie.set bs[d] (.list (us.set ws.length w))):= .set (.inl rfl);have fM:Fr (λi=>jT a c bs gs i) ie (ie.set bs[d] (.list (us.set ws.length w))):=fS.mono λi _ h=>by
       rcases h with h|h
       ·subst h;exact .inr (.inr (.inl mb))
       ·subst h;exact .inr (.inr (.inr mg))
      have Yq:=Sw.upd (r':=r.set (cR y r).length y) (g':=g) (by simp;omega) (ay MX) (ay Qu) fS (get_set hbd) (by have h:=((gv T).all MF fM).set ((gv T).keep RR fM) ws.length;rw[<-DK];exact h) (aM Ss Jq);rw[r9 e3,r9 e4]at Yq;have ints_of:=MF.get (v0:= .none) (d0:=0) (cR y r).length (by omega);have hug:us.getD (cR y r).length .none=us[(cR y r).length]:=by simp [RZ]
      rw[hug]at ints_of;have Ko:r.getD (cR y r).length 0∈r:=by rw[aT,ay (by omega)];exact bw _
      have Oq:(ie.set bs[d] (.list (us.set ws.length w)))[σ.length]? =some (.cell (some w)):=aM hCb M8;have EE:∀i o,i<σ.length->¬jT a c bs gs i->σ[i]? =some o->((ie.set bs[d] (.list (us.set ws.length w))).set σ.length (.cell (some us[(cR y r).length])))[i]? =some o:=λi o h1 h2 h3=>aM (by omega) ((nZ.trans fM).keep i o h2 h3);refine⟨⟨_,_,d+1,R1++[r.set (cR y r).length y],R2,G1++[g],G2,r.getD (cR y r).length 0,us[(cR y r).length],rfl,by f_list,by f_list,by f_list, ?_,by simp [e3],by simp [e4],get_set (aN Oq),By ((gv T).keep ints_of fM) Oq,XY _ Ko, ?_,λr' h=>oj r' (ah _ h),λg' h=>Cg g' (ah _ h), ?_,⟨?_,λi o h1 h2=>EE i o (aN h2) h1 h2⟩⟩,trivial⟩
      ·rw[show((d+1:Nat):Int)=(d:Int)+1 by omega]
      ·rw[bc,bc];exact Yq.cell Oq
      ·rw[<-e5,e6,bc,bc];rfl
      ·have:=(nZ.trans fM).len;rw[aV];exact this
 ·rintro s ⟨bj,lc,d,R1,R2,G1,G2,y,w,rfl,hl1,hl2,rI,e2,e3,e4,gC,hw,hy,HT,oj,Cg,e5,fr⟩;cases R2 with
  |cons r R2=>cases e2
  |nil=>
   have XX:=HT.ra;have ML:=HT.rc;have hnd:=HT.nd;cases G2 with
   |cons g G2=>have:=HT.lr;rw[aX,af,aq]at this;omega
   |nil=>
    have HX:a≠c:=λe=>by rw[bG,bG,bA]at hnd;exact hnd.1 (by rw[e];exact aj ..)
    have hb4:bs.length<40:=by have h1:=HT.lb;have h2:=H.lb;omega
    have Yg:gs.length<40:=by have h1:=HT.lg;have h2:=H.lg;have h3:=H.lb;have h4:=HT.lb;omega
    have hb5:(bs.map AV.ref).length<10000:=by rw[aG];omega
    have Yf:(gs.map AV.ref).length<10000:=by rw[aG];omega
    f_are
    have hG:=HT.grow (turn:=turn) hw;have p7:Fr (λi=>jT a c bs gs i) bj ((bj.set a (.list (bs.map .ref++[.ref bj.length]))).set c (.list (gs.map .ref++[.ref (bj.length+1)]))++[.list [w],.list [.int turn]]):=((Fr.set (F:=λi=>jT a c bs gs i) (.inl rfl)).trans (.set (.inr (.inl rfl)))).trans .app;refine q _ (bs++[bj.length]) (gs++[bj.length+1]) ?_ (fr.trans p7) λi h=>by
     have hle:=fr.len;rcases h with h|h|h|h
     ·exact .inl (.inl h)
     ·exact .inl (.inr (.inl h))
     ·rcases au.mp h with h|h
      ·exact .inl (.inr (.inr (.inl h)))
      ·have:=aA.mp h;exact .inr (by omega)
     ·rcases au.mp h with h|h
      ·exact .inl (.inr (.inr (.inr h)))
      ·have:=aA.mp h;exact .inr (by omega)
    rw[<-e5];rw[aX,aX]at hG;exact hG
end
end
section
variable {T:Nat->Int×Int} {sa:Addr} {xs:List Int} {k:Nat} {l:Loc} {σ:Hp} {E:Exc->AS->Prop} {Q:AV->AS->Prop} {n:Nat}
theorem xT{R:Rep α} (dR:Dat R) {key:α->Int} (hN:∀i,N i->i<σ.length) {w:AV} {es:List α} (hv:ic R N σ v ds) (hw:ic R N σ w es) (hl:ds.length+es.length<900)
  (Jt:∀bj,Fr No σ bj->∀v w d e,R N bj v d->R N bj w e->d∈ds++es->e∈ds++es->vH bj v w=some (gY key d e)/\yZ bj v w=some (!gY key d e&& !gY key e d))
  (q:∀v' bj,Fr No σ bj->tL (ic R) (ic R) N bj v' (pD key (ds.length+es.length+1) ds es)->Q v' ⟨l,bj⟩):
  bK ((gj (PP sa xs) 1000 (k+1)).call (.base Nt) [v,w]) Q E ⟨l,σ⟩:=by
 obtain⟨n,vs,rfl,_,h1,h2⟩:=hv;obtain⟨m,ws,rfl,_,h3,h4⟩:=hw;have e1:=h2.length;have e2:=h4.length;have jy:∀{bj:Hp},Fr No σ bj->Fr N σ bj:=λf=>f.mono λ_ _ h=>h.elim;have hcv:∀bj,Fr No σ bj->∀x y,x∈vs++ws->y∈vs++ws->vH bj x y=some ((vH σ x y).getD false)/\yZ bj x y=some (!(vH σ x y).getD false&& !(vH σ y x).getD false):=λbj f x y hx hy=>by
  obtain⟨d,hd,rd⟩:=(h2.append h4).mem hx;obtain⟨e,he,re⟩:=(h2.append h4).mem hy;obtain⟨a1,a2⟩:=Jt bj f x y d e (dR.keep rd (jy f)) (dR.keep re (jy f)) hd he;obtain⟨b1,_⟩:=Jt σ .refl x y d e rd re hd he;obtain⟨c1,_⟩:=Jt σ .refl y x e d re rd he hd;rw[b1,c1,a1,a2];exact⟨rfl,rfl⟩
 refine Fx (c:=λx y=>(vH σ x y).getD false) h1 h3 (by omega) hcv λbj t a b GO f ht ha hb=> ?_;have hA:=wq (R:=λv d=>R N σ v d/\d∈ds++es) (key:=key) (c:=λx y=>(vH σ x y).getD false) (λv w d e ⟨r1,m1⟩ ⟨r2,m2⟩=>by
  rw[(Jt σ .refl v w d e r1 r2 m1 m2).1];rfl) (vs.length+ws.length+1) (h2.imp λ_ _ hd r=>⟨r,aI _ hd⟩) (h4.imp λ_ _ hd r=>⟨r,aW _ hd⟩)
 rw[show ds.length+es.length+1=vs.length+ws.length+1 by omega]at q;refine q _ bj f ⟨t,_,_,rfl,λh=>by have:=hN _ h;omega,ht,⟨a,_,rfl,λh=>by have:=hN _ h;omega,ha,hA.1.imp λ_ _ _ r=>dR.keep r.1 (jy f)⟩,⟨b,_,rfl,λh=>by have:=hN _ h;omega,hb,hA.2.imp λ_ _ _ r=>dR.keep r.1 (jy f)⟩⟩
theorem JP{w:AV} {d e:Int} (hv:isInt M σ v d) (hw:isInt M σ w e):vH σ v w=some (gY id d e)/\yZ σ v w=some (!gY id d e&& !gY id e d):=by
 have hv:v= .int d:=hv;have hw:w= .int e:=hw;subst hv hw;refine⟨rfl, ?_⟩;show some (PyData.eqv (.int d) (.int e))=some (!decide (d<e)&& !decide (e<d));rw[j8];congr 1;by_cases h:d=e
 ·subst h;simp
 ·rcases Int.lt_or_gt_of_ne h with h2|h2
  ·simp [h,h2]
  ·simp [h,h2]
theorem Hc(a b c d:Int):PyData.eqv (.list [.int a,.int b]) (.list [.int c,.int d])=(decide (a=c)&&decide (b=d)):=by
 show(PyData.eqv (.int a) (.int c)&&(PyData.eqv (.int b) (.int d)&&true))=_
 rw[j8,j8,J1]
theorem Ni(hT:∀r s,r<7->s<7->eQ (T r) (T s)=decide (r<s)) {w:AV} {d e:Nat} (hv:eV T M σ v d) (hw:eV T M σ w e) (hd:d<7) (he:e<7):vH σ v w=some (gY Int.ofNat d e)/\yZ σ v w=some (!gY Int.ofNat d e&& !gY Int.ofNat e d):=by
 have l1:∀a b:Nat,gY Int.ofNat a b=decide (a<b):=λa b=>jw.mpr (show(a:Int)<(b:Int)↔a<b by omega);refine⟨by rw[vh hT hv hw hd he,l1], ?_⟩;obtain⟨n,rfl,_,h1⟩:=hv;obtain⟨m,rfl,_,h2⟩:=hw;have e1:toD σ 8 (.ref n)=some (.list [.int (T d).1,.int (T d).2]):=by
  unfold toD;rw[h1];rfl
 have e2:toD σ 8 (.ref m)=some (.list [.int (T e).1,.int (T e).2]):=by
  unfold toD;rw[h2];rfl
 unfold yZ;rw[e1,e2];show some (PyData.eqv _ _)=_;rw[Hc,l1,l1];congr 1;by_cases h:d=e
 ·subst h;simp
 ·have apart_at:T d≠T e:=λq=>by
   have x1:=hT d e hd he;have x2:=hT e d he hd;rw[q]at x1 x2;rw[x1]at x2;have:=jw.mp x2;omega
  have:(decide ((T d).1=(T e).1)&&decide ((T d).2=(T e).2))=false:=by
   rw[OD,ia,ia];by_cases h1:(T d).1=(T e).1
   ·exact .inr λh2=>apart_at (Prod.ext h1 h2)
   ·exact .inl h1
  rw[this];rcases Nat.lt_or_gt_of_ne h with h2|h2
  ·simp [h2]
  ·simp [h2]
end
abbrev Ep (acc:Nat) (N:Nat->Prop):Nat->Prop:=λi=>i=acc\/N i
theorem Gq{dO ie:Hp} (hi:Es σ it vs) (k1:fq σ dO it) (k2:fq σ ie it):fq dO ie it:=by
 cases it with
 |list n i=>intro o ho;obtain⟨xs,hx,_⟩:=hi;have:=k1 _ hx;rw[ho]at this;cases this;exact k2 _ hx
 |tup n i=>intro o ho;obtain⟨xs,hx,_⟩:=hi;have:=k1 _ hx;rw[ho]at this;cases this;exact k2 _ hx
 |jz n i a b=>intro o ho;obtain⟨xs,hx,_⟩:=hi;have:=k1 _ hx;rw[ho]at this;cases this;exact k2 _ hx
 |gy n i a b=>intro o ho;obtain⟨xs,hx,_⟩:=hi;have:=k1 _ hx;rw[ho]at this;cases this;exact k2 _ hx
 |mH a b=>trivial
 |obj n=>trivial
theorem vW(N:Nat->Prop) {Bh:Rep α} {n8:Rep β} (KS:Dat Bh) {acc:Nat} {fb:α->List β} {assign:AV->PM Unit} {ifs:PM Bool} {body:PM Unit} {Q:Unit->AS->Prop} {E:Exc->AS->Prop} {OT:List AV} {Ng:List β}
  (hi:Es σ it vs) (AH:∀bj,Fr (· =acc) σ bj->fq σ bj it) (wY:A2 (Bh (Ep acc N) σ) vs ds) (ha:σ[acc]? =some (.list OT)) (ha0:A2 (n8 (Ep acc N) σ) OT Ng) (hl:vs.length<fuel)
  (step:∀v d d1 d2 dO l1 us,ds=d1++d::d2->Bh (Ep acc N) dO v d->Fr (· =acc) σ dO->dO[acc]? =some (.list us)->A2 (n8 (Ep acc N) dO) us (Ng++(d1.map fb).flatten)->
   bK (assign v) (λ_ s1=>bK ifs (λb s2=>bK (if b=true then body else PM.pure ()) (λ_ s3=>Fr (· =acc) dO s3.hp/\∃xJ,s3.hp[acc]? =some (.list xJ)/\A2 (n8 (Ep acc N) s3.hp) xJ (Ng++(d1.map fb).flatten++fb d)) E s2) E s1) E ⟨l1,dO⟩)
  (q:∀bj l' ws,Fr (· =acc) σ bj->bj[acc]? =some (.list ws)->A2 (n8 (Ep acc N) bj) ws (Ng++(ds.map fb).flatten)->Q () ⟨l',bj⟩):bK (compLoop fuel assign ifs body it) Q E ⟨l,σ⟩:=by
 refine qw (P:=λrest st=>∃(d1 d2:List α) (ws:List AV),ds=d1++d2/\A2 (Bh (Ep acc N) st.hp) rest d2/\Fr (· =acc) σ st.hp/\st.hp[acc]? =some (.list ws)/\A2 (n8 (Ep acc N) st.hp) ws (Ng++(d1.map fb).flatten)) fuel vs it l σ hi ⟨[],ds,OT,rfl,wY,.refl,ha,by simpa using ha0⟩ hl ?_ ?_
 ·rintro v rest l1 dO ⟨d1,d2,ws,rfl,h1,h2,h3,h5⟩;cases h1 with
  |cons hd h1=>
   rename_i d d2;refine cL (step v d d1 d2 dO l1 ws rfl hd h2 h3 h5) (λ_ s1 h=> ?_) λ_ _ e=>e;refine cL h (λb s2 h=> ?_) λ_ _ e=>e;refine cL h (λ_ s3 h=> ?_) λ_ _ e=>e;obtain⟨h6,xJ,h7,h8⟩:=h;have h6:Fr (· =acc) dO s3.hp:=h6;exact⟨⟨d1++[d],d2,xJ,by simp,KS.all h1 (h6.mono λ_ _ h=> .inl h),h2.trans h6,h7,by simpa using h8⟩,Gq hi (AH _ h2) (AH _ (h2.trans h6))⟩
 ·rintro⟨l1,dO⟩ ⟨d1,d2,ws,e,h1,h2,h3,h5⟩;cases h1;rw[aX]at e;subst e;exact q dO l1 ws h2 h3 h5
section
def fT:fU->(Int×Nat)×fU
 |[]=>((0,0),[])
 |p::r=>r.foldl (λst pt=>(pt,st.2++[(pt.1,st.1.2)])) (p,[])
structure nG where
 lows:List Nat
 firsts:List Int
 things:List Nat
 turns:List Int
 left:List Nat×List Nat
 later:List Int×List Int
def IA {α:Type} (key:α->Int) (as bs:List α):List α×List α:=pD key (as.length+bs.length+1) as bs
def yq (bH:fU) (ls:List fU):nG where
 lows:=ls.map λl=>(fT l).1.2
 firsts:=ls.map λl=>(l.headD (0,0)).1
 things:=cD (gY Int.ofNat) (bH.map (·.2))
 turns:=cD (gY id) (bH.map (·.1))
 left:=IA Int.ofNat (cD (gY Int.ofNat) (bH.map (·.2))) (cD (gY Int.ofNat) ((ls.map λl=>(fT l).1.2)++ls.map λl=>(fT l).1.2))
 later:=IA id (cD (gY id) (bH.map (·.1))) (cD (gY id) ((ls.map λl=>(l.headD (0,0)).1)++ls.map λl=>(l.headD (0,0)).1))
def jH (ls:List fU):fU:=(ls.map λl=>(fT l).2).flatten
structure Bi (bH:fU) (gs:List (List Int)):Prop where
 len:bH.length<=7
 th:∀p∈bH,p.2<7
 nd:(bH.map (·.1)).Nodup
 turns:∃st,oB bH (fK bH bH,gu (fK bH bH)) gs st/\st.2=[]
 gl:gs.length<=7
 g:∀g∈gs,g≠[]/\g.length<=7/\(∀t∈g,∃r,(t,r)∈bH)/\∀a∈g,∀b∈g,cu bH a=cu bH b->a=b
inductive Passes:Nat->fU->List nG->Prop
 |nil {bH:fU}:Passes 0 bH []
 |idle {n:Nat} {ps:List nG} (h:Passes n [] ps):Passes (n+1) [] ps
 |go {n:Nat} {bH:fU} {gs:List (List Int)} {ps:List nG} (ne:bH≠[]) (ok:Bi bH gs) (h:Passes n (jH (cZ bH gs)) ps):Passes (n+1) bH (yq bH (cZ bH gs)::ps)
def nz (a:Int):Nat->List Int
 |0=>[]
 |n+1=>a::nz (a+1) n
theorem ints_map:∀(n:Nat) (a:Int),intsFrom a n=(nz a n).map .int
 |0,_=>rfl
 |n+1,a=>by unfold intsFrom nz;rw[aS,ints_map n]
theorem yD:∀(n:Nat) (a:Int),(nz a n).length=n
 |0,_=>rfl
 |n+1,a=>by unfold nz;rw[aq,yD n]
theorem pQ{i:Int}:∀{n:Nat} {a:Int},i∈nz a n->a<=i/\i<a+n
 |0,_,h=>(nomatch h)
 |n+1,a,h=>by
  unfold nz at h;rcases aK.mp h with rfl|h
  ·omega
  ·have:=pQ h;omega
def fm (ws:List Nat):fU:=(nz 0 ws.length).map λi=>(i,ws.getD i.toNat 0)
section
variable (T:Nat->Int×Int)
def ny:Rep nG:=λM σ v d=>∃n a b c d' e f,v= .ref n/\¬M n/\σ[n]? =some (.tuple [a,b,c,d',e,f])/\ic (eV T) M σ a d.lows/\ic isInt M σ b d.firsts/\ic (eV T) M σ c d.things/\ic isInt M σ d' d.turns/\tL (ic (eV T)) (ic (eV T)) M σ e d.left/\tL (ic isInt) (ic isInt) M σ f d.later
theorem qc:Dat (ny T):=
 have h1:=dL (gv T);have h2:=dL eW;have h3:=EP h1 h1;have h4:=EP h2 h2
 ⟨λ⟨n,a,b,c,d,e,f,g,m,o,q1,q2,q3,q4,q5,q6⟩ x=>⟨n,a,b,c,d,e,f,g,m,x.keep _ _ m o,h1.keep q1 x,h2.keep q2 x,h1.keep q3 x,h2.keep q4 x,h3.keep q5 x,h4.keep q6 x⟩,
  λ⟨n,a,b,c,d,e,f,g,m,o,q1,q2,q3,q4,q5,q6⟩ x=>⟨n,a,b,c,d,e,f,g,λh=>m (x n (aN o) h),o,h1.away q1 x,h2.away q2 x,h1.away q3 x,h2.away q4 x,h3.away q5 x,h4.away q6 x⟩,
  λ⟨n,a,b,c,d,e,f,g,m,o,q1,q2,q3,q4,q5,q6⟩ x=>⟨n,a,b,c,d,e,f,g,m,x _ _ o (λ_ _ q=>by cases q),h1.Ea q1 x,h2.Ea q2 x,h1.Ea q3 x,h2.Ea q4 x,h3.Ea q5 x,h4.Ea q6 x⟩⟩
end
theorem A0{O:bP} (h:τ[j]? =some o):(σ.set n O++τ)[σ.length+j]? =some o:=by
 have:=dM (σ:=σ.set n O) h;rw[aV]at this;exact this
theorem w4{O:bP} (h:τ[0]? =some o):(σ.set n O++τ)[σ.length]? =some o:=A0 (j:=0) h
theorem tY{O:bP} (h:M n):Fr M σ (σ.set n O++τ):=(Fr.set h).trans .app
theorem lC(hn:σ.length<=n) (f:Fr (· =n) (σ++τ) bj):Fr No σ bj:=
 ⟨by have:=f.len;rw[af]at this;omega,λi o _ h=>f.keep i o (show ¬i=n by have:=aN h;omega) (bh h)⟩
theorem Cq{ρ:Hp}:Fr M (σ++τ) (σ++(τ++ρ)):=by rw[<-bc];exact .app
theorem yV(xs:List α):(xs.map λx=>[x]).flatten=xs:=by
 induction xs with
 |nil=>rfl
 |cons a xs ih=>rw[aS,bl,ih];rfl
theorem qO{α β:Type} {f:α->List β} {n:Nat}:∀{xs:List α},(∀x∈xs,(f x).length<=n)->(xs.map f).flatten.length<=n*xs.length
 |[],_=>bW _
 |a::xs,h=>by
  have:=qO (f:=f) (n:=n) (xs:=xs) λx hx=>h x (ah _ hx);have:=h a (aj ..);rw[aS,bl,af,aq,ND];omega
theorem tC(f:α->β) (xs:List α):xs.filterMap (λx=>some (f x))=xs.map f:=by rw[<-la];rfl
theorem sf{gs:List (List Int)} (ok:Bi bH gs):∀d∈cZ bH gs,d≠[]/\d.length<=7/\∀x∈d,x∈bH:=λd hd=>by
 obtain⟨g,hg,rfl⟩:=aR.mp hd;obtain⟨h1,h2,h3,_⟩:=ok.g g hg;have hl:(cD (gY λt=> -(cu bH t:Int)) g).length=g.length:=cw.length_eq;refine⟨λe=>h1 ?_,by rw[aG,hl];exact h2,λx hx=> ?_⟩
 ·have:=dg List.length e;rw[aG,hl]at this;exact j2.mp this
 ·obtain⟨t,ht,rfl⟩:=aR.mp hx;obtain⟨r,hr⟩:=h3 t (il.mp ht);rw[jG ok.nd hr];exact hr
theorem vV(p x:Int×Nat) (r:fU):fT (p::(r++[x]))=(x,(fT (p::r)).2++[(x.1,(fT (p::r)).1.2)]):=by
 unfold fT;dsimp only;rw[fA];rfl
theorem y2:∀(r:fU) (p:Int×Nat),(fT (p::r)).1∈p::r:=λr p=>by
 suffices h:∀(r:fU) (st:(Int×Nat)×fU),(r.foldl (λst pt=>(pt,st.2++[(pt.1,st.1.2)])) st).1∈st.1::r from h r (p,[])
 intro r;induction r with
 |nil=>intro st;exact aj ..
 |cons a r ih=>intro st;rw[iP];exact ah _ (ih _)
theorem y3:∀(r:fU) (p:Int×Nat),(fT (p::r)).2.length=r.length:=λr p=>by
 suffices h:∀(r:fU) (st:(Int×Nat)×fU),(r.foldl (λst pt=>(pt,st.2++[(pt.1,st.1.2)])) st).2.length=st.2.length+r.length by
  have:=h r (p,[]);unfold fT;dsimp only;rw[this];simp
 intro r;induction r with
 |nil=>intro st;rfl
 |cons a r ih=>intro st;rw[iP,ih];simp;omega
theorem DH{p c d:Nat} {e f:AV} {ds:List AV} {P:nG} (h1:ic (eV T) (· =p) σ (.ref a) P.lows) (h2:ic isInt (· =p) σ (.ref b) P.firsts) (h3:ic (eV T) (· =p) σ (.ref c) P.things) (h4:ic isInt (· =p) σ (.ref d) P.turns)
  (h5:tL (ic (eV T)) (ic (eV T)) (· =p) σ e P.left) (h6:tL (ic isInt) (ic isInt) (· =p) σ f P.later) (gP:σ[p]? =some (.list ds)):ny T (Ep (σ.length+1) (· =p)) (σ.set p (.list (ds++[.ref σ.length]))++[.tuple [.ref a,.ref b,.ref c,.ref d,e,f],.list []]) (.ref σ.length) P:=
 have fr:Fr (Ep (σ.length+1) (· =p)) σ (σ.set p (.list (ds++[.ref σ.length]))++[.tuple [.ref a,.ref b,.ref c,.ref d,e,f],.list []]):=tY (.inr rfl);have aw:∀i<σ.length,Ep (σ.length+1) (· =p) i->i=p:=λi hi h=>h.elim (λh=>by omega) id;have hp:=aN gP;have q1:=dL (gv T);have q2:=dL eW
 ⟨σ.length,_,_,_,_,_,_,rfl,λh=>h.elim (λh=>by omega) (λh=>by have h:σ.length=p:=h;omega),w4 rfl,q1.keep (q1.away h1 aw) fr,q2.keep (q2.away h2 aw) fr,q1.keep (q1.away h3 aw) fr,q2.keep (q2.away h4 aw) fr,(EP q1 q1).keep ((EP q1 q1).away h5 aw) fr,(EP q2 q2).keep ((EP q2 q2).away h6 aw) fr⟩
seal PM.bind PM.pure PM.obj PM.cm PM.alloc PM.ey PM.gd PM.within PM.sure PM.attempt PM.hp PM.b8 PM.stuck PM.raise forLoop whileLoop compLoop dj dC sortBy gj bK cX eY cg bM mm fC dn ll jZ
abbrev CA:Addr:=193
section
variable {T:Nat->Int×Int} {sa:Addr} {xs:List Int} {k:Nat} {l:Loc} {σ:Hp} {E:Exc->AS->Prop} {Q:AV->AS->Prop} {n:Nat}
set_option maxHeartbeats 4000000 in
theorem yp(hT:∀r s,r<7->s<7->eQ (T r) (T s)=decide (r<s)) {ws:List Nat} {ps:List nG} (hv:ic (eV T) No σ v ws) (hl:ws.length<=7) (h7:∀w∈ws,w<7) (hp:Passes ws.length (fm ws) ps)
  (q:∀v bj,Fr No σ bj->ic (ny T) No bj v ps->Q v ⟨l,bj⟩):
  bK ((gj (PP sa xs) 1000 (k+7)).call (.base CA) [v]) Q E ⟨l,σ⟩:=by
 have RU:=hv;obtain⟨n,vs,rfl,_,h1,h2⟩:=hv;refine w_call rfl (show CA≠mV by decide) (iI ?_);have Jd:=h2.length;f_are
 refine fJ No (vs:=intsFrom 0 vs.length) (ds:=nz 0 ws.length) eW (lE T) (acc:=σ.length+2) (fb:=λi=>some (i,ws.getD i.toNat 0)) rfl (λ_ _=>trivial) (by rw[ints_map,Jd];exact j7.mpr rfl) (dM (j:=2) rfl) (by rw[jI];show vs.length<1000;omega) (by rw[jI];omega) ?_ ?_
 ·rintro v' i cI l2 us hi nW DM f2 ph EC;have DM:v'= .int i:=DM;subst DM;obtain⟨i0,i1⟩:=pQ hi;have gC:=f2.keep _ _ (show ¬σ.length=σ.length+2 by omega) (dK rfl);have Yx:=f2.keep _ _ (show ¬n=σ.length+2 by have:=aN h1;omega) (bh h1);have hit:vs[i.toNat]? =some (vs.getD i.toNat .none):=by
   rw[aT,ay (show i.toNat<vs.length by omega)];rfl
  obtain⟨j,rfl⟩:∃j:Nat,i=(j:Int):=⟨i.toNat,by omega⟩;rw[eH]at hit;f_are
  refine fI hit ?_;f_are
  have lB:=aN ph;have ED:=(h2.get (v0:= .none) (d0:=0) j (by omega));have DX:Fr (λi=>i=σ.length+2\/No i) σ (cI.set (σ.length+2) (.list (us++[.ref cI.length]))++[.list [.int j,vs.getD j .none]]):=((Fr.app (τ:=[.cell (some (.ref n)),.mH 0 vs.length,.list []])).trans (f2.mono λ_ _ h=> .inl h)).trans (tY (.inl rfl));refine⟨tY rfl,.ref cI.length,⟨cI.length,_,_,rfl,λh=>h.elim (λh=>by omega) id,w4 rfl,rfl, ?_⟩,bh (get_set lB)⟩;rw[eH];exact(gv T).keep ((gv T).away ED λi hi h=>h.elim (λh=>by omega) id) DX
 ·intro cI l2 us f2 ph AY;have gC:=f2.keep _ _ (show ¬σ.length=σ.length+2 by omega) (dK rfl);have Yx:=f2.keep _ _ (show ¬n=σ.length+2 by have:=aN h1;omega) (bh h1);have Oo:=aN ph;f_are
  have HZ:A2 (lO T (· =cI.length) (cI++[.list [],.mH 0 vs.length])) us (fm ws):=by
   have e:fm ws=(nz 0 ws.length).filterMap λi=>some (i,ws.getD i.toNat 0):=by
    unfold fm;rw[<-la];rfl
   rw[e];exact(lE T).all ((lE T).iN AY λi hi h=>by have h:i=cI.length:=h;omega) .app
  refine km (P:=fun(rest:List AV) (s:AS)=>∃(bj:Hp) (lc:Loc) (v:AV) (bH:fU) (pd pr:List nG) (ds:List AV),s=AS.mk lc bj/\er lc "points" v/\er lc "passes" (.ref cI.length)/\ic (lO T) (· =cI.length) bj v bH/\Passes rest.length bH pr/\ps=pd++pr/\pd.length+rest.length<=ws.length/\bj[cI.length]? =some (.list ds)/\A2 (ny T (· =cI.length) bj) ds pd/\Fr (· =cI.length) (cI++[.list [],.mH 0 vs.length]) bj) 1000 (intsFrom 0 vs.length) _ _ _ rfl ?_ (by rw[jI];omega) ?_ ?_
  ·exact⟨_,_,_,fm ws,[],ps,[],rfl,rfl,rfl,⟨_,us,rfl,by show ¬σ.length+2=cI.length;omega,bh ph,HZ⟩,by rw[jI,Jd];exact hp,rfl,by rw[jI,Jd];simp,dK rfl,.nil,.refl⟩
  ·rintro v1 rest l1 dO ⟨bj,lc,v,bH,pd,pr,ds,e1,hl1,hl2,hv,hP,e2,e3,gP,wY,fr⟩;cases e1;have hv2:=hv;obtain⟨m,Ez,rfl,hm,g1,a1⟩:=hv;cases hP with
   |idle hP=>
    cases a1;f_are
    refine⟨⟨_,_,_,[],pd,pr,ds,rfl,by f_list,by f_list,hv2,hP,e2,by rw[aq]at e3;omega,gP,wY,fr⟩,trivial⟩
   |go ne ok hP=>
    rename_i gs pr;obtain⟨st,ht,he⟩:=ok.turns;have apart_at:(!Ez.isEmpty)=true:=by
     cases Ez with
     |nil=>cases a1;exact absurd rfl ne
     |cons a b=>rfl
    have hN:∀i,i=cI.length->i<dO.length:=λi h=>by have:=aN gP;omega
    f_are
    refine Ar hT hN hv2 ok.len ok.th ok.nd ht he ok.gl (λg hg=>(ok.g g hg).2) λv3 ie f3 UI=> ?_;obtain⟨ml,ls,rfl,Se,gL,aL⟩:=UI;have Sf:=aL.length;have hlp:(cZ bH gs).length=gs.length:=aG ..;have Cg:=ok.gl;f_are
    have pW:∀{NP NN:Hp},Fr No NP NN->Fr (· =cI.length) NP NN:=λf=>f.mono λ_ _ h=>h.elim;refine fJ (· =cI.length) (vs:=ls) (ds:=cZ bH gs) (dL (lE T)) (iA T) (acc:=ie.length) (fb:=λl=>some (fT l)) ⟨ls,bh gL,rfl⟩ (λja f6 o ho=>f6.keep _ _ (show ¬ml=ie.length by have:=aN gL;omega) ho) ((dL (lE T)).all ((dL (lE T)).iN aL λi hi h=>by
      rcases h with h|h
      ·have:=f3.len;have h:i=ie.length:=h;omega
      ·exact h) .app) (dK rfl) (show ls.length<1000 by omega) (by omega) ?_ ?_
    ·rintro v' d jv l4 NV hd nW Jd f4 AG EC;obtain⟨mi,li,rfl,hmi,gi,ai⟩:=Jd;obtain⟨Nh,dl,dm⟩:=sf ok d hd;cases ai with
     |nil=>exact absurd rfl Nh
     |cons ax ai=>
     rename_i x0 p0 lr r0;have hlr:=ai.length;have hs1:ll (x0::lr) (.int 1) .none .none=some lr:=mh (x0::lr) 1;f_are
     refine fI (i:=0) (v:=x0) rfl ?_;f_are
     have Ys:∀(j i:Nat),i=ie.length\/i=cI.length->i<jv.length+j:=λj i h=>by
      have:=aN AG;have:=f3.len;have:=aN gP;rcases h with h|h<;>omega
     have YD:∀j,¬(jv.length+j=ie.length\/jv.length+j=cI.length):=λj h=>by have:=Ys j _ h;omega
     refine Dg (vs:=lr) (R:=λdd v Zn=>mr T (λi=>i=ie.length\/i=cI.length) Zn v (fT (p0::r0.take dd.length))) (dM (j:=1) rfl) ⟨_,dM (j:=3) rfl⟩ (by rw[aq]at dl;omega) (λdd v NP NN h r=>(iA T).Ea r h) ?_ ?_ ?_
     ·exact⟨_,_,_,rfl,YD 3,dM (j:=3) rfl,(lE T).keep ax .app,_,_,rfl,YD 2,dM (j:=2) rfl,.nil⟩
     ·intro dd x rr v ja l6 ev f6 hst;have hi:dd.length<r0.length:=by rw[<-hlr,ev,af,aq];omega
      have hx:=ai.get (v0:= .none) (d0:=(0,0)) dd.length hi;have e1:lr.getD dd.length .none=x:=by rw[ev];simp
      have e2:r0.getD dd.length (0,0)=r0[dd.length]:=by simp [hi]
      rw[e1,e2]at hx;have YW:Fr (λi=>i=ie.length\/i=cI.length) jv ja:=(Fr.app.trans f6).mono λ_ _ h=>h.elim;rw[aq]at dl;refine y6 (N:=λi=>i=ie.length\/i=cI.length) (λi h=>Xe (Ys 0 i h) YW.len) hst ((lE T).keep hx YW) (by rw[y3,List.length_take];omega) λv7 qt f7 h7=>⟨rfl,f7, ?_⟩;rw[af,dG,List.take_succ_eq_append_getElem hi,vV];exact h7
     ·intro v7 qt f7 h7;have DN:=f7.keep _ _ id (bh AG);f_are
      rw[hlr,qW (aJ _)]at h7;exact⟨((Fr.app.trans f7).mono λ_ _ h=>h.elim).trans (.set rfl),v7,(iA T).keep h7 (.set (.inl rfl)),get_set (aN DN)⟩
    ·intro jv l4 NV f4 AG JA;have MG:=JA.length;have Wl:Fr (· =cI.length) dO jv:=pW (f3.trans ⟨by have:=f4.len;simp at this;omega,λi o _ h=>f4.keep i o (show ¬i=ie.length by have:=aN h;omega) (bh h)⟩);have eE:(cZ bH gs).filterMap (λl=>some (fT l))=(cZ bH gs).map fT:=by rw[<-la];rfl
     rw[eE]at JA MG;rw[aG]at MG;have JA:A2 (mr T (· =cI.length) jv) NV ((cZ bH gs).map fT):=(iA T).iN JA λ_ _ h=> .inr h;have h32:cI.length<ie.length:=by have:=f3.len;have:=aN gP;omega
     have h34:=aN AG;f_are
     refine fJ (· =cI.length) (vs:=NV) (ds:=(cZ bH gs).map fT) (iA T) (gv T) (acc:=jv.length) (fb:=λe=>some e.1.2) ⟨NV,bh AG,rfl⟩ (λja f6 o ho=>f6.keep _ _ (show ¬ie.length=jv.length by omega) ho) ((iA T).all ((iA T).iN JA λi hi h=>h.elim (λh=>by omega) id) .app) (dK rfl) (show NV.length<1000 by omega) (by omega) ?_ ?_
     ·rintro v' d ib l5 Xp hd nW ⟨n1,a1,b1,rfl,hn1,g1,⟨n2,a2,b2,rfl,hn2,g2,e4,t2⟩,t3⟩ f5 Gw aan;f_are
      refine fI (i:=0) (v:= .ref n2) rfl ?_;f_are
      refine fI (i:=1) (v:=b2) rfl ?_;f_are
      exact⟨.set rfl,b2,(gv T).keep t2 (.set (.inl rfl)),get_set (aN Gw)⟩
     ·intro ib l5 Xp f5 Gw SF;rw[tC,eD]at SF;have F5:=pW (lC (aJ _) f5);have gP:=(lC (aJ _) f5).keep _ _ id ((lC (aJ _) f4).keep _ _ id (f3.keep _ _ id gP));have h45:=aN Gw;have D1:=(dL (lE T)).keep hv2 (Wl.trans F5);have D2:ic (ic (lO T)) (· =cI.length) ib (.ref ml) (cZ bH gs):=(dL (dL (lE T))).keep ⟨ml,ls,rfl,Se,gL,aL⟩ ((pW (lC (aJ _) f4)).trans F5);have D3:ic (mr T) (· =cI.length) ib (.ref ie.length) ((cZ bH gs).map fT):=(dL (iA T)).keep ⟨ie.length,NV,rfl,by show ¬ie.length=cI.length;omega,AG,JA⟩ F5;have D4:ic (eV T) (· =cI.length) ib (.ref jv.length) ((cZ bH gs).map λl=>(fT l).1.2):=⟨jv.length,Xp,rfl,by show ¬jv.length=cI.length;omega,Gw,(gv T).iN SF λ_ _ h=> .inr h⟩;have F15:=Wl.trans F5;clear SF F5 f5;obtain⟨_,RL,e,_,M7,SW⟩:=D2;cases e;have vQ:=SW.length;f_are
      refine fJ (· =cI.length) (vs:=RL) (ds:=cZ bH gs) (dL (lE T)) eW (acc:=ib.length) (fb:=λl=>some (l.headD (0,0)).1) ⟨RL,bh M7,rfl⟩ (λja f6 o ho=>f6.keep _ _ (show ¬ml=ib.length by have:=aN M7;omega) ho) ((dL (lE T)).all ((dL (lE T)).iN SW λi hi h=>h.elim (λh=>by omega) id) .app) (dK rfl) (show RL.length<1000 by omega) (by omega) ?_ ?_
      ·rintro v' d ja l6 HM hd nW ⟨mi,li,rfl,hmi,gi,ai⟩ f6 wU aam;obtain⟨Nh,dl,dm⟩:=sf ok d hd;cases ai with
       |nil=>exact absurd rfl Nh
       |cons ax ai=>
        obtain⟨n1,a1,b1,rfl,hn1,g1,e1,t1⟩:=ax;f_are
        refine fI (i:=0) (v:= .ref n1) rfl ?_;f_are
        refine fI (i:=0) (v:=a1) rfl ?_;f_are
        exact⟨.set rfl,a1,e1,get_set (aN wU)⟩
      ·intro ja l6 HM f6 wU Jz;rw[tC]at Jz;have F6:=pW (lC (aJ _) f6);have gP:=(lC (aJ _) f6).keep _ _ id gP;have h56:=aN wU;have D2:ic (ic (lO T)) (· =cI.length) ib (.ref ml) (cZ bH gs):=⟨ml,RL,rfl,Se,M7,SW⟩;have D1:=(dL (lE T)).keep D1 F6;have D2:=(dL (dL (lE T))).keep D2 F6;have D3:=(dL (iA T)).keep D3 F6;have D4:=(dL (gv T)).keep D4 F6;have D5:ic isInt (· =cI.length) ja (.ref ib.length) ((cZ bH gs).map λl=>(l.headD (0,0)).1):=⟨ib.length,HM,rfl,by show ¬ib.length=cI.length;omega,wU,eW.iN Jz λ_ _ h=> .inr h⟩;have F16:=F15.trans F6;clear Jz F6 f6;obtain⟨_,Ez,e,_,g1,a1⟩:=D1;cases e;have hl1:=a1.length;have hok:=ok.len;f_are
       refine fJ (· =cI.length) (vs:=Ez) (ds:=bH) (lE T) (gv T) (acc:=ja.length) (fb:=λp=>some p.2) ⟨Ez,bh g1,rfl⟩ (λja f6 o ho=>f6.keep _ _ (show ¬_=_ by have:=aN g1;omega) ho) ((lE T).all ((lE T).iN a1 λi hi h=>h.elim (λh=>by omega) id) .app) (dK rfl) (show Ez.length<1000 by omega) (by omega) ?_ ?_
       ·rintro v' d qt l7 NU hd nW ⟨n1,a1,b1,rfl,hn1,g1,e1,t1⟩ f7 DN aal;have e1:a1= .int d.1:=e1;subst e1;f_are
        exact⟨.set rfl,b1,(gv T).keep t1 (.set (.inl rfl)),get_set (aN DN)⟩
       ·intro qt l7 NU f7 DN HY;rw[tC]at HY;have HY:A2 (eV T (· =cI.length) qt) NU (bH.map (·.2)):=(gv T).iN HY λ_ _ h=> .inr h;have F7:=pW (lC (aJ _) f7);have gP:=(lC (aJ _) f7).keep _ _ id gP;have h67:=aN DN;have D1:ic (lO T) (· =cI.length) ja (.ref m) bH:=⟨m,Ez,rfl,hm,g1,a1⟩;have D1:=(dL (lE T)).keep D1 F7;have D3:=(dL (iA T)).keep D3 F7;have D4:=(dL (gv T)).keep D4 F7;have D5:=(dL eW).keep D5 F7;have F17:=F16.trans F7;clear F7 f7;obtain⟨_,Ez,e,_,g1,a1⟩:=D1;cases e;have hl1:=a1.length;have hm1:=aN g1;f_are
        refine kU hT HY (λr hr=>by obtain⟨p,hp,rfl⟩:=aR.mp hr;exact ok.th p hp) (by rw[aG];omega) λys tP=> ?_;have h27:cI.length<qt.length:=by omega
        clear JA HZ AY AG Gw wU ph f4 Wl f3 SW M7 aL gL MG h34 h45 h56 h32 HY RU h2 h1 gC Yx f2 DN Sf vQ hlp Oo h67;f_are
        refine fJ (· =cI.length) (vs:=Ez) (ds:=bH) (lE T) eW (acc:=qt.length+1) (fb:=λp=>some p.1) ⟨Ez,bh g1,rfl⟩ (λja f6 o ho=>f6.keep _ _ (show ¬m=qt.length+1 by omega) ho) ((lE T).all ((lE T).iN a1 λi hi h=>h.elim (λh=>by omega) id) .app) (dM (j:=1) rfl) (show Ez.length<1000 by omega) (by omega) ?_ ?_
        ·rintro v' d J3 l8 Xo hd nW ⟨n1,a1,b1,rfl,hn1,g1,e1,t1⟩ f8 ME aak;f_are
         exact⟨.set rfl,a1,e1,get_set (aN ME)⟩
        ·intro J3 l8 Xo f8 ME SE;rw[tC]at SE;have SE:A2 (isInt (· =cI.length) J3) Xo (bH.map (·.1)):=eW.iN SE λ_ _ h=> .inr h;have F8:=pW (lC (j1 _) f8);have gP:=(lC (j1 _) f8).keep _ _ id gP;have h78:=aN ME;have D1:ic (lO T) (· =cI.length) qt (.ref m) bH:=⟨m,Ez,rfl,hm,g1,a1⟩;have D1:=(dL (lE T)).keep D1 F8;have D3:=(dL (iA T)).keep D3 F8;have D4:=(dL (gv T)).keep D4 F8;have D5:=(dL eW).keep D5 F8;have D6:ic (eV T) (· =cI.length) J3 (.ref qt.length) (cD (gY Int.ofNat) (bH.map (·.2))):=⟨qt.length,ys,rfl,by show ¬qt.length=cI.length;omega,f8.keep _ _ (show ¬qt.length=qt.length+1 by omega) (dK rfl),(gv T).all tP F8⟩;have F18:=F17.trans F8;clear F8 f8;f_are
         refine nQ SE (by rw[aG];omega) λzs RP=> ?_;obtain⟨_,lo,e,UK,g4,a4⟩:=D4;cases e;obtain⟨_,fi,e,yM,g5,a5⟩:=D5;cases e;have AQ:=a4.length;have vQ:=a5.length;rw[aG]at AQ vQ;have Sf:(cZ bH gs).length=gs.length:=aG ..;have aaQ:0<=(2:Int)/\(2:Int)<10/\lo.length<1000:=⟨by decide,by decide,by omega⟩;have aa7:0<=(2:Int)/\(2:Int)<10/\fi.length<1000:=⟨by decide,by decide,by omega⟩;have EE:∀us:List AV,IJ us 2=us++us:=λus=>by unfold IJ;simp
         have Pr:∀r∈(cZ bH gs).map λl=>(fT l).1.2,r<7:=λr hr=>by
          obtain⟨d,hd,rfl⟩:=aR.mp hr;obtain⟨Nh,_,dm⟩:=sf ok d hd;cases d with
          |nil=>exact absurd rfl Nh
          |cons p0 r0=>exact ok.th _ (dm _ (y2 r0 p0))
         have h38:cI.length<J3.length:=by omega
         f_are
         rw[EE lo];refine kU hT (M:=(· =cI.length)) (((gv T).all a4 .app).append ((gv T).all a4 .app)) (λr hr=>Pr r (by simpa using hr)) (by rw[af,aG];omega) λXk PJ=> ?_;f_are
         have D7:ic isInt (· =cI.length) (J3++[.list zs,.list (lo++lo),.list Xk]) (.ref J3.length) (cD (gY id) (bH.map (·.1))):=⟨_,zs,rfl,λh=>by omega,dK rfl,eW.all RP .app⟩;refine xT (gv T) (key:=Int.ofNat) (N:=(· =cI.length)) (λi h=>by rw[af];omega) ((dL (gv T)).keep D6 .app) ⟨_,Xk,rfl,λh=>by omega,dM (j:=2) rfl,(gv T).all PJ (Cq (ρ:=[_]))⟩ ?_ (λbj f v w d e r1 r2 m1 m2=> ?_) λv9 NQ f9 h9=> ?_
         ·have e1:(cD (gY Int.ofNat) (bH.map (·.2))).length=bH.length:=by rw[cw.length_eq,aG]
          have e2:∀us:List Nat,(cD (gY Int.ofNat) us).length=us.length:=λus=>cw.length_eq;rw[e1,e2,af,aG];omega
         ·have hm:∀d,d∈cD (gY Int.ofNat) (bH.map (·.2))++cD (gY Int.ofNat) ((cZ bH gs).map (λl=>(fT l).1.2)++(cZ bH gs).map λl=>(fT l).1.2)->d<7:=λd hd=>by
           rcases au.mp hd with h|h
           ·obtain⟨p,hp,rfl⟩:=aR.mp (il.mp h);exact ok.th p hp
           ·exact Pr d (by simpa using il.mp h)
          exact Ni hT r1 r2 (hm _ m1) (hm _ m2)
         ·have F9:=pW (Fr.app.trans f9);have gP:=(Fr.app.trans f9).keep _ _ id gP;have D1:=(dL (lE T)).keep D1 F9;have D3:=(dL (iA T)).keep D3 F9;have D4:ic (eV T) (· =cI.length) NQ (.ref jv.length) ((cZ bH gs).map λl=>(fT l).1.2):=(dL (gv T)).keep ⟨_,lo,rfl,UK,g4,a4⟩ F9;have D6:=(dL (gv T)).keep D6 F9;have D7:=(dL eW).keep D7 (pW f9);have F19:=F18.trans F9;have g5:=(Fr.app.trans f9).keep _ _ id g5;have a5:=eW.all a5 F9;have h39:cI.length<NQ.length:=aN gP;clear F9 f9 g4 a4 tP PJ RP;f_are
          rw[EE fi];refine nQ (M:=(· =cI.length)) ((eW.all a5 .app).append (eW.all a5 .app)) (by rw[af,aG];omega) λZu PH=> ?_;f_are
          refine xT eW (key:=id) (N:=(· =cI.length)) (λi h=>by rw[af];omega) ((dL eW).keep D7 .app) ⟨_,Zu,rfl,λh=>by omega,dM (j:=1) rfl,eW.all PH (Cq (ρ:=[_]))⟩ ?_ (λbj f v w d e r1 r2 m1 m2=>JP r1 r2) λv10 n6 G9 Ia=> ?_
          ·have e1:(cD (gY id) (bH.map (·.1))).length=bH.length:=by rw[cw.length_eq,aG]
           have e2:∀us:List Int,(cD (gY id) us).length=us.length:=λus=>cw.length_eq;rw[e1,e2,af,aG];omega
          ·have JW:=pW (Fr.app.trans G9);have gP:=(Fr.app.trans G9).keep _ _ id gP;have D1:=(dL (lE T)).keep D1 JW;have D3:=(dL (iA T)).keep D3 JW;have D4:=(dL (gv T)).keep D4 JW;have D5:ic isInt (· =cI.length) n6 (.ref ib.length) ((cZ bH gs).map λl=>(l.headD (0,0)).1):=(dL eW).keep ⟨_,fi,rfl,yM,g5,a5⟩ JW;have D6:=(dL (gv T)).keep D6 JW;have D7:=(dL eW).keep D7 JW;have h9:=(EP (dL (gv T)) (dL (gv T))).keep h9 JW;have Nx:=F19.trans JW;have abY:cI.length<n6.length:=aN gP;have hdl:=wY.length;rw[aq]at e3;obtain⟨_,Th,e,HR,gE,aE⟩:=D3;cases e;have MH:=aE.length;rw[aG]at MH;clear JW G9 g5 a5 PH;have h3l:=aN gE;f_are
           have Vl:=DH (P:=yq bH (cZ bH gs)) D4 D5 D6 D7 h9 Ia gP;have QP:Fr (· =cI.length) n6 (n6.set cI.length (.list (ds++[.ref n6.length]))++[.tuple [.ref jv.length,.ref ib.length,.ref qt.length,.ref J3.length,v9,v10],.list []]):=tY rfl;refine vW (· =cI.length) (Bh:=mr T) (n8:=lO T) (iA T) (acc:=n6.length+1) (fb:=λe=>e.2) (vs:=Th) (OT:=[]) (Ng:=[]) (ds:=(cZ bH gs).map fT) ⟨Th,bh (aM (by omega) gE),rfl⟩ (λja f6 o ho=>f6.keep _ _ (show ¬ie.length=n6.length+1 by omega) ho) ((iA T).all ((iA T).iN aE λi hi h=>h.elim (λh=>by omega) id) (QP.mono λi hi h=> .inr h)) (A0 (j:=1) rfl) .nil (show Th.length<1000 by omega) ?_ ?_
           ·rintro v' d d1 d2 OG Z6 LD MV ⟨n1,a1,b1,rfl,hn1,g1,t1,⟨n2,Ey,rfl,hn2,g2,t2⟩⟩ JI Gy JB;have hn2:¬n2=n6.length+1:=λh=>hn2 (.inl h);have hl2:=t2.length;have hsz:d.2.length<=7/\(d1.map λe=>e.2).flatten.length<=49:=by
             have tV:∀e∈(cZ bH gs).map fT,e.2.length<=7:=λe he=>by
              obtain⟨dd,hd,rfl⟩:=aR.mp he;obtain⟨Nh,dl,dm⟩:=sf ok dd hd;cases dd with
              |nil=>exact absurd rfl Nh
              |cons p0 r0=>rw[y3];rw[aq]at dl;omega
             refine⟨tV d (by rw[MV];simp), ?_⟩;have hd1:d1.length<=7:=by
              have:=dg List.length MV;rw[aG,Sf,af,aq]at this;omega
             have:(d1.map λe=>e.2).flatten.length<=7*d1.length:=qO λe he=>tV e (by rw[MV];exact aI _ he);omega
            f_are
            refine fI (i:=1) (v:= .ref n2) rfl ?_;f_are
            refine vW (· =cI.length) (Bh:=lO T) (n8:=lO T) (lE T) (acc:=n6.length+1) (fb:=λp=>[p]) (vs:=Ey) (OT:=LD) (Ng:=[]++(d1.map λe=>e.2).flatten) (ds:=d.2) ⟨Ey,g2,rfl⟩ (λja f6 o ho=>f6.keep _ _ hn2 ho) t2 Gy JB (show Ey.length<1000 by omega) ?_ ?_
            ·intro v3 p e1 e2 Ta Z5 LC U4 Uv SN Gx GX;have EC:LC.length<10000:=by
              have h1:=GX.length;have h2:=dg List.length U4;rw[yV,eN,af]at h1;rw[af,aq]at h2;omega
             f_are
             exact⟨.set rfl,_,get_set (aN Gx),((lE T).all GX (.set (.inl rfl))).snoc ((lE T).keep Uv (.set (.inl rfl)))⟩
            ·intro Ta Z5 LC SN Gx GX;rw[yV]at GX;exact⟨SN,LC,Gx,GX⟩
           ·intro OG Z6 LD JI Gy JB;f_are
            have fM:Fr (Ep (n6.length+1) (· =cI.length)) n6 OG:=(QP.mono λ_ _ h=> .inr h).trans (JI.mono λ_ _ h=> .inl h);have aw:∀i<n6.length,Ep (n6.length+1) (· =cI.length) i->i=cI.length:=λi hi h=>h.elim (λh=>by omega) id;have gP2:=JI.keep _ _ (show ¬cI.length=n6.length+1 by omega) (bh (get_set (aN gP)));refine⟨⟨_,_,_,jH (cZ bH gs),pd++[yq bH (cZ bH gs)],pr,_,rfl,by f_list,by f_list,⟨_,LD,rfl,by show ¬n6.length+1=cI.length;omega,Gy, ?_⟩,hP,by rw[e2];simp,by rw[af,dG];omega,gP2, ?_, ?_⟩,trivial⟩
            ·rw[eN,eD]at JB;exact(lE T).iN JB λ_ _ h=> .inr h
            ·exact(qc T).iN (((qc T).all ((qc T).iN ((qc T).all wY Nx) aw) fM).snoc ((qc T).keep Vl (JI.mono λ_ _ h=> .inl h))) λ_ _ h=> .inr h
            ·have aaS:(cI++[bP.list [],bP.mH 0 ↑vs.length]).length<=n6.length:=cy fr.len Nx.len;exact fr.trans (Nx.trans ⟨fM.len,λi o h1 h2=>fM.keep i o (λh=>h.elim (λh=>by have:=aN h2;omega) h1) h2⟩)
  ·rintro s ⟨bj,lc,v,bH,pd,pr,ds,rfl,hl1,hl2,hv,hP,e2,e3,gP,wY,fr⟩;cases hP;rw[aX]at e2;subst e2;f_are
   refine q _ bj ⟨by have:=fr.len;have:=f2.len;simp only [af,aq,bO]at*;omega,λi o _ h=>fr.keep i o (show ¬i=cI.length by have:=aN h;have:=f2.len;simp only [af,aq,bO]at this;omega) (bh (f2.keep i o (show ¬i=σ.length+2 by have:=aN h;omega) (bh h)))⟩ ⟨_,ds,rfl,id,gP,(qc T).iN wY λ_ _ h=>h.elim⟩
end
end
def sE:List Int:=[4,1,6,2,4,1,3]
def LA (xs:List Int) (i:Nat):Int:=sE.getD i 0+(jY xs (some (i:Int)) none (some 7)).foldl (· + ·) 0
theorem Dm(f:α->β) (xs:List α) (a b c:Option Int):jY (xs.map f) a b c=(jY xs a b c).map f:=by
 unfold jY;rw[aG,List.map_filterMap];congr 1
 funext i
 rw[cx]
theorem vp:∀(is:List Int) (a:Int),CW (is.map .int) a=some (is.foldl (· + ·) a)
 |[],_=>rfl
 |i::is,a=>by rw[aS,iP];exact vp is (a+i)
structure SY (m n:Nat) (rows:List (List Nat)) (grown:List (List Int)):Prop where
 a:rows.length<=m
 b:∀r∈rows,r.length<=n/\∀y∈r,y<7
 c:∀g∈grown,g.length<=n
theorem B6{turn:Int} {n:Nat}:∀{m:Nat} {rows:List (List Nat)} {grown:List (List Int)} {x:Nat},SY m n rows grown->x<7->SY (m+1) (n+1) (eK turn x rows grown).1 (eK turn x rows grown).2
 |m,[],grown,x,H,hx=>by
  have e:eK turn x [] grown=([]++[[x]],grown++[[turn]]):=by unfold eK;rfl
  rw[e];refine⟨by simp,λr hr=> ?_,λg hg=> ?_⟩
  ·have hr:r=[x]:=by simpa using hr
   subst hr;exact⟨by simp,λy hy=>by rw[show y=x by simpa using hy];exact hx⟩
  ·rcases au.mp hg with h|h
   ·have:=H.c g h;omega
   ·have h:g=[turn]:=by simpa using h
    subst h;simp
 |m,row::rows,[],x,H,hx=>by
  have e:eK turn x (row::rows) []=((row::rows)++[[x]],[]++[[turn]]):=by unfold eK;rfl
  rw[e];refine⟨by have:=H.a;rw[af,dG];omega,λr hr=> ?_,λg hg=> ?_⟩
  ·rcases au.mp hr with h|h
   ·have:=H.b r h;exact⟨by omega,this.2⟩
   ·have hr:r=[x]:=by simpa using h
    subst hr;exact⟨by simp,λy hy=>by rw[show y=x by simpa using hy];exact hx⟩
  ·have h:g=[turn]:=by simpa using hg
   subst h;simp
 |m,row::rows,g::grown,x,H,hx=>by
  have hr:=H.b row (aj ..);have hg:=H.c g (aj ..);by_cases hc:(cR x row).length=row.length
  ·rw[eK,aD hc];refine⟨by have:=H.a;simp only [aq]at*;omega,λr h=> ?_,λg' h=> ?_⟩
   ·rcases aK.mp h with rfl|h
    ·refine⟨by rw[af,dG];omega,λy hy=> ?_⟩;rcases au.mp hy with h|h
     ·exact hr.2 y h
     ·have:y=x:=by simpa using h
      omega
    ·have:=H.b r (ah _ h);exact⟨by omega,this.2⟩
   ·rcases aK.mp h with rfl|h
    ·rw[af,dG];omega
    ·have:=H.c g' (ah _ h);omega
  ·rw[eK,aC hc];have f_tup:(cR x row).length<row.length:=by have:=sR x row;omega
   have hm:row.getD (cR x row).length 0<7:=hr.2 _ (by rw[aT,ay f_tup];exact bw _);have hm1:rows.length+1<=m:=H.a;have H':SY (m-1) n rows grown:=⟨by omega,λr h=>H.b r (ah _ h),λg h=>H.c g (ah _ h)⟩;have I:=B6 (turn:=turn) H' hm;refine⟨?_,λr h=> ?_,λg' h=> ?_⟩
   ·have:=I.a;show _+1<=_;omega
   ·rcases aK.mp h with rfl|h
    ·refine⟨by rw[aV];omega,λy hy=> ?_⟩;rcases List.mem_or_eq_of_mem_set hy with h|h
     ·exact hr.2 y h
     ·omega
    ·exact I.b r h
   ·rcases aK.mp h with rfl|h
    ·omega
    ·exact I.c g' h
section
def jh (ws:List Nat):List (List Nat)×List (List Int):=(nz 0 ws.length).foldl (λst i=>eK i (ws.getD i.toNat 0) st.1 st.2) ([],[])
def pA (rows:List (List Nat)) (grown:List (List Int)) (d:Nat):nG where
 lows:=rows.getD d []
 firsts:=grown.getD d []
 things:=cD (gY Int.ofNat) (rows.drop d).flatten
 turns:=cD (gY id) (grown.drop d).flatten
 left:=(cD (gY Int.ofNat) (rows.drop (d+1)).flatten,[])
 later:=(cD (gY id) (grown.drop (d+1)).flatten,[])
theorem tN:∀(ws pre:List Nat),(nz pre.length ws.length).map (λi=>(pre++ws).getD i.toNat 0)=ws
 |[],_=>rfl
 |w::ws,pre=>by
  have ih:=tN ws (pre++[w]);rw[af,dG,bc]at ih;show _::(nz ((pre.length:Int)+1) ws.length).map _=_;congr 1;show(pre++w::ws).getD ((pre.length:Int)).toNat 0=w
  rw[eH,aT,aY (aJ _),jx];rfl
theorem Bm{α:Type} {R:AV->α->Prop}:∀{vs:List AV} {ds:List α},vs.length=ds.length->(∀(i:Nat) v d,vs[i]? =some v->ds[i]? =some d->R v d)->A2 R vs ds
 |[],[],_,_=> .nil
 |v::vs,d::ds,h,q=> .cons (q 0 v d rfl rfl) (Bm (Nat.succ.inj h) λi v d a b=>q (i+1) v d a b)
theorem lT.Pj {c:Nat} (H:lT T a c bs gs rows grown σ):ic (ic (eV T)) No σ (.ref a) rows/\ic (ic isInt) No σ (.ref c) grown:=by
 refine⟨⟨a,_,rfl,id,H.ra,Bm (by rw[aG];exact H.lb) λi v d h1 h2=> ?_⟩,⟨c,_,rfl,id,H.rc,Bm (by rw[aG,H.lg,H.lr]) λi v d h1 h2=> ?_⟩⟩
 ·rw[cx]at h1;cases e:bs[i]? with
  |none=>rw[e]at h1;cases h1
  |some b=>
   rw[e]at h1;cases h1;obtain⟨us,e1,e2⟩:=H.row i b d e h2;exact⟨b,us,rfl,id,e1,(gv T).iN e2 λ_ _ h=>h.elim⟩
 ·rw[cx]at h1;cases e:gs[i]? with
  |none=>rw[e]at h1;cases h1
  |some b=>
   rw[e]at h1;cases h1;exact⟨b,_,rfl,id,H.M5 i b d e h2,j7.mpr rfl⟩
theorem wo(xs:List Int) (j:Nat):ll (xs.map .int) (.int j) .none (.int 7)=some ((jY xs (some (j:Int)) none (some 7)).map .int):=by
 show some (jY (xs.map AV.int) (some (j:Int)) none (some 7))=_;rw[Dm]
theorem z9{sa:Addr} {xs:List Int} {k:Nat} {E:Exc->AS->Prop} {st:AS} (q:Q (xs.map .int) st):bK (yj (Ck sa xs k).P (.base sa)) Q E st:=by
 have h:yj (Ck sa xs k).P (.base sa)=PM.pure (xs.map .int):=by
  show(if sa=sa then PM.pure (xs.map AV.int)else _)=_
  rw[aD rfl]
 rw[h];exact q
theorem AB{p:Nat} {a b c d e f:AV} {ds:List AV} {P:nG} (h1:ic (eV T) (· =p) σ a P.lows) (h2:ic isInt (· =p) σ b P.firsts) (h3:ic (eV T) (· =p) σ c P.things) (h4:ic isInt (· =p) σ d P.turns)
  (h5:tL (ic (eV T)) (ic (eV T)) (· =p) σ e P.left) (h6:tL (ic isInt) (ic isInt) (· =p) σ f P.later) (gP:σ[p]? =some (.list ds)):ny T (· =p) (σ.set p (.list (ds++[.ref σ.length]))++[.tuple [a,b,c,d,e,f]]) (.ref σ.length) P:=
 have fr:Fr (· =p) σ (σ.set p (.list (ds++[.ref σ.length]))++[.tuple [a,b,c,d,e,f]]):=tY rfl;have hp:=aN gP;have q1:=dL (gv T);have q2:=dL eW
 ⟨σ.length,_,_,_,_,_,_,rfl,λh=>by have h:σ.length=p:=h;omega,w4 rfl,q1.keep h1 fr,q2.keep h2 fr,q1.keep h3 fr,q2.keep h4 fr,(EP q1 q1).keep h5 fr,(EP q2 q2).keep h6 fr⟩
theorem Cr{xs:List (List α)} (h:∀r∈xs,r.length<=n):xs.flatten.length<=n*xs.length:=by
 have:=qO (f:=id) (xs:=xs) h
 rwa [List.map_id]at this
theorem Pl(T:Nat->Int×Int):HB (ny T) (λd=> .tuple [.list (d.lows.map λr=> .list [.int (T r).1,.int (T r).2]),.list (d.firsts.map .int),.list (d.things.map λr=> .list [.int (T r).1,.int (T r).2]),.list (d.turns.map .int),
  .tuple [.list (d.left.1.map λr=> .list [.int (T r).1,.int (T r).2]),.list (d.left.2.map λr=> .list [.int (T r).1,.int (T r).2])],.tuple [.list (d.later.1.map .int),.list (d.later.2.map .int)]]) 4:=
 have p1:=pL (ZV (T:=T));have p2:=pL TA;have p3:=XE p1 p1;have p4:=XE p2 p2
 ⟨λ⟨n,a,b,c,d',e,f,q0,_,h0,q1,q2,q3,q4,q5,q6⟩ j hj=>by
  subst q0;cases j with
  |zero=>omega
  |succ j=>
   unfold toD;rw[h0];dsimp only;simp only [rR];rw[p1.to q1 j (by omega),p2.to q2 j (by omega),p1.to q3 j (by omega),p2.to q4 j (by omega),p3.to q5 j (by omega),p4.to q6 j (by omega)];rfl,λd=>by
  show((PyData.canLay0 _)&&((PyData.canLay0 _)&&((PyData.canLay0 _)&&((PyData.canLay0 _)&&((PyData.canLay0 _)&&((PyData.canLay0 _)&&true))))))=true
  rw[p1.lay d.lows,p2.lay d.firsts,p1.lay d.things,p2.lay d.turns,p3.lay d.left,p4.lay d.later]
  rfl⟩
seal PM.bind PM.pure PM.obj PM.cm PM.alloc PM.ey PM.gd PM.within PM.sure PM.attempt PM.hp PM.b8 PM.stuck PM.raise forLoop whileLoop compLoop dj dC sortBy gj bK cX eY cg bM mm fC dn ll jZ
section
variable {T:Nat->Int×Int} {sa:Addr} {xs:List Int} {σ:Hp}
set_option maxHeartbeats 4000000 in
theorem IW(hT:∀r s,r<7->s<7->eQ (T r) (T s)=decide (r<s)) {ws:List Nat} (zz:ws.length=7) (h7:∀w∈ws,w<7) (hW:∀i<7,T (ws.getD i 0)=(LA xs i,(i:Int)))
  (hp:Passes 7 (fm ws) ((List.range (jh ws).1.length).map λd=>pA (jh ws).1 (jh ws).2 d)):
  bK (cX ⟨iL sa xs,gj (iL sa xs) 1000 12,1000,0⟩ tG [] [.base sa]) (λv _=>v= .bool true) (λ_ _=>False) ⟨[],σ⟩:=by
 show bK (cX (Ck sa xs 12) tG [] [.base sa]) _ _ _;refine iI ?_;f_are
 refine fJ No (vs:=intsFrom 0 7) (ds:=nz 0 7) eW (gv T) (acc:=σ.length+4) (fb:=λi=>some (ws.getD i.toNat 0)) rfl (λ_ _=>trivial) (j7.mpr rfl) (dM (j:=4) rfl) (show 7<1000 by decide) (show 7<9000 by decide) ?_ ?_
 ·rintro v' i cI l2 us hi nW DM f2 ph EC;have DM:v'= .int i:=DM;subst DM;obtain⟨i0,i1⟩:=pQ hi;obtain⟨j,rfl⟩:∃j:Nat,i=(j:Int):=⟨i.toNat,by omega⟩;have hj:j<7:=by omega
  have gC:=f2.keep _ _ (show ¬σ.length=σ.length+4 by omega) (dK rfl);have gD:=f2.keep _ _ (show ¬σ.length+1=σ.length+4 by omega) (dM (j:=1) rfl);have gS:=f2.keep _ _ (show ¬σ.length+2=σ.length+4 by omega) (dM (j:=2) rfl);have hit:(sE.map AV.int)[j]? =some (.int (sE.getD j 0)):=by
   rw[cx,aT,ay (show j<sE.length from hj)];rfl
  have hsl:=wo xs j;f_are
  refine fI (ys:=sE.map AV.int) hit ?_;f_are
  refine z9 ?_;f_are
  refine Q4 (dM (j:=1) rfl) (vp _ 0) ?_;f_are
  refine⟨tY rfl,.ref (cI.length+2),⟨_,rfl,λh=>h.elim (λh=>by have:=aN ph;omega) id, ?_⟩,bh (get_set (aN ph))⟩;rw[eH,hW j hj];exact A0 (j:=2) rfl
 ·intro cI l2 us f2 ph AY;have AY:A2 (eV T No cI) us ws:=by
   rw[tC]at AY;have e:=tN ws [];rw[zz]at e;rw[show(nz 0 7).map (λi=>ws.getD i.toNat 0)=ws from e]at AY
   exact(gv T).iN AY λ_ _ h=>h.elim
  have EC:=AY.length;f_are
  refine km (P:=fun(rest:List AV) (s:AS)=>∃(bj:Hp) (lc:Loc) (d m:Nat) (rows:List (List Nat)) (grown:List (List Int)) (bs gs:List Nat),s=AS.mk lc bj/\er lc "word" (.ref (σ.length+4))/\er lc "rows" (.ref cI.length)/\er lc "grown" (.ref (cI.length+1))/\rest=intsFrom d m/\d+m=7/\lT T cI.length (cI.length+1) bs gs rows grown bj/\SY d d rows grown/\
    (nz d m).foldl (λst i=>eK i (ws.getD i.toNat 0) st.1 st.2) (rows,grown)=jh ws/\Fr No cI bj/\∀i,jT cI.length (cI.length+1) bs gs i->cI.length<=i) 1000 (intsFrom 0 7) _ _ _ rfl ?_ (show 7<1000 by decide) ?_ ?_
  ·refine⟨_,_,0,7,[],[],[],[],rfl,rfl,rfl,rfl,rfl,rfl,⟨dK rfl,dM (j:=1) rfl,rfl,rfl,rfl,λi b r h=>by simp at h,λi b r h=>by simp at h, ?_⟩,⟨aJ _,λ_ h=>(nomatch h),λ_ h=>(nomatch h)⟩,by unfold jh;rw[zz];rfl,.app,λi h=> ?_⟩
   ·show[cI.length,cI.length+1].Nodup
    simp
   ·rcases h with h|h|h|h
    ·omega
    ·omega
    ·cases h
    ·cases h
  ·rintro v1 rest l1 dO ⟨bj,lc,d,m,rows,grown,bs,gs,e1,hl1,hl2,rI,e2,e3,HT,ok,e4,fr,GO⟩;cases e1;cases m with
   |zero=>cases e2
   |succ m=>
    cases e2;have hd:d<7:=by omega
    have hit:us[d]? =some (us.getD d .none):=by
     rw[aT,ay (show d<us.length by omega)];rfl
    have aai:=fr.keep _ _ id ph;have hx:=AY.get (v0:= .none) (d0:=0) d (by omega);have XO:ws.getD d 0∈ws:=by rw[aT,ay (show d<ws.length by omega)];exact bw _
    have xB:eV T (jT cI.length (cI.length+1) bs gs) dO (us.getD d .none) (ws.getD d 0):=(gv T).keep ((gv T).away hx (M':=jT cI.length (cI.length+1) bs gs) λi hi h=>by have:=GO i h;omega) (fr.mono λ_ _ h=>h.elim);f_are
    refine fI hit ?_;f_are
    refine Dy HT xB (eT ok.a (by omega)) (λr hr=>⟨eT (ok.b r hr).1 (by omega),(ok.b r hr).2⟩) (λg hg=>eT (ok.c g hg) (by omega)) (h7 _ XO) hT λie Ou SH HT3 f3 DT=> ?_;f_are
    have hle:=fr.len;refine⟨⟨_,_,d+1,m,_,_,Ou,SH,rfl,by f_list,by f_list,by f_list,rfl,by omega,HT3,B6 ok (h7 _ XO), ?_,⟨cy hle f3.len,λi o _ h=>f3.keep i o (λq=>by have:=GO i q;have:=aN h;omega) (fr.keep i o id h)⟩,λi h=> ?_⟩,trivial⟩
    ·rw[<-e4];rfl
    ·rcases DT i h with h|h
     ·exact GO i h
     ·omega
  ·rintro s ⟨bj,lc,d,m,rows,grown,bs,gs,rfl,hl1,hl2,rI,e2,e3,HT,ok,e4,fr,GO⟩;cases m with
   |succ m=>cases e2
   |zero=>
    have hd:d=7:=by omega
    subst hd;have e4:(rows,grown)=jh ws:=e4;rw[<-e4]at hp;obtain⟨DR,DG⟩:=HT.Pj;have DW:ic (eV T) No bj (.ref (σ.length+4)) ws:=(dL (gv T)).keep ⟨_,us,rfl,id,ph,AY⟩ fr;have XX:=HT.ra;have hbl:(bs.map AV.ref).length=rows.length:=by rw[aG];exact HT.lb
    have abm:=ok.a;have XU:=HT.lr;have aaj:=fr.keep _ _ id ph;f_are
    have fR:∀dd,(rows.drop dd).flatten.length<64:=λdd=>by
     have:=Cr (n:=7) (xs:=rows.drop dd) λr hr=>(ok.b r (gI hr)).1;rw[d7]at this;omega
    have fG:∀dd,(grown.drop dd).flatten.length<64:=λdd=>by
     have:=Cr (n:=7) (xs:=grown.drop dd) λr hr=>ok.c r (gI hr);rw[d7]at this;omega
    have mR:∀dd,∀r∈(rows.drop dd).flatten,r<7:=λdd r hr=>by
     obtain⟨row,h1,h2⟩:=Bn.mp hr;exact(ok.b row (gI h1)).2 r h2
    have jy:∀{NP NN:Hp},Fr No NP NN->Fr (· =bj.length) NP NN:=λf=>f.mono λ_ _ h=>h.elim;have XZ:∀i,i=bj.length->i<(bj++[bP.list [],.mH 0 (bs.map AV.ref).length]).length:=λi h=>by rw[af];simp;omega
    have aw:∀i<bj.length,i=bj.length->No i:=λi h e=>by omega
    refine km (P:=fun(rest:List AV) (s:AS)=>∃(jv:Hp) (lc:Loc) (d m:Nat) (ds:List AV),s=AS.mk lc jv/\er lc "word" (.ref (σ.length+4))/\er lc "rows" (.ref cI.length)/\er lc "grown" (.ref (cI.length+1))/\er lc "wanted" (.ref bj.length)/\rest=intsFrom d m/\d+m=rows.length/\
      jv[bj.length]? =some (.list ds)/\A2 (ny T (· =bj.length) jv) ds ((List.range d).map (pA rows grown))/\Fr (· =bj.length) (bj++[.list [],.mH 0 (bs.map AV.ref).length]) jv) 1000 (intsFrom 0 (bs.map AV.ref).length) _ _ _ rfl ?_ (by rw[jI];show _<1000;omega) ?_ ?_
    ·exact⟨_,_,0,rows.length,[],rfl,by f_list,by f_list,by f_list,by f_list,by rw[hbl];rfl,by omega,dK rfl,.nil,.refl⟩
    ·rintro v1 rest l1 dO ⟨jv,lc,d,m,ds,e1,hl1,hl2,rI,AQ,e2,e3,gP,wY,rV⟩;cases e1;cases m with
     |zero=>cases e2
     |succ m=>
      cases e2;have FF:Fr (· =bj.length) bj dO:=Fr.app.trans rV;have Rm:=(dL (dL (gv T))).keep ((dL (dL (gv T))).away DR aw) FF;have W4:=(dL (dL eW)).keep ((dL (dL eW)).away DG aw) FF;have h4:bj.length<dO.length:=aN gP;have hN1:∀i,i=bj.length->i<dO.length:=λi h=>by omega
      have e9:(d:Int)+1=((d+1:Nat):Int):=rfl;f_are
      rw[e9];have gt:∀(h:Hp) (j:Nat),h.length≥dO.length->¬h.length+j=bj.length:=λh j q=>by omega
      refine nY (gv T) (N:=(· =bj.length)) (d:=d+1) (res:=cD (gY Int.ofNat) (rows.drop (d+1)).flatten) hN1 Rm (by omega) (λr hr=>by have:=(ok.b r hr).1;omega) (λNU qt l7 hA f7=>kU hT hA (mR _) (fR _) λys hy=>⟨rfl,hy⟩) λv5 ib f5 h5=> ?_;have vQ:=f5.len;f_are
      rw[e9];have K5:Fr (· =bj.length) ib (ib++[.list [],.tuple [v5,.ref ib.length]]):= .app;have F5:=(jy f5).trans K5;have DR5:=(dL (dL (gv T))).keep Rm F5;have DG5:=(dL (dL eW)).keep W4 F5;have L5:tL (ic (eV T)) (ic (eV T)) (· =bj.length) (ib++[.list [],.tuple [v5,.ref ib.length]]) (.ref (ib.length+1)) (cD (gY Int.ofNat) (rows.drop (d+1)).flatten,[]):=
       ⟨_,v5,.ref ib.length,rfl,gt ib 1 vQ,dM (j:=1) rfl,(dL (gv T)).keep h5 K5,⟨_,[],rfl,gt ib 0 vQ,dK rfl,.nil⟩⟩
      refine nY eW (N:=(· =bj.length)) (d:=d+1) (res:=cD (gY id) (grown.drop (d+1)).flatten) (λi h=>by rw[af];omega) DG5 (by omega) (λr hr=>by have:=ok.c r hr;omega) (λNU qt l7 hA f7=>nQ hA (fG _) λys hy=>⟨rfl,hy⟩) λv6 ja f6 h6=> ?_;have GL:=f6.len;rw[af]at GL;have GL:dO.length<=ja.length:=by omega
      have K6:Fr (· =bj.length) ja (ja++[.list [],.tuple [v6,.ref ja.length]]):= .app;have F6:=F5.trans ((jy f6).trans K6);have ab4:=(f5.trans (.trans .app f6)).keep _ _ id gP;have gP6:=((f5.trans .app).trans (f6.trans (.app (τ:=[.list [],.tuple [v6,.ref ja.length]])))).keep _ _ id gP;have DR6:=(dL (dL (gv T))).keep Rm F6;have DG6:=(dL (dL eW)).keep W4 F6;have L6:=(EP (dL (gv T)) (dL (gv T))).keep L5 ((jy f6).trans K6);have M6:tL (ic isInt) (ic isInt) (· =bj.length) (ja++[.list [],.tuple [v6,.ref ja.length]]) (.ref (ja.length+1)) (cD (gY id) (grown.drop (d+1)).flatten,[]):=
       ⟨_,v6,.ref ja.length,rfl,gt ja 1 GL,dM (j:=1) rfl,(dL eW).keep h6 K6,⟨_,[],rfl,gt ja 0 GL,dK rfl,.nil⟩⟩
      have DR7:=(dL (dL (gv T))).keep ((dL (dL (gv T))).keep Rm (F5.trans (jy f6))) K6;have W2:=(dL (dL (gv T))).keep Rm (F5.trans (jy f6));have W3:=(dL (dL eW)).keep W4 (F5.trans (jy f6));obtain⟨_,vr,e,rH,gr,ar⟩:=W2;cases e;obtain⟨_,vg,e,U1,gg,ag⟩:=W3;cases e;have hd:d<rows.length:=by omega
      have hir:vr[d]? =some (vr.getD d .none):=by
       rw[aT,ay (show d<vr.length by rw[ar.length];exact hd)];rfl
      have hig:vg[d]? =some (vg.getD d .none):=by
       rw[aT,ay (show d<vg.length by rw[ag.length,XU];exact hd)];rfl
      have xr:=ar.get (v0:= .none) (d0:=[]) d hd;have xg:=ag.get (v0:= .none) (d0:=[]) d (by rw[XU];exact hd);f_are
      refine fI hir ?_;f_are
      refine fI hig ?_;f_are
      refine nY (gv T) (N:=(· =bj.length)) (d:=d) (res:=cD (gY Int.ofNat) (rows.drop d).flatten) (λi h=>by rw[af];omega) DR6 (by omega) (λr hr=>by have:=(ok.b r hr).1;omega) (λNU qt l7 hA f7=>kU hT hA (mR _) (fR _) λys hy=>⟨rfl,hy⟩) λv8 J3 f8 h8=> ?_;have hl8:=f8.len;rw[af]at hl8;have gP8:=f8.keep _ _ id gP6;have DG8:=(dL (dL eW)).keep DG6 (jy f8);f_are
      refine nY eW (N:=(· =bj.length)) (d:=d) (res:=cD (gY id) (grown.drop d).flatten) (λi h=>by omega) DG8 (by omega) (λr hr=>by have:=ok.c r hr;omega) (λNU qt l7 hA f7=>nQ hA (fG _) λys hy=>⟨rfl,hy⟩) λv9 NQ f9 h9=> ?_;have YB:=f9.keep _ _ id gP8;have hdl:=wY.length;rw[aG,zp]at hdl;f_are
      have K9:=(jy f8).trans (jy f9);have FS:Fr (· =bj.length) NQ (NQ.set bj.length (.list (ds++[.ref NQ.length]))++[.tuple [vr.getD d .none,vg.getD d .none,v8,v9,.ref (ib.length+1),.ref (ja.length+1)]]):=tY rfl;have Y7:=(F6.trans K9).trans FS;have hP:=AB (P:=pA rows grown d) ((dL (gv T)).keep xr (K6.trans K9)) ((dL eW).keep xg (K6.trans K9)) ((dL (gv T)).keep h8 (jy f9)) h9 ((EP (dL (gv T)) (dL (gv T))).keep L6 K9) ((EP (dL eW) (dL eW)).keep M6 K9) YB;refine⟨⟨_,_,d+1,m,_,rfl,by f_list,by f_list,by f_list,by f_list,rfl,by omega,bh (get_set (aN YB)), ?_,rV.trans Y7⟩,trivial⟩;rw[List.range_succ,bq];exact((qc T).all wY Y7).snoc hP
    ·rintro s ⟨jv,lc,d,m,ds,rfl,hl1,hl2,rI,AQ,e2,e3,gP,wY,rV⟩;cases m with
     |succ m=>cases e2
     |zero=>
      have hd:d=rows.length:=by omega
      subst hd;have DW4:ic (eV T) No jv (.ref (σ.length+4)) ws:=(dL (gv T)).away ((dL (gv T)).keep ((dL (gv T)).away DW aw) (Fr.app.trans rV)) λ_ _ h=>h.elim;f_are
      refine yp (k:=5) hT DW4 (by omega) h7 (by rw[zz];exact hp) λv5 ib f5 h5=> ?_;have hw:ic (ny T) No ib (.ref bj.length) ((List.range rows.length).map (pA rows grown)):=(dL (qc T)).keep ⟨_,ds,rfl,id,gP,(qc T).iN wY λ_ _ h=>h.elim⟩ f5;have hq:=JN (pL (Pl T)) (by decide) h5 hw;f_are
      rfl
end
end
def gU (E:List (Int×Int)) (D:List Int) (x:Int):Nat:=E.countP λe=>decide (e.2=x/\e.1∉D)
def gq (E:List (Int×Int)) (x:Int):List Int:=(E.filter λe=>decide (e.1=x)).map (·.2)
def wI (E:List (Int×Int)) (D O:List Int) (x:Int):Int:=if x∈D then-2 else if x∈O then-1 else gU E D x
theorem m9:gU E D x=0↔∀e∈E,e.2=x->e.1∈D:=by
 unfold gU;rw[List.countP_eq_zero];constructor
 ·intro h e he hx;have:=h e he;rw[Xa]at this;exact Classical.byContradiction λq=>this ⟨hx,q⟩
 ·intro h e he q;rw[Xa]at q;exact q.2 (h e he q.1)
theorem pP:y∈gq E x↔(x,y)∈E:=by
 unfold gq;rw[aR];constructor
 ·rintro⟨⟨a,b⟩,h,rfl⟩;obtain⟨h1,h2⟩:=gx.mp h;have h2:a=x:=dE h2;subst h2;exact h1
 ·intro h;exact⟨(x,y),gx.mpr ⟨h,cH rfl⟩,rfl⟩
theorem yk{x y:Int} {D:List Int} (hx:x∉D):∀E:List (Int×Int),gU E D y=gU E (x::D) y+(gq E x).count y
 |[]=>rfl
 | (a,b)::E=>by
  have ih:=yk (y:=y) hx E;unfold gU at ih ⊢;rw[Bq,Bq,ih];have e:gq ((a,b)::E) x=if a=x then b::gq E x else gq E x:=by
   unfold gq;rw[fX];by_cases h:a=x
   ·rw[aD (cH h),aD h];rfl
   ·rw[aC (by simp [h]),aC h]
  rw[e];by_cases h:a=x
  ·subst h;rw[aD rfl,List.count_cons];by_cases hb:b=y
   ·subst hb;simp [hx];omega
   ·simp [hb]
  ·rw[aC h];by_cases hb:b=y
   ·subst hb;by_cases ha:a∈D
    ·simp [ha]
    ·simp [ha,h];omega
   ·simp [hb]
structure qV (V:Int->Prop) (E:List (Int×Int)) (k m:Int) (I:cA):Prop where
 key:∀x,(I.lookup x).isSome=true↔V x
 val:∀x v,I.lookup x=some v->v=((gU E [] x:Int)+(if x=k then m else 0),gq E x)
 nd:(I.map (·.1)).Nodup
 ev:∀e∈E,V e.1/\V e.2
theorem qV.nil {k:Int}:qV (λ_=>False) [] k 0 []:=⟨λx=>by simp,λx v h=>(nomatch h),.nil,λe h=>(nomatch h)⟩
theorem qV.other {k':Int} (B:qV V E k 0 I):qV V E k' 0 I:=⟨B.key,λx v h=>by
 have:=B.val x v h;rw[this];simp,B.nd,B.ev⟩
theorem qV.lD {m p:Int} (B:qV V E k m I) (hk:p≠k\/m=0\/V p):qV (λx=>V x\/x=p) E k m (cO p I):=by
 rcases ip p I with⟨e,h⟩|⟨e,h⟩
 ·rw[e];exact⟨λx=>(B.key x).trans ⟨.inl,λq=>q.elim id λq=>by rw[q];exact(B.key p).mp h⟩,B.val,B.nd,λx hx=>⟨.inl (B.ev x hx).1,.inl (B.ev x hx).2⟩⟩
 ·have P9:¬V p:=λq=>by have:=(B.key p).mpr q;rw[h]at this;cases this
  have look:∀x,(cO p I).lookup x=if x=p then some (0,[])else I.lookup x:=λx=>by
   rw[e];by_cases hx:x=p
   ·subst hx;rw[aD rfl];exact nj h
   ·rw[aC hx,List.lookup_append];have:List.lookup x [(p,((0:Int),([]:List Int)))]=none:=by
     rw[az,aP.mpr hx];rfl
    rw[this];cases I.lookup x<;>rfl
  refine⟨λx=> ?_,λx v hv=> ?_,rC B.nd,λx hx=>⟨.inl (B.ev x hx).1,.inl (B.ev x hx).2⟩⟩
  ·rw[look];by_cases hx:x=p
   ·rw[aD hx];exact⟨λ_=> .inr hx,λ_=>rfl⟩
   ·rw[aC hx];exact(B.key x).trans ⟨.inl,λq=>q.elim id λq=>absurd q hx⟩
  ·rw[look]at hv;by_cases hx:x=p
   ·rw[aD hx]at hv;cases hv;subst hx;have h1:gU E [] x=0:=m9.mpr λe he hx=>by have:=(B.ev e he).2;rw[hx]at this;exact absurd this P9
    have h2:gq E x=[]:=Bo.mpr λy hy=>P9 (B.ev _ (pP.mp hy)).1;rw[h1,h2];rcases hk with h|h|h
    ·rw[aC h];rfl
    ·subst h;simp
    ·exact absurd h P9
   ·rw[aC hx]at hv;exact B.val x v hv
theorem qV.pred {m p:Int} (B:qV V E k m I) (hk:V k):qV (λx=>V x\/x=p) (E++[(p,k)]) k (m-1) (fZ k I p):=by
 have B':=B.lD (p:=p) (Classical.byCases (p:=p=k) (λh=> .inr (.inr (h▸hk))) .inl);unfold fZ;refine⟨λx=>by rw[fh];exact B'.key x,λx v hv=> ?_,by rw[kg];exact B'.nd,λe he=> ?_⟩
 ·rw[iU]at hv;cases h:(cO p I).lookup x with
  |none=>rw[h]at hv;cases hv
  |some w=>
   rw[h]at hv;cases hv;have e1:=B'.val x w h;have c1:gU (E++[(p,k)]) [] x=gU E [] x+if k=x then 1 else 0:=by
    unfold gU;rw[List.countP_append];simp [Bq]
   have s1:gq (E++[(p,k)]) x=gq E x++if p=x then[k]else[]:=by
    unfold gq;rw[xx,bq];by_cases hx:p=x<;>simp [hx]
   rw[c1,s1,e1];dsimp only;by_cases hx:x=p
   ·rw[aD hx,aD hx.symm];by_cases tT:x=k
    ·rw[aD tT,aD tT,aD tT.symm];congr 1;omega
    ·rw[aC tT,aC tT,aC (dF tT)];rfl
   ·rw[aC hx,aC (dF hx),aX];by_cases tT:x=k
    ·rw[aD tT,aD tT,aD tT.symm];congr 1;omega
    ·rw[aC tT,aC tT,aC (dF tT)];rfl
 ·rcases au.mp he with h|h
  ·exact⟨.inl (B.ev e h).1,.inl (B.ev e h).2⟩
  ·rw[aA.mp h];exact⟨.inr rfl,.inl hk⟩
theorem qV.mono {V':Int->Prop} {m:Int} (B:qV V E k m I) (h:∀x,V x↔V' x):qV V' E k m I:=⟨λx=>(B.key x).trans (h x),B.val,B.nd,λe he=>⟨(h _).mp (B.ev e he).1,(h _).mp (B.ev e he).2⟩⟩
theorem qV.yn {k:Int}:∀{ps:List Int} {V:Int->Prop} {E:List (Int×Int)} {m:Int} {I:cA},qV V E k m I->V k->qV (λx=>V x\/x∈ps) (E++ps.map λp=>(p,k)) k (m-ps.length) (ps.foldl (fZ k) I)
 |[],V,E,m,I,B,_=>by simpa using B.mono (V':=λx=>V x\/x∈[]) λx=>by simp
 |p::ps,V,E,m,I,B,hk=>by
  have h:=qV.yn (ps:=ps) (B.pred (p:=p) hk) (.inl hk);rw[bc]at h;have e:m-1-(ps.length:Int)=m-((p::ps).length:Int):=by rw[aq];omega
  rw[e]at h;refine(h.mono λx=> ?_);rw[aK,or_assoc]
theorem qV.add {k':Int} {ps:List Int} (B:qV V E k' 0 I):qV (λx=>(V x\/x=k)\/x∈ps) (E++ps.map λp=>(p,k)) k' 0 (xo k ps I):=by
 have B1:=(B.other (k':=k)).lD (p:=k) (.inr (.inl rfl));have B2:qV (λx=>V x\/x=k) E k ps.length (cP k (λq=>(q.1+ps.length,q.2)) (cO k I)):=by
  refine⟨λx=>by rw[fh];exact B1.key x,λx v hv=> ?_,by rw[kg];exact B1.nd,B1.ev⟩;rw[iU]at hv;cases h:(cO k I).lookup x with
  |none=>rw[h]at hv;cases hv
  |some w=>
   rw[h]at hv;cases hv;have e1:=B1.val x w h;rw[e1];by_cases hx:x=k
   ·subst hx;simp
   ·simp [hx]
 have h:=B2.yn (ps:=ps) (.inr rfl);rw[Int.sub_self]at h;exact h.other
def mx (as:List (Int×List Int)):List (Int×Int):=as.flatMap λa=>a.2.map λp=>(p,a.1)
theorem vX:∀{as:List (Int×List Int)} {V:Int->Prop} {E:List (Int×Int)} {I:cA},qV V E 0 0 I->qV (λx=>V x\/∃a∈as,x=a.1\/x∈a.2) (E++mx as) 0 0 (as.foldl (λI a=>xo a.1 a.2 I) I)
 |[],V,E,I,B=>by
  have:=B.mono (V':=λx=>V x\/∃a∈([]:List (Int×List Int)),x=a.1\/x∈a.2) λx=>by simp
  simpa [mx] using this
 |a::as,V,E,I,B=>by
  have hB:=vX (as:=as) (B.add (k:=a.1) (ps:=a.2));rw[bc]at hB;refine hB.mono λx=> ?_;constructor
  ·rintro((h|h)|h)
   ·rcases h with h|h
    ·exact .inl h
    ·exact .inr ⟨a,aj ..,.inl h⟩
   ·exact .inr ⟨a,aj ..,.inr h⟩
   ·obtain⟨b,hb,h⟩:=h;exact .inr ⟨b,ah _ hb,h⟩
  ·rintro(h|⟨b,hb,h⟩)
   ·exact .inl (.inl (.inl h))
   ·rcases aK.mp hb with rfl|hb
    ·rcases h with h|h
     ·exact .inl (.inl (.inr h))
     ·exact .inl (.inr h)
    ·exact .inr ⟨b,hb,h⟩
structure Inv (V:Int->Prop) (E:List (Int×Int)) (D O:List Int) (st:u3):Prop where
 key:∀x,(st.1.lookup x).isSome=true↔V x
 val:∀x v,st.1.lookup x=some v->v=(wI E D O x,gq E x)
 cl:∀x,x∈D\/x∈O->∀e∈E,e.2=x->e.1∈D
 EA:∀x,x∈st.2↔V x/\x∉D/\x∉O/\∀e∈E,e.2=x->e.1∈D
 nd:st.2.Nodup
 ev:∀e∈E,V e.1/\V e.2
theorem vI{x:Int} {v:Int×List Int}:∀{I:cA},(I.map (·.1)).Nodup->(x,v)∈I->I.lookup x=some v
 | (a,b)::I,nd,h=>by
  rw[aS,bA]at nd;rw[az];rcases aK.mp h with e|h
  ·cases e;simp
  ·have apart_at:x≠a:=λe=>nd.1 (aR.mpr ⟨_,h,e⟩);rw[aP.mpr apart_at];exact vI nd.2 h
theorem qV.inv (B:qV V E k 0 I):Inv V E [] [] (I,gu I):=by
 have val:∀x v,I.lookup x=some v->v=((gU E [] x:Int),gq E x):=λx v h=>by
  have:=B.val x v h;rw[this];simp
 refine⟨B.key,λx v h=>by rw[val x v h];unfold wI;simp,λx h=>by simp at h,λx=> ?_, ?_,B.ev⟩
 ·show x∈(I.filter λp=>decide (p.2.1=0)).map (·.1)↔_;rw[aR];constructor
  ·rintro⟨⟨a,v⟩,h,rfl⟩;obtain⟨h1,h2⟩:=gx.mp h;have hl:=vI B.nd h1;have h2:v.1=0:=dE h2;rw[val a v hl]at h2;have h2:(gU E [] a:Int)=0:=h2;exact⟨(B.key a).mp (by rw[hl];rfl),by simp,by simp,m9.mp (show gU E [] a=0 by omega)⟩
  ·rintro⟨h1,_,_,h2⟩;obtain⟨v,hv⟩:=cJ.mp ((B.key x).mpr h1);refine⟨(x,v),gx.mpr ⟨mem_of_lookup hv,cH ?_⟩,rfl⟩;rw[val x v hv];show(gU E [] x:Int)=0
   rw[m9.mpr h2];rfl
 ·show((I.filter λp=>decide (p.2.1=0)).map (·.1)).Nodup
  exact(List.Nodup.sublist ((S7 (l:=I)).map (·.1)) B.nd)
theorem tD{x:Int}:∀{rs:List Int} {I:cA} {v:Int×List Int},(outI rs I).lookup x=some v->∃w,I.lookup x=some w/\v=(if x∈rs then-1 else w.1,w.2)
 |[],I,v,h=>⟨v,h,by simp⟩
 |r::rs,I,v,h=>by
  obtain⟨w,h1,h2⟩:=tD (rs:=rs) (I:=cP r (λq=>(-1,q.2)) I) h;rw[iU]at h1;cases h3:I.lookup x with
  |none=>rw[h3]at h1;cases h1
  |some u=>
   rw[h3]at h1;cases h1;refine⟨u,rfl, ?_⟩;rw[h2];by_cases hx:x=r
   ·subst hx;simp
   ·simp [hx]
theorem Inv.out (H:Inv V E D [] st):Inv V E D st.2 (outI st.2 st.1,[]):=by
 refine⟨λx=>by rw[oS];exact H.key x,λx v h=> ?_,λx h=> ?_,λx=> ?_,.nil,H.ev⟩
 ·obtain⟨w,h1,h2⟩:=tD h;rw[h2,H.val x w h1];unfold wI;dsimp only;by_cases hx:x∈st.2
  ·have:=(H.EA x).mp hx;rw[aD hx,aC this.2.1,aD hx]
  ·rw[aC hx,aC hx,aC (lH)]
 ·rcases h with h|h
  ·exact H.cl x (.inl h)
  ·exact((H.EA x).mp h).2.2.2
 ·constructor
  ·intro h;cases h
  ·rintro⟨h1,h2,h3,h4⟩;exact absurd ((H.EA x).mpr ⟨h1,h2,by simp,h4⟩) h3
theorem IK{O:List Int} (ss:List Int):∀{st:u3} {R:Int->Prop},
  (∀x v,st.1.lookup x=some v->v=((if x∈D then-2 else if x∈O then-1 else(gU E D x+ss.count x:Nat):Int),gq E x))->
  (∀y∈ss,V y/\y∉D/\y∉O)->(∀x,(st.1.lookup x).isSome=true↔V x)->(∀x,x∈st.2↔R x)->st.2.Nodup->(∀x,R x->x∉ss)->
  (∀x v,(ss.foldl gW st).1.lookup x=some v->v=(wI E D O x,gq E x))/\(∀x,((ss.foldl gW st).1.lookup x).isSome=true↔V x)/\(∀x,x∈(ss.foldl gW st).2↔R x\/(x∈ss/\gU E D x=0))/\(ss.foldl gW st).2.Nodup:=by
 induction ss with
 |nil=>
  intro st R hv _ hk hr hn _;refine⟨λx v h=> ?_,hk,λx=>by rw[List.foldl_nil,hr];simp,hn⟩;rw[hv x v h];unfold wI;simp
 |cons y ss ih=>
  intro st R hv RW hk hr hn hR;rw[iP];obtain⟨hVy,Vv,Vr⟩:=RW y (aj ..);obtain⟨w,hw⟩:=cJ.mp ((hk y).mpr hVy);have PL:w.1=((gU E D y+(y::ss).count y:Nat):Int):=by rw[hv y w hw];simp [Vv,Vr]
  have hc:(y::ss).count y=ss.count y+1:=by simp
  have hz:((st.1.lookup y).map (λv=>v.1-1)=some 0)↔gU E D y+ss.count y=0:=by
   rw[hw];show some (w.1-1)=some 0↔_;rw[PL,hc,Option.some.injEq];omega
  have hyR:y∉st.2:=λh=>hR y ((hr y).mp h) (aj ..);have key:=ih (st:=gW st y) (R:=λx=>R x\/(x=y/\gU E D y+ss.count y=0)) ?_ (λz hz=>RW z (ah _ hz)) ?_ ?_ ?_ ?_
  ·obtain⟨k1,k2,k3,k4⟩:=key;refine⟨k1,k2,λx=>(k3 x).trans ?_,k4⟩;constructor
   ·rintro((h|⟨rfl,h⟩)|⟨h1,h2⟩)
    ·exact .inl h
    ·exact .inr ⟨aj ..,by omega⟩
    ·exact .inr ⟨ah _ h1,h2⟩
   ·rintro(h|⟨h1,h2⟩)
    ·exact .inl (.inl h)
    ·by_cases hm:x∈ss
     ·exact .inr ⟨hm,h2⟩
     ·rcases aK.mp h1 with rfl|h1
      ·exact .inl (.inr ⟨rfl,by rw[h2,List.count_eq_zero.mpr hm]⟩)
      ·exact absurd h1 hm
  ·intro x v h;have h:(cP y (λq=>(q.1-1,q.2)) st.1).lookup x=some v:=h;rw[iU]at h;cases h3:st.1.lookup x with
   |none=>rw[h3]at h;cases h
   |some u=>
    rw[h3]at h;cases h;have e:=hv x u h3;dsimp only;by_cases hx:x=y
    ·subst hx;rw[aD rfl,e,aC Vv,aC Vr,aC Vv,aC Vr,hc];congr 1;omega
    ·rw[aC hx,e];have:(y::ss).count x=ss.count x:=by simp [dF hx]
     rw[this]
  ·intro x;show((cP y (λq=>(q.1-1,q.2)) st.1).lookup x).isSome=true↔_;rw[fh];exact hk x
  ·intro x;show x∈(if(st.1.lookup y).map (λv=>v.1-1)=some 0 then st.2++[y]else st.2)↔_;by_cases h:gU E D y+ss.count y=0
   ·rw[aD (hz.mpr h),au,aA,hr];exact⟨λq=>q.elim .inl λq=> .inr ⟨q,h⟩,λq=>q.elim .inl λq=> .inr q.1⟩
   ·rw[aC λq=>h (hz.mp q),hr];exact⟨.inl,λq=>q.elim id λq=>absurd q.2 h⟩
  ·show(if(st.1.lookup y).map (λv=>v.1-1)=some 0 then st.2++[y]else st.2).Nodup
   split
   ·rw[bT];refine⟨hn,by simp,λa ha b hb=> ?_⟩;rw[aA.mp hb];exact λe=>hyR (e▸ha)
   ·exact hn
  ·rintro x (h|⟨rfl,h⟩) hm
   ·exact hR x h (ah _ hm)
   ·have:=List.count_pos_iff.mpr hm;omega
theorem Inv.done {O:List Int} (H:Inv V E D (x::O) st) (hx:V x) (hD:x∉D) (hO:x∉O):Ke st x/\Inv V E (x::D) O (di st x):=by
 obtain⟨w,hw⟩:=cJ.mp ((H.key x).mpr hx);have e:=H.val x w hw;have P9:wI E D (x::O) x= -1:=by unfold wI;rw[aC hD,aD (aj ..)]
 rw[P9]at e;subst e;have Jh:∀y∈gq E x,V y/\y∉x::D/\y∉O:=λy hy=>by
  have hm:=pP.mp hy;refine⟨(H.ev _ hm).2,λh=> ?_,λh=> ?_⟩
  ·rcases aK.mp h with rfl|h
   ·exact hD (H.cl y (.inr (aj ..)) _ hm rfl)
   ·exact hD (H.cl y (.inl h) _ hm rfl)
  ·exact hD (H.cl y (.inr (ah _ h)) _ hm rfl)
 refine⟨⟨_,hw,λy hy=>(H.key y).mpr (Jh y hy).1⟩, ?_⟩;rw[t9 hw];have key:=IK (V:=V) (E:=E) (D:=x::D) (O:=O) (gq E x) (st:=(cP x (λq=>(-2,q.2)) st.1,st.2)) (R:=λy=>y∈st.2) ?_ Jh ?_ (λ_=>Iff.rfl) H.nd ?_
 ·obtain⟨k1,k2,k3,k4⟩:=key;refine⟨k2,k1,λy h e he hy=> ?_,λy=>(k3 y).trans ?_,k4,H.ev⟩
  ·rcases h with h|h
   ·rcases aK.mp h with rfl|h
    ·exact ah _ (H.cl y (.inr (aj ..)) e he hy)
    ·exact ah _ (H.cl y (.inl h) e he hy)
   ·exact ah _ (H.cl y (.inr (ah _ h)) e he hy)
  ·constructor
   ·rintro(h|⟨h1,h2⟩)
    ·obtain⟨a,b,c,d⟩:=(H.EA y).mp h;refine⟨a,λq=> ?_,λq=>c (ah _ q),λe he hy=>ah _ (d e he hy)⟩;rcases aK.mp q with rfl|q
     ·exact c (aj ..)
     ·exact b q
    ·obtain⟨a,b,c⟩:=Jh y h1;exact⟨a,b,c,m9.mp h2⟩
   ·rintro⟨a,b,c,d⟩;by_cases hm:y∈gq E x
    ·exact .inr ⟨hm,m9.mpr d⟩
    ·refine .inl ((H.EA y).mpr ⟨a,λq=>b (ah _ q),λq=> ?_,λe he hy=> ?_⟩)
     ·rcases aK.mp q with rfl|q
      ·exact b (aj ..)
      ·exact c q
     ·rcases aK.mp (d e he hy)with h|h
      ·refine absurd (pP.mpr ?_) hm;obtain⟨e1,e2⟩:=e;have h:e1=x:=h;have hy:e2=y:=hy;subst h hy;exact he
      ·exact h
 ·intro y v h;have h:(cP x (λq=>(-2,q.2)) st.1).lookup y=some v:=h;rw[iU]at h;cases h3:st.1.lookup y with
  |none=>rw[h3]at h;cases h
  |some u=>
   rw[h3]at h;cases h;have e:=H.val y u h3;dsimp only;by_cases hy:y=x
   ·subst hy;rw[aD rfl,e,aD (aj ..)]
   ·rw[aC hy,e];unfold wI;have m1:(y∈x::D)=(y∈D):=by simp [hy]
    have m2:(y∈x::O)=(y∈O):=by simp [hy]
    simp only [m1,m2];rw[yk (y:=y) hD E]
 ·intro y;show((cP x (λq=>(-2,q.2)) st.1).lookup y).isSome=true↔_;rw[fh];exact H.key y
 ·intro y hy hm;exact hD (((H.EA y).mp hy).2.2.2 _ (pP.mp hm) rfl)
theorem Inv.congr {D' O:List Int} (H:Inv V E D O st) (h:∀x,x∈D↔x∈D'):Inv V E D' O st:=by
 have hd:∀x,(x∈D)=(x∈D'):=λx=>propext (h x);have hr:∀x,gU E D x=gU E D' x:=λx=>by unfold gU;simp only [hd]
 refine⟨H.key,λx v q=>by rw[H.val x v q];unfold wI;rw[hr];simp only [hd],λx q e he hx=>(h _).mp (H.cl x (q.imp (h x).mpr id) e he hx),λx=> ?_,H.nd,H.ev⟩;rw[H.EA x];simp only [hd]
theorem Inv.KR {V:Int->Prop} {E:List (Int×Int)}:∀{O D:List Int} {st:u3},Inv V E D O st->O.Nodup->(∀x∈O,V x/\x∉D)->sU O st/\Inv V E (O++D) [] (O.foldl di st)
 |[],D,st,H,_,_=>⟨trivial,H⟩
 |x::O,D,st,H,nd,hO=>by
  obtain⟨h1,h2⟩:=bA.mp nd;obtain⟨hv,hd⟩:=hO x (aj ..);obtain⟨k1,k2⟩:=H.done hv hd h1;obtain⟨k3,k4⟩:=Inv.KR k2 h2 λy hy=>by
   obtain⟨a,b⟩:=hO y (ah _ hy);refine⟨a,λq=> ?_⟩;rcases aK.mp q with rfl|q
   ·exact h1 hy
   ·exact b q
  refine⟨⟨k1,k3⟩,k4.congr λy=> ?_⟩;simp only [au,aK];constructor
  ·rintro(h|h|h)
   ·exact .inl (.inr h)
   ·exact .inl (.inl h)
   ·exact .inr h
  ·rintro((h|h)|h)
   ·exact .inr (.inl h)
   ·exact .inl h
   ·exact .inr (.inr h)
def TL (p q:Int×Nat):Prop:=p.1<q.1/\p.2<q.2
def oC:List fU->Prop
 |[]=>True
 |L::post=>L≠[]/\L.Pairwise (λa b=>a.1<b.1/\b.2<a.2)/\(∀b∈post.flatten,(fT L).1.2<b.2)/\(∀a∈L,∀b∈L++post.flatten,¬TL b a)/\(∀b∈post.flatten,∃a∈L++post.flatten,TL a b)/\oC post
inductive G2:List (List Int)->List fU->Prop
 |nil:G2 [] []
 |cons {g:List Int} {gs:List (List Int)} {L:fU} {Ls:List fU} (h:g.Perm (L.map (·.1))) (t:G2 gs Ls):G2 (g::gs) (L::Ls)
def kX (bH:fU):List (Int×List Int):=bH.map λq=>(q.1,kB bH q.1 q.2)
theorem Be(bH:fU):fK bH bH=(kX bH).foldl (λI a=>xo a.1 a.2 I) []:=by
 unfold fK kX;rw[List.foldl_map]
theorem qJ{t:Int}:x∈kB bH t r↔∃p∈bH,p.1<t/\p.2<r/\x=p.1:=by
 unfold kB;rw[d4];constructor
 ·rintro⟨p,hp,h⟩;split at h
  ·rename_i h2;cases h;exact⟨p,hp,h2.1,h2.2,rfl⟩
  ·cases h
 ·rintro⟨p,hp,h1,h2,rfl⟩;exact⟨p,hp,aD ⟨h1,h2⟩⟩
theorem vG{a b:Int}:(a,b)∈mx (kX bH)↔∃p∈bH,∃q∈bH,TL p q/\a=p.1/\b=q.1:=by
 unfold mx kX;rw[List.mem_flatMap];constructor
 ·rintro⟨x,hx,h⟩;obtain⟨q,hq,rfl⟩:=aR.mp hx;obtain⟨y,hy,e⟩:=aR.mp h;obtain⟨p,hp,h1,h2,rfl⟩:=qJ.mp hy;cases e;exact⟨p,hp,q,hq,⟨h1,h2⟩,rfl,rfl⟩
 ·rintro⟨p,hp,q,hq,⟨h1,h2⟩,rfl,rfl⟩;exact⟨_,aR.mpr ⟨q,hq,rfl⟩,aR.mpr ⟨p.1,qJ.mpr ⟨p,hp,h1,h2,rfl⟩,rfl⟩⟩
theorem A4(nd:(bH.map (·.1)).Nodup) {p q:Int×Nat} (hp:p∈bH) (hq:q∈bH) (h:p.1=q.1):p=q:=by
 have e1:=jG (t:=p.1) (r:=p.2) nd hp;have e2:=jG (t:=q.1) (r:=q.2) nd hq;rw[h,e2]at e1;exact Prod.ext h e1.symm
abbrev VP (bH:fU):Int->Prop:=λx=>∃p∈bH,x=p.1
theorem CX(bH:fU):Inv (VP bH) (mx (kX bH)) [] [] (fK bH bH,gu (fK bH bH)):=by
 have B:=vX (as:=kX bH) qV.nil;rw[<-Be,eN]at B;refine(B.mono (V':=VP bH) λx=> ?_).inv;constructor
 ·rintro(h|⟨a,ha,h⟩)
  ·exact h.elim
  ·obtain⟨q,hq,rfl⟩:=aR.mp ha;rcases h with h|h
   ·exact⟨q,hq,h⟩
   ·obtain⟨p,hp,_,_,e⟩:=qJ.mp h;exact⟨p,hp,e⟩
 ·rintro⟨p,hp,e⟩;exact .inr ⟨_,aR.mpr ⟨p,hp,rfl⟩,.inl e⟩
theorem CO(nd:(bH.map (·.1)).Nodup):∀(steps:fU) (Ls:List fU) (D:List Int) (st:u3),oC Ls->Ls.length<=steps.length->Inv (VP bH) (mx (kX bH)) D [] st->(∀p∈bH,p.1∈D\/p∈Ls.flatten)->(∀p∈Ls.flatten,p∈bH/\p.1∉D)->
  (Ls.flatten.map (·.1)).Nodup->(∀L∈Ls,L.length<90)->∃gs st',oB steps st gs st'/\st'.2=[]/\G2 gs Ls:=by
 have idle:∀{D:List Int} {st:u3},Inv (VP bH) (mx (kX bH)) D [] st->(∀p∈bH,p.1∈D\/p∈([]:List fU).flatten)->st.2=[]:=fun{D st} H hD=>by
  refine Bo.mpr λx hx=> ?_;obtain⟨⟨p,hp,e⟩,h2,_⟩:=(H.EA x).mp hx;rcases hD p hp with h|h
  ·exact h2 (e▸h)
  ·simp at h
 intro steps;induction steps with
 |nil=>
  intro Ls D st hL hlen H hD _ _ _;cases Ls with
  |cons L post=>simp at hlen
  |nil=>exact⟨[],st,.nil,idle H hD,.nil⟩
 |cons s steps ih=>
  intro Ls D st hL hlen H hD hP hnd Jv;cases Ls with
  |nil=>
   obtain⟨gs,st',t,e,g⟩:=ih [] D st trivial (bW _) H hD hP hnd Jv;exact⟨gs,st',.idle (idle H hD) t,e,g⟩
  |cons L post=>
   obtain⟨apart_at,tU,AP,c1,c2,pY⟩:=hL;rw[bl]at hD hP hnd;have AJ:∀x,x∈st.2↔x∈L.map (·.1):=λx=>by
    rw[H.EA x,aR];constructor
    ·rintro⟨⟨p,hp,e⟩,h2,_,h4⟩;rcases hD p hp with h|h
     ·exact absurd (e▸h) h2
     ·rcases au.mp h with h|h
      ·exact⟨p,h,e.symm⟩
      ·obtain⟨a,ha,f_tup⟩:=c2 p h;obtain⟨Cp,EF⟩:=hP a ha;exact absurd (h4 (a.1,p.1) (vG.mpr ⟨a,Cp,p,hp,f_tup,rfl,rfl⟩) e.symm) EF
    ·rintro⟨p,hp,rfl⟩;obtain⟨Kr,R0⟩:=hP p (aI _ hp);refine⟨⟨p,Kr,rfl⟩,R0,by simp,λe he hx=> ?_⟩;obtain⟨a,b⟩:=e;obtain⟨a',ha,q,hq,f_tup,rfl,rfl⟩:=vG.mp he;have hqp:q=p:=A4 nd hq Kr hx;subst hqp;rcases hD a' ha with h|h
     ·exact h
     ·exact absurd f_tup (c1 q hp a' h)
   have UC:(L.map (·.1)).Nodup:=by
    rw[bq]at hnd;exact(bT.mp hnd).1
   have tS:st.2.Perm (L.map (·.1)):=(List.perm_ext_iff_of_nodup H.nd UC).mpr AJ;have vP:st.2.length=L.length:=by rw[tS.length_eq,aG]
   obtain⟨ok,H2⟩:=H.out.KR H.nd λx hx=>⟨((H.EA x).mp hx).1,((H.EA x).mp hx).2.1⟩;have k1:∀p∈bH,p.1∈st.2++D\/p∈post.flatten:=λp hp=>by
    rcases hD p hp with h|h
    ·exact .inl (aW _ h)
    ·rcases au.mp h with h|h
     ·exact .inl (aI _ ((AJ p.1).mpr (aR.mpr ⟨p,h,rfl⟩)))
     ·exact .inr h
   have k2:∀p∈post.flatten,p∈bH/\p.1∉st.2++D:=λp hp=>by
    obtain⟨a,b⟩:=hP p (aW _ hp);refine⟨a,λh=> ?_⟩;rcases au.mp h with h|h
    ·rw[bq]at hnd;exact(bT.mp hnd).2.2 p.1 ((AJ p.1).mp h) p.1 (aR.mpr ⟨p,hp,rfl⟩) rfl
    ·exact b h
   have k3:(post.flatten.map (·.1)).Nodup:=by
    rw[bq]at hnd;exact(bT.mp hnd).2.1
   obtain⟨gs,st',t,e,g⟩:=ih post (st.2++D) (st.2.foldl di (outI st.2 st.1,[])) pY (by simp at hlen;omega) H2 k1 k2 k3 λL' h=>Jv L' (ah _ h);refine⟨st.2::gs,st',.go ?_ (by rw[vP];exact Jv L (aj ..)) (λx hx=>(H.key x).mpr ((H.EA x).mp hx).1) ok t,e,.cons tS g⟩;intro h;rw[h]at vP;exact apart_at (j2.mp vP.symm)
theorem nV:∀{Ls:List fU},oC Ls->∀L∈Ls,L≠[]/\L.Pairwise (λa b=>a.1<b.1/\b.2<a.2)
 |_::post,h,L',hL=>by
  rcases aK.mp hL with rfl|hL
  ·exact⟨h.1,h.2.1⟩
  ·exact nV h.2.2.2.2.2 L' hL
theorem BX:∀{Ls:List fU},(∀L∈Ls,L≠[])->Ls.length<=Ls.flatten.length
 |[],_=>aJ _
 |L::Ls,h=>by
  have:=BX (Ls:=Ls) λL' hL=>h L' (ah _ hL);have h1:0<L.length:=vb.mpr (h L (aj ..));rw[bl,af,aq];omega
theorem yU{bH:fU} (nd:(bH.map (·.1)).Nodup):∀{gs:List (List Int)} {Ls:List fU},G2 gs Ls->(∀L∈Ls,L.Pairwise (λa b=>a.1<b.1/\b.2<a.2)/\∀p∈L,p∈bH)->cZ bH gs=Ls
 |_,_,.nil,_=>rfl
 |_,_,.cons (g:=g) (gs:=gs) (L:=L) (Ls:=Ls) h t,hL=>by
  have ih:=yU nd t λL' h'=>hL L' (ah _ h');obtain⟨tU,hm⟩:=hL L (aj ..);have ht:∀p∈L,cu bH p.1=p.2:=λp hp=>jG nd (hm p hp);have e:cD (gY λt=> -(cu bH t:Int)) g=L.map (·.1):=by
   refine ki (key:=λt=> -(cu bH t:Int)) (cw.trans h) dI ?_ λa ha b hb om=> ?_
   ·rw[i9];refine tU.imp_of_mem fun{a b} ha hb om=> ?_;rw[ht a ha,ht b hb];omega
   ·obtain⟨p,hp,rfl⟩:=aR.mp (h.mem_iff.mp (il.mp ha));obtain⟨q,hq,rfl⟩:=aR.mp (h.mem_iff.mp (il.mp hb));have om: -(cu bH p.1:Int)= -(cu bH q.1:Int):=om;rw[ht p hp,ht q hq]at om;have:p=q:=by
     obtain⟨i,hi,e1⟩:=hH hp;obtain⟨j,hj,e2⟩:=hH hq;rcases zm i j with c|c|c
     ·have:=eO.mp tU i j hi hj c;rw[e1,e2]at this;omega
     ·subst c;rw[<-e1,<-e2]
     ·have:=eO.mp tU j i hj hi c;rw[e1,e2]at this;omega
    rw[this]
  show((cD (gY λt=> -(cu bH t:Int)) g).map λt=>(t,cu bH t))::cZ bH gs=_
  rw[ih,e,eD];congr 1
  conv=>rhs;rw[<-List.map_id L]
  refine dc λp hp=> ?_;show(p.1,cu bH p.1)=p
  rw[ht p hp]
theorem G0:∀{gs:List (List Int)} {Ls:List fU},G2 gs Ls->gs.length=Ls.length
 |_,_,.nil=>rfl
 |_,_,.cons _ t=>dg (· +1) (G0 t)
theorem GZ:∀{gs:List (List Int)} {Ls:List fU},G2 gs Ls->∀g∈gs,∃L∈Ls,g.Perm (L.map (·.1))
 |_,_,.cons h t,g,hg=>by
  rcases aK.mp hg with rfl|hg
  ·exact⟨_,aj ..,h⟩
  ·obtain⟨L,hL,e⟩:=GZ t g hg;exact⟨L,ah _ hL,e⟩
theorem FU{Ls:List fU} (hl:bH.length<=7) (h7:∀p∈bH,p.2<7) (nd:(bH.map (·.1)).Nodup) (hL:oC Ls) (hp:Ls.flatten.Perm bH) (ED:(bH.map (·.2)).Nodup):
  ∃gs,Bi bH gs/\cZ bH gs=Ls:=by
 have hfl:=hp.length_eq;have Sf:=BX λL h=>(nV hL L h).1;have Jn:∀L∈Ls,∀p∈L,p∈bH:=λL h p P4=>hp.mem_iff.mp (Bn.mpr ⟨L,h,P4⟩);have Yt:∀L∈Ls,L.length<=7:=λL h=>by
  have:=(List.sublist_flatten_of_mem h).length_le;omega
 obtain⟨gs,st',t,e,g⟩:=CO nd bH Ls [] _ hL (by omega) (CX bH) (λp h=> .inr (hp.mem_iff.mpr h)) (λp h=>⟨hp.mem_iff.mp h,by simp⟩) ((hp.map (·.1)).nodup_iff.mpr nd) λL h=>by have:=Yt L h;omega
 have Cg:=G0 g;refine⟨gs,⟨hl,h7,nd,⟨st',t,e⟩,by omega,λx hx=> ?_⟩,yU nd g λL h=>⟨(nV hL L h).2,Jn L h⟩⟩;obtain⟨L,QE,RY⟩:=GZ g x hx;have Jo:x.length=L.length:=by rw[RY.length_eq,aG]
 refine⟨λh=>(nV hL L QE).1 (j2.mp (by rw[<-Jo,h];rfl)),by rw[Jo];exact Yt L QE,λt ht=> ?_,λa ha b hb om=> ?_⟩
 ·obtain⟨p,P4,rfl⟩:=aR.mp (RY.mem_iff.mp ht);exact⟨p.2,Jn L QE p P4⟩
 ·obtain⟨p,P4,rfl⟩:=aR.mp (RY.mem_iff.mp ha);obtain⟨q,hqL,rfl⟩:=aR.mp (RY.mem_iff.mp hb);have m1:=Jn L QE p P4;have m2:=Jn L QE q hqL;rw[jG (t:=p.1) (r:=p.2) nd m1,jG (t:=q.1) (r:=q.2) nd m2]at om;obtain⟨i,hi,e1⟩:=hH m1;obtain⟨j,hj,e2⟩:=hH m2;have:i=j:=Af ED (x:=p.2) (i:=i) (j:=j) (by rw[cx,ay hi,e1];rfl) (by rw[cx,ay hj,e2];exact dg some om.symm);subst this;rw[<-e1,<-e2]
def lowP (L:fU):Nat:=(fT L).1.2
def iV (L:fU):Int:=(L.headD (0,0)).1
def oT (p:Int×Nat):List fU->List fU
 |[]=>[[p]]
 |L::post=>if lowP L<p.2 then L::oT p post else(L++[p])::post
def oA (p:Int×Nat):List fU->fU
 |[]=>[]
 |L::post=>if lowP L<p.2 then oA p post else[(p.1,lowP L)]
def jl:fU->fU
 |a::b::r=>(b.1,a.2)::jl (b::r)
 |_=>[]
def oi:(Int×Nat)->fU->Int×Nat
 |p,[]=>p
 |_,q::r=>oi q r
theorem y1:∀(r:fU) (p:Int×Nat) (acc:fU),r.foldl (fun(st:(Int×Nat)×fU) pt=>(pt,st.2++[(pt.1,st.1.2)])) (p,acc)=(oi p r,acc++jl (p::r))
 |[],p,acc=>by show(p,acc)=(p,acc++[]);rw[aX]
 |q::r,p,acc=>by
  rw[iP];dsimp only;rw[y1 r q];show(oi q r,acc++[(q.1,p.2)]++jl (q::r))=(oi q r,acc++((q.1,p.2)::jl (q::r)))
  rw[bc];rfl
theorem w9(p:Int×Nat) (r:fU):fT (p::r)=(oi p r,jl (p::r)):=y1 r p []
theorem oz:∀(r:fU) (p:Int×Nat),(jl (p::r)).map (·.2)++[(oi p r).2]=(p::r).map (·.2)
 |[],p=>rfl
 |q::r,p=>by
  show p.2::((jl (q::r)).map (·.2)++[(oi q r).2])=p.2::(q::r).map (·.2);rw[oz r q]
theorem qd:∀(r:fU) (p:Int×Nat),p.1::(jl (p::r)).map (·.1)=(p::r).map (·.1)
 |[],p=>rfl
 |q::r,p=>by
  show p.1::(q.1::(jl (q::r)).map (·.1))=p.1::(q::r).map (·.1);rw[qd r q]
theorem t8{L:fU} (h:L≠[]) (p:Int×Nat):fT (L++[p])=(p,(fT L).2++[(p.1,lowP L)]):=by
 cases L with
 |nil=>exact absurd rfl h
 |cons a r=>exact vV a p r
theorem pR{L:fU} (h:L≠[]):(fT L).1∈L:=by
 cases L with
 |nil=>exact absurd rfl h
 |cons a r=>exact y2 r a
theorem BV:∀{L:fU},L.Pairwise (λa b=>a.1<b.1/\b.2<a.2)->∀a∈L,lowP L<=a.2
 |p::r,h,a,ha=>by
  unfold lowP;rw[w9];show(oi p r).2<=a.2
  induction r generalizing p a with
  |nil=>rw[aA.mp ha];exact aJ _
  |cons q r ih=>
   obtain⟨h1,h2⟩:=bS.mp h;rcases aK.mp ha with rfl|ha
   ·have:=ih q h2 q (aj ..);have:=(h1 q (aj ..)).2;show(oi q r).2<=_
    omega
   ·exact ih q h2 a ha
theorem tO{p:Int×Nat}:∀{Ls:List fU},(oT p Ls).flatten.Perm (p::Ls.flatten)
 |[]=> .refl _
 |L::post=>by
  unfold oT;split
  ·rw[bl,bl];exact(tO.append_left L).trans dw
  ·rw[bl,bl,bc];exact dw
theorem si{p b:Int×Nat} {Ls:List fU}:b∈(oT p Ls).flatten↔b=p\/b∈Ls.flatten:=by
 rw[tO.mem_iff,aK]
theorem Gs{p:Int×Nat}:∀{Ls:List fU},oC Ls->(∀q∈Ls.flatten,q.1<p.1/\q.2≠p.2)->oC (oT p Ls)
 |[],_,_=>⟨by simp,by simp,λb h=>by simp at h,λa ha b hb=>by
   have:b=p:=by simpa using hb
   have:a=p:=by simpa using ha
   subst_vars;exact λh=>absurd h.1 (by omega),λb h=>by simp at h,trivial⟩
 |L::post,⟨apart_at,tU,AP,c1,c2,pY⟩,hp=>by
  rw[bl]at hp;have hL:∀q∈L,q.1<p.1/\q.2≠p.2:=λq h=>hp q (aI _ h);have hP:∀q∈post.flatten,q.1<p.1/\q.2≠p.2:=λq h=>hp q (aW _ h);unfold oT;by_cases hc:lowP L<p.2
  ·rw[aD hc];refine⟨apart_at,tU,λb hb=> ?_,λa ha b hb=> ?_,λb hb=> ?_,Gs pY hP⟩
   ·rcases si.mp hb with rfl|h
    ·exact hc
    ·exact AP b h
   ·rcases au.mp hb with h|h
    ·exact c1 a ha b (aI _ h)
    ·rcases si.mp h with rfl|h
     ·exact λq=>by have:=(hL a ha).1;have:=q.1;omega
     ·exact c1 a ha b (aW _ h)
   ·rcases si.mp hb with rfl|h
    ·exact⟨(fT L).1,aI _ (pR apart_at),(hL _ (pR apart_at)).1,hc⟩
    ·obtain⟨a,ha,f_tup⟩:=c2 b h;refine⟨a, ?_,f_tup⟩;rcases au.mp ha with h|h
     ·exact aI _ h
     ·exact aW _ (si.mpr (.inr h))
  ·rw[aC hc];have f_tup:p.2<lowP L:=by
    have:=(hL _ (pR apart_at)).2;unfold lowP at hc ⊢;omega
   have GI:lowP (L++[p])=p.2:=by
    show(fT (L++[p])).1.2=p.2
    rw[t8 apart_at]
   refine⟨by simp, ?_,λb hb=> ?_,λa ha b hb=> ?_,λb hb=> ?_,pY⟩
   ·rw[uD];refine⟨tU,by simp,λa ha b hb=> ?_⟩;rw[aA.mp hb];have:=BV tU a ha;exact⟨(hL a ha).1,by omega⟩
   ·have:lowP L<b.2:=AP b hb;show lowP (L++[p])<b.2;rw[GI];omega
   ·rw[bc]at hb;rcases au.mp ha with ha|ha
    ·rcases au.mp hb with h|h
     ·exact c1 a ha b (aI _ h)
     ·rcases au.mp h with h|h
      ·rw[aA.mp h];exact λq=>by have:=(hL a ha).1;have:=q.1;omega
      ·exact c1 a ha b (aW _ h)
    ·rw[aA.mp ha];rcases au.mp hb with h|h
     ·have:=BV tU b h;exact λq=>by have:=q.2;omega
     ·rcases au.mp h with h|h
      ·rw[aA.mp h];exact λq=>by have:=q.1;omega
      ·have:lowP L<b.2:=AP b h;exact λq=>by have:=q.2;omega
   ·obtain⟨a,ha,h⟩:=c2 b hb;refine⟨a, ?_,h⟩;rcases au.mp ha with h|h
    ·exact aI _ (aI _ h)
    ·exact aW _ h
theorem yF{p:Int×Nat}:∀{Ls:List fU},oC Ls->(jH (oT p Ls)).Perm (jH Ls++oA p Ls)
 |[],_=> .refl _
 |L::post,⟨apart_at,tU,AP,c1,c2,pY⟩=>by
  unfold oT oA;split
  ·have ih:=yF (p:=p) pY;show((fT L).2++jH (oT p post)).Perm ((fT L).2++jH post++oA p post)
   rw[bc];exact ih.append_left _
  ·show((fT (L++[p])).2++jH post).Perm ((fT L).2++jH post++[(p.1,lowP L)])
   rw[t8 apart_at];show((fT L).2++[(p.1,lowP L)]++jH post).Perm _
   rw[bc,bc];exact OC.append_left _
theorem Dl{x:Nat} {row:List Nat} (h:∀y∈row,¬y<x):cR x row=[]:=by
 unfold cR;rw[List.filterMap_eq_nil_iff];intro y hy;rw[aC (h y hy)]
theorem pX{p:Int×Nat}:∀{Ls:List fU},oC Ls->(∀q∈Ls.flatten,q.2≠p.2)->
  ((cR p.2 (Ls.map lowP)).length=(Ls.map lowP).length/\oT p Ls=Ls++[[p]]/\oA p Ls=[])\/
  ((cR p.2 (Ls.map lowP)).length<(Ls.map lowP).length/\(oT p Ls).map lowP=(Ls.map lowP).set (cR p.2 (Ls.map lowP)).length p.2/\(oT p Ls).map iV=Ls.map iV/\oA p Ls=[(p.1,(Ls.map lowP).getD (cR p.2 (Ls.map lowP)).length 0)])
 |[],_,_=> .inl ⟨rfl,rfl,rfl⟩
 |L::post,⟨apart_at,tU,AP,c1,c2,pY⟩,hp=>by
  rw[bl]at hp;rw[aS];by_cases hc:lowP L<p.2
  ·have e:cR p.2 (lowP L::post.map lowP)=1::cR p.2 (post.map lowP):=by
    unfold cR;rw[de,aD hc]
   rw[e];unfold oT oA;rw[aD hc,aD hc];rcases pX (p:=p) pY λq h=>hp q (aW _ h)with⟨h1,h2,h3⟩|⟨h1,h2,h3,h4⟩
   ·exact .inl ⟨by rw[aq,aq,h1],by rw[h2];rfl,h3⟩
   ·refine .inr ⟨by rw[aq,aq];omega, ?_, ?_, ?_⟩
    ·rw[aS,h2];rfl
    ·rw[aS,h3];rfl
    ·rw[h4];rfl
  ·have f_tup:p.2<lowP L:=by
    have:=hp _ (aI _ (pR apart_at));unfold lowP at hc ⊢;omega
   have e:cR p.2 (lowP L::post.map lowP)=[]:=by
    refine Dl λy hy=> ?_;rcases aK.mp hy with rfl|hy
    ·exact hc
    ·obtain⟨B,hB,rfl⟩:=aR.mp hy;have Vx:=(nV pY B hB).1;have h:lowP L<(fT B).1.2:=AP _ (Bn.mpr ⟨B,hB,pR Vx⟩);unfold lowP at h f_tup ⊢;omega
   rw[e];unfold oT oA;rw[aC hc,aC hc];refine .inr ⟨by simp, ?_, ?_,rfl⟩
   ·show lowP (L++[p])::post.map lowP=p.2::post.map lowP;have GI:lowP (L++[p])=p.2:=by
     show(fT (L++[p])).1.2=p.2
     rw[t8 apart_at]
    rw[GI]
   ·show iV (L++[p])::post.map iV=iV L::post.map iV
    cases L with
    |nil=>exact absurd rfl apart_at
    |cons a r=>rfl
abbrev zh:=List (List Nat)×List (List Int)
def me (st:zh) (p:Int×Nat):zh:=eK p.1 p.2 st.1 st.2
def dB (bH:fU):zh:=bH.foldl me ([],[])
theorem xN(bH:fU) (p:Int×Nat):dB (bH++[p])=me (dB bH) p:=by
 unfold dB;rw[fA];rfl
structure PI (done:fU) (Ls:List fU) (B:fU) (st:zh):Prop where
 ok:oC Ls
 perm:Ls.flatten.Perm done
 next:(jH Ls).Perm B
 bt:B.Pairwise (λa b=>a.1<b.1)
 bm:∀b∈B,∃q∈done,b.1=q.1
 tab:(done=[]/\st=([],[]))\/(done≠[]/\st=(Ls.map lowP::(dB B).1,Ls.map iV::(dB B).2))
theorem PI.step {done B:fU} {Ls:List fU} {st:zh} {p:Int×Nat} (H:PI done Ls B st) (hp:∀q∈done,q.1<p.1/\q.2≠p.2):PI (done++[p]) (oT p Ls) (B++oA p Ls) (me st p):=by
 have hq:∀q∈Ls.flatten,q.1<p.1/\q.2≠p.2:=λq h=>hp q (H.perm.mem_iff.mp h);have KI:∀b∈oA p Ls,b.1=p.1:=λb hb=>by
  rcases pX H.ok λq h=>(hq q h).2 with⟨_,_,h3⟩|⟨_,_,_,h4⟩
  ·rw[h3]at hb;cases hb
  ·rw[h4]at hb;rw[aA.mp hb]
 refine⟨Gs H.ok hq,tO.trans ((H.perm.cons p).trans (OC (l₁:=[p]))),(yF H.ok).trans (H.next.append_right _), ?_,λb hb=> ?_,.inr ⟨by simp, ?_⟩⟩
 ·rw[uD];refine⟨H.bt, ?_,λa ha b hb=> ?_⟩
  ·rcases pX H.ok λq h=>(hq q h).2 with⟨_,_,h3⟩|⟨_,_,_,h4⟩
   ·rw[h3];exact .nil
   ·rw[h4];simp
  ·obtain⟨q,zB,e⟩:=H.bm a ha;rw[e,KI b hb];exact(hp q zB).1
 ·rcases au.mp hb with h|h
  ·obtain⟨q,zB,e⟩:=H.bm b h;exact⟨q,aI _ zB,e⟩
  ·exact⟨p,by simp,KI b h⟩
 ·rcases H.tab with⟨h1,h2⟩|⟨h1,h2⟩
  ·subst h1 h2;have e1:Ls.flatten=[]:=List.perm_nil.mp H.perm;have e2:Ls=[]:=by
    cases Ls with
    |nil=>rfl
    |cons L Ls=>
     rw[bl]at e1;exact absurd (List.append_eq_nil_iff.mp e1).1 H.ok.1
   subst e2;have e3:B=[]:=wc.mp H.next;subst e3;rfl
  ·subst h2;rcases pX H.ok λq h=>(hq q h).2 with⟨h3,h4,h5⟩|⟨h3,h4,h5,h6⟩
   ·rw[h4,h5,aX,bq,bq];show eK p.1 p.2 (Ls.map lowP::(dB B).1) (Ls.map iV::(dB B).2)=_
    rw[eK,aD h3];rfl
   ·rw[h4,h5,h6,xN];show eK p.1 p.2 (Ls.map lowP::(dB B).1) (Ls.map iV::(dB B).2)=_
    rw[eK,aC (by omega)];rfl
theorem PI.all:∀(rest:fU) {done B:fU} {Ls:List fU} {st:zh},PI done Ls B st->(done++rest).Pairwise (λa b=>a.1<b.1/\a.2≠b.2)->∃WX B',PI (done++rest) WX B' (rest.foldl me st)
 |[],done,B,Ls,st,H,_=>⟨Ls,B,by rw[aX];exact H⟩
 |p::rest,done,B,Ls,st,H,h=>by
  have h':=h;rw[uD]at h';have H':=H.step (p:=p) λq hq=>h'.2.2 q hq p (aj ..);have e:done++p::rest=done++[p]++rest:=by rw[bc];rfl
  rw[e]at h;obtain⟨WX,B',K⟩:=PI.all rest H' h;exact⟨WX,B',by rw[e];exact K⟩
theorem PI.nil:PI [] [] [] ([],[]):=⟨trivial,.refl _,.refl _,.nil,λ_ h=>(nomatch h),.inl ⟨rfl,rfl⟩⟩
theorem xP(apart_at:bH≠[]) (h:bH.Pairwise (λa b=>a.1<b.1/\a.2≠b.2)):∃Ls B,oC Ls/\Ls.flatten.Perm bH/\(jH Ls).Perm B/\B.Pairwise (λa b=>a.1<b.1)/\dB bH=(Ls.map lowP::(dB B).1,Ls.map iV::(dB B).2):=by
 obtain⟨Ls,B,H⟩:=PI.all bH PI.nil (by simpa using h);rw[eN]at H;rcases H.tab with⟨h1,_⟩|⟨_,h2⟩
 ·exact absurd h1 apart_at
 ·exact⟨Ls,B,H.ok,H.perm,H.next,H.bt,h2⟩
theorem rt:∀{Ls:List fU},(∀L∈Ls,L≠[])->((jH Ls).map (·.2)++Ls.map lowP).Perm (Ls.flatten.map (·.2))
 |[],_=> .refl _
 |L::Ls,h=>by
  have ih:=rt λL' h'=>h L' (ah _ h');cases L with
  |nil=>exact absurd rfl (h _ (aj ..))
  |cons p r=>
   have e:=oz r p;have e2:=w9 p r;rw[bl,bq,<-e];show(((fT (p::r)).2++jH Ls).map (·.2)++(lowP (p::r)::Ls.map lowP)).Perm _
   have e3:lowP (p::r)=(oi p r).2:=by unfold lowP;rw[e2]
   rw[e3,e2,bq,bc,bc];refine List.Perm.append_left _ ?_;exact dw.trans (ih.cons _)
theorem sY:∀{Ls:List fU},(∀L∈Ls,L≠[])->((jH Ls).map (·.1)++Ls.map iV).Perm (Ls.flatten.map (·.1))
 |[],_=> .refl _
 |L::Ls,h=>by
  have ih:=sY λL' h'=>h L' (ah _ h');cases L with
  |nil=>exact absurd rfl (h _ (aj ..))
  |cons p r=>
   have e:=qd r p;have e2:=w9 p r;rw[bl,bq,<-e];show(((fT (p::r)).2++jH Ls).map (·.1)++(p.1::Ls.map iV)).Perm _
   rw[e2,bq];refine dw.trans ?_;rw[bG];refine List.Perm.cons _ ?_;rw[bc];exact ih.append_left _
theorem yi{x:Nat}:∀{row:List Nat} {j:Nat},j<row.length->(row.getD j 0::row.set j x).Perm (x::row)
 |a::row,0,_=> .swap ..
 |a::row,j+1,h=>by
  have ih:=yi (x:=x) (row:=row) (j:=j) (by rw[aq]at h;omega);show(row.getD j 0::a::row.set j x).Perm (x::a::row)
  exact(List.Perm.swap ..).trans ((ih.cons a).trans (.swap ..))
theorem vK{t:Int}:∀{x:Nat} {rows:List (List Nat)} {grown:List (List Int)},grown.length=rows.length->(eK t x rows grown).1.flatten.Perm (x::rows.flatten)/\(eK t x rows grown).2.flatten.Perm (t::grown.flatten)/\(eK t x rows grown).2.length=(eK t x rows grown).1.length
 |x,[],[],_=>⟨.refl _,.refl _,rfl⟩
 |x,[],g::grown,h=>by simp at h
 |x,row::rows,[],h=>by simp at h
 |x,row::rows,g::grown,h=>by
  have h:grown.length=rows.length:=by simpa using h
  by_cases hc:(cR x row).length=row.length
  ·rw[eK,aD hc];refine⟨?_, ?_,by simp [h]⟩
   ·rw[bl,bl,bc];exact dw
   ·rw[bl,bl,bc];exact dw
  ·have f_tup:(cR x row).length<row.length:=by have:=sR x row;omega
   rw[eK,aC hc];obtain⟨i1,i2,i3⟩:=vK (t:=t) (x:=row.getD (cR x row).length 0) h;refine⟨?_, ?_,by rw[aq,aq,i3]⟩
   ·rw[bl,bl];refine(i1.append_left _).trans ?_;refine dw.trans ?_;rw[<-bG,<-bG];exact(yi f_tup).append_right _
   ·rw[bl,bl];exact(i2.append_left _).trans dw
theorem xO:∀(bH:fU),(dB bH).1.flatten.Perm (bH.map (·.2))/\(dB bH).2.flatten.Perm (bH.map (·.1))/\(dB bH).2.length=(dB bH).1.length:=by
 suffices h:∀(bH:fU) (st:zh),st.2.length=st.1.length->(bH.foldl me st).1.flatten.Perm (bH.map (·.2)++st.1.flatten)/\(bH.foldl me st).2.flatten.Perm (bH.map (·.1)++st.2.flatten)/\(bH.foldl me st).2.length=(bH.foldl me st).1.length by
  intro bH;have:=h bH ([],[]) rfl;simpa [dB] using this
 intro bH;induction bH with
 |nil=>intro st h;exact⟨.refl _,.refl _,h⟩
 |cons p bH ih=>
  intro st h;obtain⟨k1,k2,k3⟩:=vK (t:=p.1) (x:=p.2) h;obtain⟨i1,i2,i3⟩:=ih (me st p) k3;rw[iP];refine⟨i1.trans ?_,i2.trans ?_,i3⟩
  ·rw[aS,bG];exact(k1.append_left _).trans dw
  ·rw[aS,bG];exact(k2.append_left _).trans dw
section
variable {α:Type} {key:α->Int}
theorem vq(hk:∀a b,key a=key b->a=b) {A B:List α} (h:A.Perm B):cD (gY key) A=cD (gY key) B:=
 ki (cw.trans (h.trans cw.symm)) dI dI λa _ b _=>hk a b
theorem m7(hk:∀a b,key a=key b->a=b) {A:List α} (nd:A.Nodup):(cD (gY key) A).Pairwise λa b=>key a<key b:=by
 have Z0:(cD (gY key) A).Nodup:=cw.nodup_iff.mpr nd;refine NI (R:=λa b=>key a<=key b) (S:=λa b=>a≠b) (λa b h1 h2=> ?_) dI Z0;rcases Int.lt_or_eq_of_le h1 with h|h
 ·exact h
 ·exact absurd (hk a b h) h2
theorem oK:∀{as S:List α},as.Pairwise (λa b=>key a<key b)->S.Pairwise (λa b=>key a<key b)->(∀x∈S,x∈as)->S.Sublist as
 |as,[],_,_,_=>List.nil_sublist _
 |[],s::S,_,_,h=>absurd (h s (aj ..)) (by simp)
 |a::as,s::S,h1,h2,h=>by
  obtain⟨a1,a2⟩:=bS.mp h1;obtain⟨b1,b2⟩:=bS.mp h2;rcases aK.mp (h s (aj ..))with e|hs
  ·subst e;refine .cons_cons _ (oK a2 b2 λx hx=> ?_);rcases aK.mp (h x (ah _ hx))with e|q
   ·subst e;have:=b1 x hx;omega
   ·exact q
  ·have has:=a1 s hs;refine .cons _ (oK a2 h2 λx hx=> ?_);rcases aK.mp (h x hx)with e|q
   ·subst e;rcases aK.mp hx with e|hx
    ·subst e;exact hs
    ·have:=b1 x hx;omega
   ·exact q
theorem BW[DecidableEq α] (hk:∀a b,key a=key b->a=b) {S R A:List α} (nd:A.Nodup) (hA:A.Perm (S++R)):IA key (cD (gY key) A) (cD (gY key) (S++S))=(cD (gY key) R,[]):=by
 have TJ:=hA.nodup_iff.mp nd;obtain⟨ZX,ndR,dis⟩:=bT.mp TJ;unfold IA;rw[zV λa _ b _=>hk a b];have Ui:(cD (gY key) S).Sublist (cD (gY key) A):=oK (m7 hk nd) (m7 hk ZX) λx hx=>il.mpr (hA.mem_iff.mpr (aI _ (il.mp hx)));rw[qC (by omega) (m7 hk nd) Ui];congr 1;refine ki (key:=key) ?_ (dI.sublist S7) dI λa _ b _=>hk a b;refine((cw.filter _).trans (hA.filter _)).trans ?_;rw[xx];have e1:S.filter (λx=>decide (x∉cD (gY key) S))=[]:=by
  rw[List.filter_eq_nil_iff];intro x hx;simpa using il.mpr hx
 have e2:R.filter (λx=>decide (x∉cD (gY key) S))=R:=by
  rw[S8];intro x hx;refine cH λh=> ?_;exact dis x (il.mp h) x hx rfl
 rw[e1,e2,eN];exact cw.symm
end
def Bs (st:zh):List nG:=(List.range st.1.length).map (pA st.1 st.2)
theorem zK(r:List Nat) (R:List (List Nat)) (g:List Int) (G:List (List Int)):Bs (r::R,g::G)=pA (r::R) (g::G) 0::Bs (R,G):=by
 unfold Bs;rw[aq,List.range_succ_eq_map,aS,eD];rfl
theorem BP(a b:Nat) (h:Int.ofNat a=Int.ofNat b):a=b:=Int.ofNat.inj h
theorem Iv:∀(n:Nat) (bH sQ:fU),bH.length<=n->bH.length<=7->bH.Pairwise (λa b=>a.1<b.1)->(bH.map (·.2)).Nodup->(∀p∈bH,p.2<7)->sQ.Perm bH->Passes n sQ (Bs (dB bH)):=by
 intro n;induction n with
 |zero=>
  intro bH sQ hn _ _ _ _ _;have:bH=[]:=j2.mp (by omega);subst this;exact .nil
 |succ n ih=>
  intro bH sQ hn h7l ht ED h7 hp;by_cases apart_at:bH=[]
  ·subst apart_at;have e:=List.perm_nil.mp hp;subst e;exact .idle (ih [] [] (bW _) (bW _) .nil .nil (λ_ h=>(nomatch h)) (.refl _))
  ·have XZ:bH.Pairwise (λa b=>a.1<b.1/\a.2≠b.2):=by
    refine NI (R:=λa b=>a.1<b.1) (S:=λa b=>a.2≠b.2) (λa b h1 h2=>⟨h1,h2⟩) ht ?_;exact i9.mp ED
   obtain⟨Ls,B,hok,tS,Cd,hbt,yH⟩:=xP apart_at XZ;have hnd:(bH.map (·.1)).Nodup:=by
    refine i9.mpr (ht.imp λh=>by omega)
   have Qb:(sQ.map (·.1)).Nodup:=(hp.map _).nodup_iff.mpr hnd;have PQ:(sQ.map (·.2)).Nodup:=(hp.map _).nodup_iff.mpr ED;obtain⟨gs,ok,GJ⟩:=FU (bH:=sQ) (Ls:=Ls) (by rw[hp.length_eq];exact h7l) (λp h=>h7 p (hp.mem_iff.mp h)) Qb hok (tS.trans hp.symm) PQ;have QD:∀L∈Ls,L≠[]:=λL h=>(nV hok L h).1;have nt:=(rt QD).trans (tS.map _);have nu:=(sY QD).trans (tS.map _);have hLs:1<=Ls.length:=by
    cases Ls with
    |nil=>exact absurd (wc.mp tS) apart_at
    |cons a b=>simp
   have hBl:B.length+Ls.length=bH.length:=by
    have:=nt.length_eq;rw[af,aG,aG,aG,Cd.length_eq]at this;exact this
   have ZY:((jH Ls).map (·.2)).Nodup:=(bT.mp (nt.nodup_iff.mpr ED)).1;have hB7:∀b∈B,b.2<7:=λb hb=>by
    have:b.2∈bH.map (·.2):=nt.mem_iff.mp (aI _ (aR.mpr ⟨b,Cd.mem_iff.mpr hb,rfl⟩));obtain⟨p,Kr,e⟩:=aR.mp this;rw[<-e];exact h7 p Kr
   have key:=ih B (jH Ls) (by omega) (by omega) hbt ((Cd.map _).nodup_iff.mp ZY) hB7 Cd;have Jm:sQ≠[]:=λe=>by subst e;exact apart_at (wc.mp hp)
   have hgo:=Passes.go Jm ok (by rw[GJ];exact key);rw[GJ]at hgo;have hA:=xO bH;rw[yH]at hA;have Yw:(sQ.map (·.2)).Perm (Ls.map lowP++(dB B).1.flatten):=(hp.map _).trans hA.1.symm;have AY:(sQ.map (·.1)).Perm (Ls.map iV++(dB B).2.flatten):=(hp.map _).trans hA.2.1.symm
   have e:yq sQ Ls=pA (Ls.map lowP::(dB B).1) (Ls.map iV::(dB B).2) 0:=by
    unfold yq pA;have t1:=vq (key:=Int.ofNat) BP Yw;have t2:=vq (key:=id) (λ_ _ h=>h) AY;have l1:=BW (key:=Int.ofNat) BP (S:=Ls.map lowP) PQ Yw;have l2:=BW (key:=id) (λ_ _ h=>h) (S:=Ls.map iV) Qb AY
    congr 1
   rw[yH,zK,<-e];exact hgo
theorem vN:∀(n:Nat) (a:Int),(nz a n).Pairwise (· < ·)
 |0,_=> .nil
 |n+1,a=>bS.mpr ⟨λb hb=>by have:=pQ hb;omega,vN n (a+1)⟩
theorem og(ws:List Nat):(fm ws).map (·.2)=ws:=by
 unfold fm;rw[eD];exact tN ws []
theorem yo(ws:List Nat):(fm ws).Pairwise λa b=>a.1<b.1:=by
 unfold fm;exact i9.mpr (vN _ _)
theorem Ad(ws:List Nat):(fm ws).length=ws.length:=by
 unfold fm;rw[aG,yD]
theorem CU(ws:List Nat):jh ws=dB (fm ws):=by
 unfold jh dB fm;rw[List.foldl_map];rfl
theorem Dw{ws:List Nat} (zz:ws.length=7) (h7:∀w∈ws,w<7) (nd:ws.Nodup):Passes 7 (fm ws) ((List.range (jh ws).1.length).map λd=>pA (jh ws).1 (jh ws).2 d):=by
 rw[CU];have e:=Ad ws;refine Iv 7 (fm ws) (fm ws) (by omega) (by omega) (yo ws) (by rw[og];exact nd) (λp hp=> ?_) (.refl _);have:p.2∈(fm ws).map (·.2):=aR.mpr ⟨p,hp,rfl⟩;rw[og]at this;exact h7 _ this
section
variable (f:Nat->Int)
def uT (i:Nat):Int:=f i*7+i
def jO:List Nat:=cD (gY (uT f)) (List.range 7)
def NX (r:Nat):Int×Int:=(f ((jO f).getD r 0),((jO f).getD r 0:Int))
def rg:List Nat:=(List.range 7).map λi=>(jO f).idxOf i
variable {f}
theorem FV(hi:i<7) (hj:j<7):eQ (f i,(i:Int)) (f j,(j:Int))=decide (uT f i<uT f j):=by
 unfold eQ uT;dsimp only;by_cases h:f i=f j
 ·rw[aD h,h];exact jw.mpr (by omega)
 ·rw[aC h];exact jw.mpr (by omega)
theorem sT:(jO f).Perm (List.range 7):=cw
theorem sd:(jO f).length=7:=by rw[sT.length_eq,zp]
theorem BK:i∈jO f↔i<7:=by rw[sT.mem_iff,dh]
theorem se(h:r<7):(jO f).getD r 0<7:=by
 rw[aT,ay (by rw[sd];exact h)];exact BK.mp (bw _)
theorem FW(h:r<s) (hs:s<7):uT f ((jO f).getD r 0)<uT f ((jO f).getD s 0):=by
 have pj:r<(jO f).length:=by rw[sd];omega
 have tR:s<(jO f).length:=by rw[sd];omega
 have h1:=eO.mp (dI (key:=uT f) (l:=List.range 7)) r s pj tR h;have nd:(jO f).Nodup:=sT.nodup_iff.mpr List.nodup_range;have h2:=eO.mp nd r s pj tR h;have e1:(jO f).getD r 0=(jO f)[r]:=by rw[aT,ay pj];rfl
 have e2:(jO f).getD s 0=(jO f)[s]:=by rw[aT,ay tR];rfl
 have b1:=se (f:=f) (r:=r) (by omega);have b2:=se (f:=f) (r:=s) hs;have h1:uT f (jO f)[r]<=uT f (jO f)[s]:=h1;rw[e1]at b1 ⊢;rw[e2]at b2 ⊢;unfold uT at h1 ⊢;omega
theorem LJ(hr:r<7) (hs:s<7):eQ (NX f r) (NX f s)=decide (r<s):=by
 unfold NX;rw[FV (se hr) (se hs)];rcases zm r s with h|h|h
 ·rw[cH h,cH (FW h hs)]
 ·subst h;simp
 ·have:=FW (f:=f) h hr;rw[mC (by omega),mC (by omega)]
theorem E6(hi:i<7):(rg f).getD i 0=(jO f).idxOf i:=by
 unfold rg;rw[aT,cx,List.getElem?_range hi];rfl
theorem sj(hi:i<7):(jO f).idxOf i<7/\(jO f).getD ((jO f).idxOf i) 0=i:=by
 have hm:i∈jO f:=BK.mpr hi;have h1:(jO f).idxOf i<(jO f).length:=List.idxOf_lt_length_of_mem hm;refine⟨by rw[sd]at h1;exact h1, ?_⟩;rw[aT,ay h1];exact List.getElem_idxOf h1
theorem Im(hi:i<7):NX f ((rg f).getD i 0)=(f i,(i:Int)):=by
 rw[E6 hi];unfold NX;rw[(sj hi).2]
theorem xF:(rg f).length=7:=by unfold rg;rw[aG,zp]
theorem Br:∀w∈rg f,w<7:=λw hw=>by
 obtain⟨i,hi,rfl⟩:=aR.mp hw;exact(sj (dh.mp hi)).1
theorem Io:(rg f).Nodup:=by
 unfold rg;refine i9.mpr (List.nodup_range.imp_of_mem fun{a b} ha hb om e=>om ?_);rw[<-(sj (f:=f) (dh.mp ha)).2,e,(sj (f:=f) (dh.mp hb)).2]
end
theorem F4(sa:Addr) (xs:List Int):∃st,cX ⟨iL sa xs,gj (iL sa xs) 1000 12,1000,0⟩ tG [] [.base sa] ⟨[],[]⟩=some (.ok (.bool true),st):=by
 have h:=IW (T:=NX (LA xs)) (sa:=sa) (xs:=xs) (σ:=[]) (λr s hr hs=>LJ hr hs) xF Br (λi hi=>Im hi) (Dw xF Br (Io (f:=LA xs)));unfold bK at h;split at h
 ·rename_i a st' e;exact⟨st',by rw[e,h]⟩
 ·exact h.elim
 ·exact h.elim
end Mine
theorem PySem.Challenge.cw_ij0212_01_holds : PySem.Challenge.rw_ij0212_01.Holds :=
 Mine.IY λsa xs _ => Mine.F4 sa xs
