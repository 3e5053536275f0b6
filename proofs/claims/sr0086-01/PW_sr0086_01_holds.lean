import PyProof.Rows.All
import Wide.All
import OpenK.AllK
import Wide.FinOn
import Lean
import PySem.Challenge.RW_sr0086_01
set_option Elab.async false
set_option linter.all false
set_option genSizeOf false
set_option genInjectivity false
set_option maxRecDepth 100000
open PySem renaming sizeLine -> Zyk, wpAny_bind -> Zyf, Value -> Zyd, Expr -> Zyc, Addr -> Zya, Shared -> Zym, World -> Zyh, wpAny_pure -> Zys, Heap -> Zyp, Params -> Zy1, treeTable -> Zy3, Scope -> Zy6, OsState -> ZyI, Stmt -> ZyF, wpAny_mono -> ZyB, Keeps -> ZyA, wpAny_holding -> ZyP, behindInMarks -> Zxx, builtinLookup_eq_fast -> Zxw, Around -> Zxd, starEach -> Zxn, foldedSetIterable -> Zxs, sizeLine_eq -> Zx1, wpAny_standAt -> Zx3, cellsFrom -> Zx4, typeLookup_type -> Zx8, swappedStores -> ZxV, FuncData -> ZxI, BindsTo -> ZxL, wpAny_items_cons -> ZxR, assign -> ZwX, wpAny_items_nil -> ZwV, Comprehension -> ZwK, NameKind -> ZwR, callWith_type -> ZwO, DictEntry -> Zvl, Keyword -> ZvW, Program -> Zuj, JoinOk -> Zub, Builtin -> ZuW, BoolOp -> ZuU, Result -> Zqu, Setting -> Zqq, Arguments -> Zq9, Operator -> Zjf
open Nat renaming le_trans -> Zyi, le_refl -> Zy7, zero_le -> ZyS, le_add_right -> ZyR, le_of_eq -> Zxc, zero_add -> Zxb, add_le_add -> Zxa, add_le_add_left -> Zxl, lt_of_le_of_lt -> Zxo, le_of_lt -> Zx5, lt_irrefl -> Zx7, succ_le_succ -> ZxX, add_le_add_right -> ZxJ, min_eq_left -> ZxA, lt_of_lt_of_le -> ZxM, mod_lt -> ZxT, add_assoc -> Zwi, le_add_left -> Zwg, mul_le_mul_left -> Zwf, ne_of_lt -> Zwd, add_comm -> Zwe, min_le_left -> Zwp, le_of_lt_succ -> ZwB, le_of_not_lt -> ZwP, add_right_comm -> Zvv, lt_or_eq_of_le -> Zvu, succ_pos -> Zvc, le_of_ble_eq_true -> Zva, add_sub_cancel' -> Zv1, not_lt_zero -> Zv2, lt_of_succ_lt_succ -> ZvI, min_eq_right -> ZvA, min_le_right -> ZvN, lt_succ_self -> ZvM, sub_eq_zero_of_le -> ZvS, sub_le -> ZvP, sub_le_of_le_add -> Zux, lt_succ_of_lt -> Zu3, le_succ_of_le -> Zu4, lt_succ_of_le -> Zu5, sub_lt_left_of_lt_add -> ZuX, beq -> ZuV, not_lt_of_le -> ZuJ, lt_add_of_pos_right -> ZuA, add_sub_cancel_left -> ZuN, le_antisymm -> ZuR, le_of_succ_le_succ -> ZuO, le_total -> Zq6, add_zero -> Zq8, sub_add_cancel -> ZqZ, add_sub_cancel -> ZqW, mul_succ -> ZqG, pos_of_ne_zero -> ZqF, ble -> ZqB, succ_min_succ -> ZqM, le_of_succ_le -> ZqL, lt_of_succ_lt -> ZqS, sub_pos_of_lt -> ZqO, succ -> Zjk, zero_lt_succ -> Zjg, mod_eq_of_lt -> Zjc, not_le_of_lt -> Zja, le_of_not_le -> Zjh, not_le -> Zjo, sub_lt -> Zj6, max_le -> Zj7, mul_le_mul -> ZjQ
open Option.some renaming inj -> Zyb
open List renaming length_append -> Zyn, length_map -> Zyl, mem_map -> Zye, length_cons -> Zy4, map_append -> Zy9, map_cons -> ZyZ, all_eq_true -> ZyV, getElem?_map -> ZyQ, append_assoc -> ZyC, mem_append -> ZyN, map_map -> ZyM, mem_map_of_mem -> ZyL, mem_of_getElem? -> ZyH, mem_cons -> ZyT, range -> Zxv, all_cons -> Zxj, isPrefixOf_iff_prefix -> Zxk, append_nil -> Zxh, length -> Zxe, mem_singleton -> Zx0, take_of_length_le -> Zx6, length_take -> ZxZ, not_mem_nil -> ZxY, all_nil -> ZxU, getElem_mem -> ZxG, getElem?_eq_some_iff -> ZxF, mem_flatMap -> ZxH, flatten_cons -> ZxP, forIn_cons -> Zwz, length_nil -> Zwx, mem_append_right -> Zww, eq_nil_of_length_eq_zero -> Zwv, lookup_cons -> Zwq, filterMap_cons_some -> Zwj, filterMap_cons_none -> Zwk, length_drop -> Zwa, take_append_drop -> Zwl, filterMap_eq_nil_iff -> Zwh, map_nil -> Zwo, foldl_cons -> Zw0, nil_append -> Zw1, zip -> Zw2, filter_cons_of_neg -> Zw5, map_congr_left -> Zw6, any_eq_true -> ZwZ, reverse -> ZwW, contains_iff_mem -> ZwQ, drop_eq_getElem_cons -> ZwN, mem_cons_of_mem -> ZwM, mapM_cons -> ZwH, cons_append -> ZwE, length_pos_iff -> Zvz, mem_filterMap -> Zvq, find?_cons -> Zvk, nodup_append -> Zvg, forIn_nil -> Zvd, getElem?_eq_none -> Zvb, flatten_nil -> Zvr, mem_append_left -> Zve, filterMap_cons -> Zv0, mem_of_find?_eq_some -> Zv6, mem_cons_self -> Zv9, length_filterMap_le -> ZvY, map_inj_right -> ZvX, drop_left -> ZvV, filter_cons_of_pos -> ZvJ, range_succ_eq_map -> ZvK, range' -> ZvF, sum_cons -> ZvC, drop_length -> ZvL, range'_succ -> ZvH, length_singleton -> ZvT, casesOn -> ZvR, any_map -> ZvO, mem_eraseIdx_iff_getElem? -> Zuv, flatten_append -> Zuq, mem_range -> Zui, drop_drop -> Zug, filterMap_map -> Zun, ne_nil_of_mem -> Zuh, getElem?_append_right -> Zue, map_take -> Zuo, length_eraseIdx_of_lt -> Zu0, isSuffixOf_iff_suffix -> Zu1, getElem?_nil -> Zu2, mem_range'_1 -> Zu6, extract_eq_take_drop -> Zu9, getElem?_append_left -> ZuZ, append_eq_append_iff -> ZuY, isEmpty_iff -> ZuG, mem_of_mem_eraseIdx -> ZuF, prefix_iff_eq_take -> ZuB, eraseIdx_cons_succ -> ZuM, take -> ZuL, countP_map -> ZuH, range_succ -> ZuT, nodup_cons -> ZuS, drop_of_length_le -> ZuP, flatten_singleton -> Zqy, append_eq_nil_iff -> Zqx, drop_zero -> Zqv, nodup_nil -> Zqj, drop_take -> Zqk, concat_eq_append -> Zqi, filterMap_eq_map -> Zqf, map -> Zqm, reverse_reverse -> Zql, getElem?_of_mem -> Zqr, reverse_prefix -> Zq3, flatMap_append -> Zq4, getElem_of_mem -> Zq5, drop -> Zq7, find?_eq_none -> ZqY, prefix_append -> ZqX, suffix_append -> ZqK, contains_cons -> ZqI, filter_append -> ZqD, reverse_cons -> ZqH, ext_getElem? -> ZqT, foldl_append -> ZqR, take_add_one -> Zjy, contains_nil -> Zjw, flatMap_cons -> Zjv, map_id -> Zjj, mem_toArray -> Zjd, take_length -> Zjn, map_reverse -> Zjl, find?_some -> Zj2, find? -> Zj3, find?_map -> ZjY, take_left -> ZjX, take_take -> ZjW, take_zero -> ZjV, map_drop -> ZjT, any_cons -> ZjE, rec -> Zkc
open PySem.W.Fast renaming te14364793385576792824 -> Zyt, te10110043849684766642 -> Zyr
open PySem.Heap renaming get?_push_of_some -> Zyo, get?_push_size -> ZyX, lt_size -> Zxf, SameBut -> Zwu, get?_update_other -> Zwc, size_push -> Zw9, get?_update_self -> ZwU, get?_some_iff -> Zum, get?_none_of_le -> Zqt
open Option renaming bind_some -> Zy2, none -> Zxz, isSome_some -> Zxu, getD_some -> Zvs, eq_none_or_eq_some -> Zv3, map_some -> Zv4, map_none -> Zuw, toList_none -> Zut, mem_toList -> Zu7, getD_none -> ZuQ, isSome_iff_exists -> ZuI, bind_eq_some_iff -> ZuD, casesOn -> Zqw, map -> Zqh, some -> Zju, elim -> Zjq, bind -> ZkN
open PySem.Builtin.Str renaming occurrences -> Zy8, partsBetween -> ZyD, strKind -> Zx2, strSliceIndices -> ZxN, subAt -> ZwC
open PySem.Txt renaming startswith -> ZyY, lower -> ZyU, endswith -> ZyJ, split -> ZyE, contains -> Zwt, upper -> ZwY, join -> ZwS
open Bool renaming and_eq_true -> ZyW, false_ne_true -> ZyG, not_eq_true' -> Zxg, and_true -> Zxr, and_eq_true_iff -> Zxp, eq_iff_iff -> Zx9, or_eq_true -> Zwy, false_eq_true -> Zwm, true_and -> ZwF, eq_false_iff -> ZwD, or_eq_false_iff -> ZwA, eq_false_or_eq_true -> Zv7, and_false -> Zuc, false_and -> Zqg, or_false -> Zqe, or_eq_true_iff -> Zq1, and_assoc -> Zj9, not_false -> ZjZ, false_or -> ZjL
open Exists renaming imp -> ZyK, elim -> Zxm
open Classical renaming byContradiction -> ZyO, em -> Zvf
open Array renaming getElem?_eq_getElem -> Zxt, getElem?_toList -> ZxW, getElem?_eq_some_iff -> ZwI, toList_push -> Zvi, size_push -> Zv5, length_toList -> Zqo, toList_inj -> Zjb, ext' -> Zj0
open Int renaming ofNat_lt -> ZxQ, natCast_nonneg -> Zwn, ofNat_le -> Zws, ofNat_sub -> Zvw, max_eq_right -> ZvB, fmod_eq_emod_of_nonneg -> Zup, natCast_pos -> ZuE, le_refl -> Zqz, not_lt -> Zqd, toNat_of_nonneg -> Zqp, le_trans -> ZqV, add_comm -> ZqJ, toNat_natCast -> Zjx, min_eq_left -> Zjr, le_max_left -> Zje, toNat -> ZjI
open PySem.Calls renaming callWith_builtin -> ZxK, evalArgs_plain -> Zvh, callWith_function -> ZvU, Name_function_global -> Zus
open PySem.W renaming SharedT -> ZxD
open PySem.BindsTo renaming of_eq -> ZxC, of_defaults -> Zq2
open PySem.Challenge renaming rw_sr0086_01 -> ZxB, pw_sr0086_01 -> Zud
open PySem.Str renaming ofString -> ZxS, length -> Zvt
open PySem.F renaming plain_min_loop -> ZxE, plainAttrs_list -> Zw4, plainAttrs_str -> Zw8, slot_str_split -> Zvn, type_list_append -> Zv8, args_str_split_2 -> ZvZ, entry_str_split -> ZvQ, entry_min_loop -> ZvG, slot_list_remove -> ZuK, slot_list_count -> ZuC, mro_object -> Zj4
open Eq renaming trans -> ZxO, refl -> ZjU
open PySem.Builtin.List renaming listFitsIndex -> Zwb, listSubscript? -> Zvm
open ForInStep renaming yield -> Zwr
open PySem.NameKind renaming free -> Zw3, cell -> Zvx, noConfusion -> Zqc
open PySem.Builtin renaming divisionGoesByPylong -> Zw7
open PySem.Obj renaming mapDictKeys -> ZwJ, mapSeq -> Zqn
open PySem.MeetsSeq renaming plain_remove_loop -> ZwG, entry_remove_loop -> Zur
open PySem.Around renaming under_plainId -> ZwL
open PySem.Stmt renaming casesOn -> ZwT
open PySem.Builtin.Range renaming rangeSize -> Zvy
open PySem.Value renaming int -> Zvj, builtin -> ZvD, str -> Zul, ref -> ZjK
open PySem.Value.ref renaming inj -> Zvp
open PySem.Builtin.Int renaming intBits -> Zvo
open Nat.succ renaming inj -> ZvE
open PUnit renaming unit -> Zuz
open PySem.Heap.Ns renaming of_isNs -> Zuy
open Iff renaming rfl -> Zuk
open PySem.Builtin.Builtins renaming bindParams -> Zua
open PyProof.Rows renaming Subscript_ -> Zu8, Assign_Tuple_swapped -> Zqa
open PySem.W.WShape renaming has -> Zqs, hasItems -> Zj5, hasAll -> ZjM
open Std.Legacy.Range renaming forIn_eq_forIn_range' -> Zq0, size -> Zif
open PySem.Code renaming quiet_builtin -> ZqU
open And renaming intro -> ZqQ
open Function renaming comp_def -> Zjz, comp -> ZjB
open PySem.Env renaming kindOf -> Zj1
open List.cons renaming inj -> ZjF
open Int.ofNat renaming inj -> ZjS
open PySem.SeqRoads2.EqGives renaming str -> Ziq
open PySem.Heap.IsSliceOf renaming new -> Zg3
namespace Mine.Internal
universe u v
variable {α:Type u}{β:Type v}
theorem bS{o:Option α}{f:α->Option β}{b:β}:o.bind f=some b->∃a,o=some a/\f a=some b:=ZuD.mp
theorem mS{o:Option α}{f:α->β}{b:β}:o.map f=some b->∃a,o=some a/\f a=b:=Option.map_eq_some_iff.mp
theorem gE{l:List α}{i:Nat}(h:i<l.length):l[i]?=some l[i]:=List.getElem?_eq_getElem h
theorem gD(l:List α)(i:Nat)(d:α):l.getD i d=l[i]?.getD d:=List.getD_eq_getElem?_getD
end Mine.Internal
noncomputable section
section
open PySem PySem.W PyProof.Rows
namespace Mine.Internal
theorem nS  {P:Prop}  (h:none=some r):P:=nomatch h
structure PR where
 R:(Zya->Prop)->Zyp->Zyd->Prop
 mono:∀P P' h h' v,(∀a o,h.get? a=some o->P a->P' a)->(∀a o,P a->h.get? a=some o->h'.get? a=some o)->R P h v->R P' h' v
structure ja where
 R:(Zya->Prop)->List Str->List Zyd->Zyp->Zyd->Prop
 mono:∀P P' ks vs h h' v,(∀a o,h.get? a=some o->P a->P' a)->(∀a o,P a->h.get? a=some o->h'.get? a=some o)->R P ks vs h v->R P' ks vs h' v
inductive PV where
 |Xk (S:PR)
 |box (T:ja) (ks:List Str) (l:List PV)
 |none
 |bool (b:Bool)
 |int (i:Int)
 |str (x:Str)
 |tup (l:List PV)
 |lst (l:List PV)
mutual
def Rep(P:Zya->Prop)(h:Zyp):PV->Zyd->Prop
 |.none,v=>v=.none
 |.Xk S,v=>S.R P h v
 |.box T ks l,v=>∃vs,T.R P ks vs h v/\Zy P h l vs
 |.bool b,v=>v=.bool b
 |.int i,v=>∃t,v=.int i t
 |.str x,v=>∃t,v=.str x t
 |.tup l,v=>∃a vs n,v=.ref a/\P a/\h.get? a=some { cls:=.type "tuple",data:=.seq vs n }/\Zy P h l vs.toList
 |.lst l,v=>∃a vs n,v=.ref a/\P a/\h.get? a=some { cls:=.type "list",data:=.seq vs n }/\Zy P h l vs.toList
def Zy(P:Zya->Prop)(h:Zyp):List PV->List Zyd->Prop
 |[],vs=>vs=[]
 |d::ds,vs=>∃v r,vs=v::r/\Rep P h d v/\Zy P h ds r
end
abbrev ZT(h h':Zyp):Prop:=∀b o,h.get? b=some o->h'.get? b=some o
mutual
theorem Rep.mono{P P':Zya->Prop}{h h':Zyp}(hP:∀a o,h.get? a=some o->P a->P' a)(hk:∀a o,P a->h.get? a=some o->h'.get? a=some o):∀{d:PV}{v:Zyd},Rep P h d v->Rep P' h' d v
 |.none,_,x=>x
 |.Xk S,_,x=>S.mono _ _ _ _ _ hP hk x
 |.box T ks l,v,x=>ZyK (λvs t=>⟨T.mono _ _ _ _ _ _ _ hP hk t.1,Zy.mono hP hk t.2⟩) x
 |.bool _,_,x=>x
 |.int _,_,x=>x
 |.str _,_,x=>x
 |.tup l,v,x=>ZyK (λa=>ZyK λvs=>ZyK λn t=>⟨t.1,hP _ _ t.2.2.1 t.2.1,hk _ _ t.2.1 t.2.2.1,Zy.mono hP hk t.2.2.2⟩) x
 |.lst l,v,x=>ZyK (λa=>ZyK λvs=>ZyK λn t=>⟨t.1,hP _ _ t.2.2.1 t.2.1,hk _ _ t.2.1 t.2.2.1,Zy.mono hP hk t.2.2.2⟩) x
theorem Zy.mono{P P':Zya->Prop}{h h':Zyp}(hP:∀a o,h.get? a=some o->P a->P' a)(hk:∀a o,P a->h.get? a=some o->h'.get? a=some o):∀{ds:List PV}{vs:List Zyd},Zy P h ds vs->Zy P' h' ds vs
 |[],_,x=>x
 |d::ds,vs,x=>ZyK (λv=>ZyK λr t=>⟨t.1,Rep.mono hP hk t.2.1,Zy.mono hP hk t.2.2⟩) x
end
theorem Rep.ext     (x:Rep P h d v)(hk:ZT h h'):Rep P h' d v:=x.mono (λ_ _ _ p=>p) λa o _ e=>hk a o e
theorem Zy.ext     (x:Zy P h d v)(hk:ZT h h'):Zy P h' d v:=x.mono (λ_ _ _ p=>p) λa o _ e=>hk a o e
theorem Zy.length  :∀{ds:List PV}{vs:List Zyd},Zy P h ds vs->vs.length=ds.length
 |[],_,x=>congrArg Zxe x
 |d::ds,vs,x=>Zxm x λv t=>t.elim λr t=>(congrArg Zxe t.1).trans (congrArg Zjk (Zy.length t.2.2))
theorem Zy.get  {h:Zyp}:∀{ds:List PV}{vs:List Zyd}{i:Nat}{d:PV},Zy P h ds vs->ds[i]?=some d->∃v,vs[i]?=some v/\Rep P h d v
 |[],_,i,d,_,e=>nS (Zu2.symm.trans e)
 |d::ds,vs,0,d',x,e=>Zxm x λv t=>t.elim λr t=>⟨v,congrArg (·[0]?) t.1,Zyb e ▸ t.2.1⟩
 |d::ds,vs,i+1,d',x,e=>Zxm x λv t=>t.elim λr t=>(Zy.get t.2.2 (show ds[i]?=some d' from e)).imp λu z=>⟨(congrArg (·[i+1]?) t.1).trans z.1,z.2⟩
theorem Zy.append  :∀{ds es:List PV}{vs ws:List Zyd},Zy P h ds vs->Zy P h es ws->Zy P h (ds++es) (vs++ws)
 |[],es,vs,ws,x,y=>(congrArg (λv=>Zy P h es (v++ws)) (show vs=[] from x)).mpr y
 |d::ds,es,vs,ws,x,y=>ZyK (λv t=>t.elim λr t=>⟨r++ws,congrArg (·++ws) t.1,t.2.1,Zy.append t.2.2 y⟩) x
theorem Zy.head       (r:Zy P h (d::ds) (v::vs)):Rep P h d v:=Zxm r λ_ t=>t.elim λ_ t=>(ZjF t.1).1 ▸ t.2.1
theorem Zy.tail       (r:Zy P h (d::ds) (v::vs)):Zy P h ds vs:=Zxm r λ_ t=>t.elim λ_ t=>(ZjF t.1).2 ▸ t.2.2
theorem Zy.one     (x:Rep P h d v):Zy P h [d] [v]:=⟨v,[],rfl,x,rfl⟩
theorem Zy.nil  :Zy P h [] []:=rfl
theorem Zy.cons       (x:Rep P h d v)(y:Zy P h ds vs):Zy P h (d::ds) (v::vs):=⟨v,vs,rfl,x,y⟩
def ZD(P:Zya->Prop)(h:Zyp):Prop:=∀a,¬P a->∃o,h.get? a=some o
theorem ZD.ext   (x:ZD P h)(hk:ZT h h'):ZD P h':=λa n=>(x a n).imp λo e=>hk _ _ e
theorem ZD.new   (x:ZD P h):P h.objs.size:=by
 refine ZyO λn=>?_
 obtain⟨o,e⟩:=x _ n
 exact absurd (Zxf e) (Zx7 _)
structure Yw(k:Nat)(A:Zxd):Prop where
 handled:A.handled=none
 depth:A.depth+k<recursionLimit
 units:A.units+16*k+16<cLine
structure LP(mg mb:Str->Option Zyd)(K:Zyp->Prop)(h:Zyp):Prop where
 g:h.Ns mainGlobals mg
 b:h.Ns builtinsNs mb
 nolimit:h.NoLimit
 YG:K h
def Loc(env:Env)(h:Zyp)(x:Str)(v:Zyd):Prop:=
 (env.kindOf x=some .local/\∃m,h.Ns env.locals m/\m x=some v)∨
 ((env.kindOf x=some .cell∨env.kindOf x=some .free)/\∃c,env.cells.lookup x=some c/\h.IsCell c (some v))
theorem Loc.ext     (l:Loc env h x v)(hk:ZT h h'):Loc env h' x v:=by
 rcases l with ⟨a,m,hm,e⟩ |⟨a,c,hc,e⟩
 ·exact .inl ⟨a,m,hm.keeps hk,e⟩
 ·exact .inr ⟨a,c,hc,e.keeps hk⟩
structure TabAt(h:Zyp)(c:Zya)(x d b:Zya)(vs:List Zyd):Prop where
 inst:h.get? x=some { cls:=.ref c,dict:=some d,data:=.plain }
 ns:h.Ns1 d (λy=>if y=("_headers":Str) then some (.ref b) else none)
 list:∃ws n,h.get? b=some { cls:=.type "list",data:=.seq ws n }/\ws.toList=vs
theorem TabAt.at    (T:TabAt h c x d b vs)(hk:∀a o,(a=x∨a=d∨a=b)->h.get? a=some o->h'.get? a=some o):TabAt h' c x d b vs:=
 ⟨hk _ _ (.inl rfl) T.inst,T.ns.at λo e=>hk _ o (.inr (.inl rfl)) e,T.list.imp λws t=>t.imp λn t=>⟨hk _ _ (.inr (.inr rfl)) t.1,t.2⟩⟩
theorem TabAt.lives    (T:TabAt h c x d b vs):(∃o,h.get? x=some o)/\(∃o,h.get? d=some o)/\∃o,h.get? b=some o:=
 ⟨⟨_,T.inst⟩,ZyK (λo t=>t.elim λ_ t=>t.elim λ_ t=>t.1) T.ns,T.list.elim λ_ t=>t.elim λ_ t=>⟨_,t.1⟩⟩
noncomputable def Z8(c:Zya):ja where
 R:=λP _ vs h v=>∃x d b,v=.ref x/\P x/\P d/\P b/\TabAt h c x d b vs
 mono:=λP P' ks vs h h' v hP hk=>ZyK λx=>ZyK λd=>ZyK λb t=>have T:=t.2.2.2.2
  ⟨t.1,T.lives.1.elim λo e=>hP _ _ e t.2.1,T.lives.2.1.elim λo e=>hP _ _ e t.2.2.1,T.lives.2.2.elim λo e=>hP _ _ e t.2.2.2.1,T.at λa o q e=>hk a o (q.elim (λq=>q ▸ t.2.1) λq=>q.elim (λq=>q ▸ t.2.2.1) λq=>q ▸ t.2.2.2.1) e⟩
theorem Ca      {R:Prop}(r:Rep P h (.box (Z8 c) [] l) v)(q:∀vs x d b,v=.ref x->P x->P d->P b->TabAt h c x d b vs->Zy P h l vs->R):R:=
 Zxm r λvs t=>Zxm t.1 λx z=>z.elim λd z=>z.elim λb z=>q vs x d b z.1 z.2.1 z.2.2.1 z.2.2.2.1 z.2.2.2.2 t.2
inductive AV where
 |val (d:PV)
 |own (l:List PV)
 |tab (c:Zya) (l:List PV)
abbrev Zx:=Str->Option AV
def U3(P:Zya->Prop)(env:Env)(h:Zyp)(x:Str):AV->Prop
 |.val d=>∃v,Loc env h x v/\Rep P h d v
 |.own ds=>∃a vs n,Loc env h x (.ref a)/\h.get? a=some { cls:=.type "list",data:=.seq vs n }/\Zy P h ds vs.toList
 |.tab c ds=>∃a d b vs,Loc env h x (.ref a)/\TabAt h c a d b vs/\Zy P h ds vs
def X7(P:Zya->Prop)(env:Env)(U:Zx)(h:Zyp):Prop:=∀x a,U x=some a->U3 P env h x a
theorem U3.ext      (H:U3 P env h x a)(hk:ZT h h'):U3 P env h' x a:=by
 cases a with
 |val d=>exact ZyK (λv t=>⟨t.1.ext hk,t.2.ext hk⟩) H
 |own ds=>exact ZyK (λb=>ZyK λvs=>ZyK λn t=>⟨t.1.ext hk,hk _ _ t.2.1,t.2.2.ext hk⟩) H
 |tab c ds=>exact ZyK (λa=>ZyK λd=>ZyK λb=>ZyK λvs t=>⟨t.1.ext hk,t.2.1.at λa o _ e=>hk a o e,t.2.2.ext hk⟩) H
theorem X7.ext     (H:X7 P env U h)(hk:ZT h h'):X7 P env U h':=λx a e=>(H x a e).ext hk
theorem Z3(s:Zym):ZyA s s:=⟨s.heap,s.toks,rfl,λ_ _ e=>e⟩
theorem Zu  (a:ZyA s s₁)(b:ZyA s₁ s₂):ZyA s s₂:=by
 obtain⟨h,t,rfl,k⟩:=a
 obtain⟨h',t',rfl,k'⟩:=b
 exact⟨h',t',rfl,λx o e=>k' x o (k x o e)⟩
theorem Zw  (a:ZyA s s'):ZT s.heap s'.heap:=by obtain⟨h,t,rfl,k⟩:=a;exact k
theorem ZU(s:Zym)(t:Nat):ZyA s { s with toks:=t }:=⟨s.heap,t,rfl,λ_ _ e=>e⟩
theorem YL(s:Zym)(o:Obj):ZyA s { s with heap:=s.heap.push o }:=⟨_,s.toks,rfl,λ_ _ e=>Zyo o e⟩
theorem LP.ext  {K:Zyp->Prop}  (hK:∀h h',K h->ZT h h'->K h')(G:LP mg mb K h)(hk:ZT h h'):LP mg mb K h':=
 ⟨G.g.keeps hk,G.b.keeps hk,G.nolimit.keeps hk,hK _ _ G.YG hk⟩
structure Cx where
 prog:Zuj
 w:Zyh
 mg:Str->Option Zyd
 mb:Str->Option Zyd
 K:Zyp->Prop
 keep:∀h h',K h->ZT h h'->K h'
abbrev Cx.M(C:Cx):Model:=model C.prog C.w
abbrev Cx.G(C:Cx)(h:Zyp):Prop:=LP C.mg C.mb C.K h
theorem Cx.ext(C:Cx){h h':Zyp}(G:C.G h)(hk:ZT h h'):C.G h':=LP.ext C.keep G hk
structure Zp(env:Env):Prop where
 kind:env.scope.kind=.function
 globals:env.globals=mainGlobals
 builtins:env.builtins=builtinsNs
def Ev(C:Cx)(k:Nat)(env:Env)(U:Zx)(e:Zyc)(d:PV):Prop:=
 ∀A s Q E P,Yw k A->C.G s.heap->X7 P env U s.heap->ZD P s.heap->
  (∀v s',ZyA s s'->Rep P s'.heap d v->Q v s')->wpAny C.M A (eval e env) Q E s
def Qx(C:Cx)(k:Nat)(env:Env)(U:Zx)(e:Zyc)(ds:List PV):Prop:=
 ∀A s Q E P,Yw k A->C.G s.heap->X7 P env U s.heap->ZD P s.heap->
  (∀a vs n s',ZyA s s'->s'.heap.get? a=some { cls:=.type "list",data:=.seq vs n }->Zy P s'.heap ds vs.toList->Q (.ref a) s')->wpAny C.M A (eval e env) Q E s
def YZ(C:Cx)(k:Nat)(env:Env)(U:Zx)(e:Zyc)(b:Bool):Prop:=
 ∀A s Q E P,Yw k A->C.G s.heap->X7 P env U s.heap->ZD P s.heap->
  (∀s',ZyA s s'->Q b s')->wpAny C.M A (isTrue e env (eval e env)) Q E s
section
variable {C:Cx}{k:Nat}{env:Env}{U:Zx}
theorem Qx.of   (h:Ev C k env U e (.lst ds)):Qx C k env U e ds:=λA s Q E P hr hg hh hb q=>
 h A s Q E P hr hg hh hb λv s' ks r=>Zxm r λa t=>t.elim λvs t=>t.elim λn t=>t.1 ▸ q a vs n s' ks t.2.2.1 t.2.2.2
theorem Xc         (hf:env.scope.kind=.function)(l:Loc env s.heap x v)
 (hn:(x==("__classdict__":Str))=false) (h:Q v s):wpAny M A (loadName env x) Q E s:=by
 rcases l with ⟨a,m,hm,e⟩ |⟨a |a,c,hc,e⟩
 ·exact wpAny_loadName_local hf a hm e h
 ·exact wpAny_loadName_cell hf a hc e h
 ·exact wpAny_loadName_free hf a hc e h hn
theorem Ev.name    (hf:Zp env)(hx:U x=some (.val d))(hd:(x==("__debug__":Str))=false:=by decide) (hn:(x==("__classdict__":Str))=false:=by decide):
 Ev C k env U (.Name x pos) d:=λA s Q E P hr hg hh hb q=>by
 obtain⟨v,l,r⟩:=hh x _ hx
 exact wpAny_Name (Xc hf.kind l hn (q v s (Z3 s) r)) hd
theorem Qx.name    (hf:Zp env)(hx:U x=some (.own ds))(hd:(x==("__debug__":Str))=false:=by decide) (hn:(x==("__classdict__":Str))=false:=by decide):
 Qx C k env U (.Name x pos) ds:=λA s Q E P hr hg hh hb q=>by
 obtain⟨a,vs,n,l,e,r⟩:=hh x _ hx
 exact wpAny_Name (Xc hf.kind l hn (q a vs n s (Z3 s) e r)) hd
theorem Ev.int   :Ev C k env U (.Constant (.int i) n pos) (.int i):=λA s Q E P hr hg hh hb q=>
 wpAny_Constant_int (q _ _ (ZU s _) ⟨_,rfl⟩)
theorem Ev.str   :Ev C k env U (.Constant (.str x) n pos) (.str x):=λA s Q E P hr hg hh hb q=>
 wpAny_Constant_str (q _ _ (ZU s _) ⟨_,rfl⟩)
theorem Ev.none  :Ev C k env U (.Constant .none n pos) .none:=λA s Q E P hr hg hh hb q=>
 wpAny_Constant_none (q _ _ (Z3 s) rfl)
theorem Ev.bool   :Ev C k env U (.Constant (.bool b) n pos) (.bool b):=λA s Q E P hr hg hh hb q=>
 wpAny_Constant_bool (q _ _ (Z3 s) rfl)
def ZR(C:Cx)(k:Nat)(f:Zyd->Zyd->Sem Zyd)(a b c:PV):Prop:=
 ∀A s Q E P va vb,Yw k A->C.G s.heap->Rep P s.heap a va->Rep P s.heap b vb->ZD P s.heap->
  (∀v s',ZyA s s'->Rep P s'.heap c v->Q v s')->wpAny C.M A (f va vb) Q E s
end
end Mine.Internal
end
section
open PySem PySem.W PyProof.Rows
namespace Mine.Internal
section
variable {α:Type}
theorem Fs{β:Type}{P X:Prop}{d r:β}(h:d=r)(_:X)(q:d=r->P):P:=q h
noncomputable def Um{β:Type}(e:Zyc)(d:β)(yM:Str->Pos->β:=λ_ _=>d)(yH:Zyc->Str->Pos->β:=λ_ _ _=>d)(yL:Zyc->List Zyc->List ZvW->Pos->β:=λ_ _ _ _=>d)(jh:List Zyc->Nat->Pos->β:=λ_ _ _=>d)(je:List Zyc->Pos->β:=λ_ _=>d)(jt:Zyc->Zyc->Pos->β:=λ_ _ _=>d)(bD:Zyc->List ZwK->Zy6->Pos->β:=λ_ _ _ _=>d)(j6:Zyc->List CmpOp->List Zyc->Pos->β:=λ_ _ _ _=>d)(bB:ZuU->List Zyc->Pos->β:=λ_ _ _=>d)(js:Option Zyc->Option Zyc->Option Zyc->Pos->β:=λ_ _ _ _=>d)(yN:Zyc->Pos->β:=λ_ _=>d)(jr:List Zyc->Nat->Pos->β:=λ_ _ _=>d)(bG:UnaryOp->Zyc->Pos->β:=λ_ _ _=>d)(j3:Zyc->Zyc->Zyc->Pos->β:=λ_ _ _ _=>d)(bF:Zyc->List ZwK->Zy6->Pos->β:=λ_ _ _ _=>d)(bC:Zyc->Zyc->List ZwK->Zy6->Pos->β:=λ_ _ _ _ _=>d)(j5:Const->Nat->Pos->β:=λ_ _ _=>d)(j4:List (Option Zyc)->List Zyc->Pos->β:=λ_ _ _=>d):β:=@Expr.casesOn (λ_=>β) e bB (λ_ _ _=>d) (λ_ _ _ _=>d) bG (λ_ _ _ _=>d) j3 j4 jr bD bF bC (λ_ _ _ _=>d) (λ_ _=>d) (λ_ _=>d) (λ_ _=>d) j6 yL (λ_ _ _ _=>d) (λ_ _=>d) j5 yH jt yN yM je jh js
def Wl{β:Type}(e:Zyc)(k:Str->Pos->β)(d:β):β:=Um e d (yM:=k)
def DP{β:Type}(e:Zyc)(k:Zyc->Str->Pos->β)(d:β):β:=Um e d (yH:=k)
def Gr{β:Type}(e:Zyc)(k:Zyc->List Zyc->List ZvW->Pos->β)(d:β):β:=Um e d (yL:=k)
def FT{β:Type}(e:Zyc)(k:List Zyc->Nat->Pos->β)(d:β):β:=Um e d (jh:=k)
def PB{β:Type}(e:Zyc)(k:List Zyc->Pos->β)(d:β):β:=Um e d (je:=k)
def kn{β:Type}(e:Zyc)(k:Zyc->Zyc->Pos->β)(d:β):β:=Um e d (jt:=k)
def yY{β:Type}(e:Zyc)(k:Zyc->List ZwK->Zy6->Pos->β)(d:β):β:=Um e d (bD:=k)
def PM{β:Type}(e:Zyc)(k:Zyc->List CmpOp->List Zyc->Pos->β)(d:β):β:=Um e d (j6:=k)
def jj{β:Type}(e:Zyc)(k:ZuU->List Zyc->Pos->β)(d:β):β:=Um e d (bB:=k)
def km{β:Type}(e:Zyc)(k:Option Zyc->Option Zyc->Option Zyc->Pos->β)(d:β):β:=Um e d (js:=k)
def cW{β:Type}(e:Zyc)(k:Zyc->Pos->β)(d:β):β:=Um e d (yN:=k)
def tP{β:Type}(e:Zyc)(k:List Zyc->Nat->Pos->β)(d:β):β:=Um e d (jr:=k)
def dUn{β:Type}(e:Zyc)(k:UnaryOp->Zyc->Pos->β)(d:β):β:=Um e d (bG:=k)
def tO{β:Type}(e:Zyc)(k:Zyc->Zyc->Zyc->Pos->β)(d:β):β:=Um e d (j3:=k)
def dSC{β:Type}(e:Zyc)(k:Zyc->List ZwK->Zy6->Pos->β)(d:β):β:=Um e d (bF:=k)
def dDC{β:Type}(e:Zyc)(k:Zyc->Zyc->List ZwK->Zy6->Pos->β)(d:β):β:=Um e d (bC:=k)
def PN{β:Type}(e:Zyc)(k:Const->Nat->Pos->β)(d:β):β:=Um e d (j5:=k)
def PA{β:Type}(e:Zyc)(k:List (Option Zyc)->List Zyc->Pos->β)(d:β):β:=Um e d (j4:=k)
theorem Xy{β:Type}{P:Prop}{e:Zyc}{k:Str->Pos->β}{d r:β}:Wl e k d=r->(∀x p,e=.Name x p->k x p=r->P)->(d=r->P)->P:=by cases e<;>first |exact λh q _=>q _ _ rfl h |exact Fs
theorem KI{β:Type}{P:Prop}{e:Zyc}{k:Zyc->Str->Pos->β}{d r:β}:DP e k d=r->(∀o m p,e=.Attribute o m p->k o m p=r->P)->(d=r->P)->P:=by cases e<;>first |exact λh q _=>q _ _ _ rfl h |exact Fs
theorem KJ{β:Type}{P:Prop}{e:Zyc}{k:Zyc->List Zyc->List ZvW->Pos->β}{d r:β}:Gr e k d=r->(∀f as ks p,e=.Call f as ks p->k f as ks p=r->P)->(d=r->P)->P:=by cases e<;>first |exact λh q _=>q _ _ _ _ rfl h |exact Fs
theorem Fx{β:Type}{P:Prop}{e:Zyc}{k:List Zyc->Nat->Pos->β}{d r:β}:FT e k d=r->(∀es n p,e=.Tuple es n p->k es n p=r->P)->(d=r->P)->P:=by cases e<;>first |exact λh q _=>q _ _ _ rfl h |exact Fs
theorem HT{β:Type}{P:Prop}{e:Zyc}{k:List Zyc->Pos->β}{d r:β}:PB e k d=r->(∀es p,e=.List es p->k es p=r->P)->(d=r->P)->P:=by cases e<;>first |exact λh q _=>q _ _ rfl h |exact Fs
theorem uW{β:Type}{P:Prop}{e:Zyc}{k:Zyc->Zyc->Pos->β}{d r:β}:kn e k d=r->(∀o i p,e=.Subscript o i p->k o i p=r->P)->(d=r->P)->P:=by cases e<;>first |exact λh q _=>q _ _ _ rfl h |exact Fs
theorem Ey{β:Type}{P:Prop}{e:Zyc}{k:Zyc->List ZwK->Zy6->Pos->β}{d r:β}:yY e k d=r->(∀b gs s p,e=.ListComp b gs s p->k b gs s p=r->P)->(d=r->P)->P:=by cases e<;>first |exact λh q _=>q _ _ _ _ rfl h |exact Fs
theorem uV{β:Type}{P:Prop}{e:Zyc}{k:Zyc->List CmpOp->List Zyc->Pos->β}{d r:β}:PM e k d=r->(∀l os rs p,e=.Compare l os rs p->k l os rs p=r->P)->(d=r->P)->P:=by cases e<;>first |exact λh q _=>q _ _ _ _ rfl h |exact Fs
theorem f5{β:Type}{P:Prop}{e:Zyc}{k:ZuU->List Zyc->Pos->β}{d r:β}:jj e k d=r->(∀o vs p,e=.BoolOp o vs p->k o vs p=r->P)->(d=r->P)->P:=by cases e<;>first |exact λh q _=>q _ _ _ rfl h |exact Fs
theorem HR{β:Type}{P:Prop}{e:Zyc}{k:Const->Nat->Pos->β}{d r:β}:PN e k d=r->(∀c n p,e=.Constant c n p->k c n p=r->P)->(d=r->P)->P:=by cases e<;>first |exact λh q _=>q _ _ _ rfl h |exact Fs
def UB(e:Zyc)(k:Str->Pos->Option α):Option α:=Wl e k none
theorem Vk{P:Prop}{e:Zyc}{k:Str->Pos->Option α}{r:α}(h:UB e k=some r)(q:∀x p,e=.Name x p->k x p=some r->P):P:=Xy h q nS
def ID(e:Zyc)(k:Zyc->Str->Pos->Option α):Option α:=DP e k none
theorem Jr{P:Prop}{e:Zyc}{k:Zyc->Str->Pos->Option α}{r:α}(h:ID e k=some r)(q:∀o m p,e=.Attribute o m p->k o m p=some r->P):P:=KI h q nS
def IF(e:Zyc)(k:Zyc->List Zyc->List ZvW->Pos->Option α):Option α:=Gr e k none
theorem Js{P:Prop}{e:Zyc}{k:Zyc->List Zyc->List ZvW->Pos->Option α}{r:α}(h:IF e k=some r)(q:∀f as ks p,e=.Call f as ks p->k f as ks p=some r->P):P:=KJ h q nS
def AR(e:Zyc)(k:List Zyc->Nat->Pos->Option α):Option α:=FT e k none
theorem Dk{P:Prop}{e:Zyc}{k:List Zyc->Nat->Pos->Option α}{r:α}(h:AR e k=some r)(q:∀es n p,e=.Tuple es n p->k es n p=some r->P):P:=Fx h q nS
def xa(e:Zyc)(k:List Zyc->Pos->Option α):Option α:=PB e k none
theorem O6{P:Prop}{e:Zyc}{k:List Zyc->Pos->Option α}{r:α}(h:xa e k=some r)(q:∀es p,e=.List es p->k es p=some r->P):P:=HT h q nS
noncomputable def P8(s:ZyF)(k:List Zyc->Zyc->Pos->Option α)(k2:Zyc->Pos->Option α):Option α:=@ZwT (λ_=>Option α) s (λ_ _ _ _ _ _ _ _ _ _=>none) (λ_ _ _ _ _ _ _ _ _ _=>none) (λ_ _ _ _ _ _ _ _ _ _ _=>none) (λ_ _=>none) (λ_ _=>none) (λt e p=>k t e p) (λ_ _ _ _ _ _ _=>none) (λ_ _ _ _=>none) (λ_ _ _ _ _=>none) (λ_ _ _ _ _=>none) (λ_ _ _ _ _=>none) (λ_ _ _ _=>none) (λ_ _ _ _=>none) (λ_ _ _=>none) (λ_ _ _=>none) (λ_ _ _=>none) (λ_ _ _=>none) (λ_ _ _ _ _=>none) (λ_ _ _ _ _=>none) (λ_ _ _=>none) (λ_ _=>none) (λ_ _ _ _=>none) (λ_ _=>none) (λ_ _=>none) (λe p=>k2 e p) (λ_=>none) (λ_=>none) (λ_=>none)
theorem vw{P:Prop}{s:ZyF}{k:List Zyc->Zyc->Pos->Option α}{k2:Zyc->Pos->Option α}{r:α}:P8 s k k2=some r->(∀t e p,s=.Assign t e p->k t e p=some r->P)->(∀e p,s=.Expr e p->k2 e p=some r->P)->P:=@ZwT (λs=>P8 s k k2=some r->(∀t e p,s=.Assign t e p->k t e p=some r->P)->(∀e p,s=.Expr e p->k2 e p=some r->P)->P) s (λ_ _ _ _ _ _ _ _ _ _=>λh=>nS h) (λ_ _ _ _ _ _ _ _ _ _=>λh=>nS h) (λ_ _ _ _ _ _ _ _ _ _ _=>λh=>nS h) (λ_ _=>λh=>nS h) (λ_ _=>λh=>nS h) (λt e p=>λh q _=>q t e p rfl h) (λ_ _ _ _ _ _ _=>λh=>nS h) (λ_ _ _ _=>λh=>nS h) (λ_ _ _ _ _=>λh=>nS h) (λ_ _ _ _ _=>λh=>nS h) (λ_ _ _ _ _=>λh=>nS h) (λ_ _ _ _=>λh=>nS h) (λ_ _ _ _=>λh=>nS h) (λ_ _ _=>λh=>nS h) (λ_ _ _=>λh=>nS h) (λ_ _ _=>λh=>nS h) (λ_ _ _=>λh=>nS h) (λ_ _ _ _ _=>λh=>nS h) (λ_ _ _ _ _=>λh=>nS h) (λ_ _ _=>λh=>nS h) (λ_ _=>λh=>nS h) (λ_ _ _ _=>λh=>nS h) (λ_ _=>λh=>nS h) (λ_ _=>λh=>nS h) (λe p=>λh _ q=>q e p rfl h) (λ_=>λh=>nS h) (λ_=>λh=>nS h) (λ_=>λh=>nS h)
noncomputable def d1{γ β:Type}(l:List γ)(k:γ->β)(d:β):β:=@ZvR γ (λ_=>β) l d λx r=>@ZvR γ (λ_=>β) r (k x) λ_ _=>d
theorem WA{γ β:Type}{P:Prop}{k:γ->β}{d r:β}{l:List γ}(h:d1 l k d=r)(q:∀x,l=[x]->k x=r->P)(q2:d=r->P):P:=by
 cases l with
 |nil=>exact q2 h
 | cons x l=>
   cases l with
   |nil=>exact q x rfl h
   |cons _ _=>exact q2 h
noncomputable def d0{γ β:Type}(l:List γ)(k d:β):β:=@ZvR γ (λ_=>β) l k λ_ _=>d
theorem Ge{γ β:Type}{P:Prop}{k d r:β}{l:List γ}(h:d0 l k d=r)(q:l=[]->k=r->P)(q2:d=r->P):P:=by
 cases l with
 |nil=>exact q rfl h
 |cons _ _=>exact q2 h
noncomputable def dc{γ β:Type}(l:List γ)(k:γ->List γ->β)(d:β):β:=@ZvR γ (λ_=>β) l d k
theorem DE{γ β:Type}{P:Prop}{k:γ->List γ->β}{d r:β}{l:List γ}(h:dc l k d=r)(q:∀x m,l=x::m->k x m=r->P)(q2:d=r->P):P:=by
 cases l with
 |nil=>exact q2 h
 |cons x m=>exact q x m rfl h
def LL{β:Type}(es:List Zyc)(k:Str->Str->β)(d:β):β:=dc es (λe es=>Wl e (λx _=>d1 es (λe=>Wl e (λy _=>k x y) d) d) d) d
theorem Cc{β:Type}{P:Prop}{es:List Zyc}{k:Str->Str->β}{d r:β}(h:LL es k d=r)(q:∀x p y p',es=[.Name x p,.Name y p']->k x y=r->P)(q2:d=r->P):P:=
 DE h (λ_ _ e1 h=>Xy h (λx p e2 h=>WA h (λ_ e3 h=>Xy h (λy p' e4 h=>q x p y p' (by rw[e1,e2,e3,e4]) h) q2) q2) q2) q2
def nf{β:Type}(es:List Zyc)(k:Str->Str->Str->β)(d:β):β:=dc es (λe es=>Wl e (λx _=>LL es (k x) d) d) d
theorem f6{β:Type}{P:Prop}{es:List Zyc}{k:Str->Str->Str->β}{d r:β}(h:nf es k d=r)(q:∀x p y p' z BF,es=[.Name x p,.Name y p',.Name z BF]->k x y z=r->P)(q2:d=r->P):P:=
 DE h (λ_ _ e1 h=>Xy h (λx p e2 h=>Cc h (λy p' z BF e3 h=>q x p y p' z BF (by rw[e1,e2,e3]) h) q2) q2) q2
def LM{β:Type}(e:Zyc)(k:Str->List Zyc->β)(d:β):β:=Gr e (λf as ks _=>Wl f (λx _=>d0 ks (k x as) d) d) d
theorem Cd{β:Type}{P:Prop}{e:Zyc}{k:Str->List Zyc->β}{d r:β}(h:LM e k d=r)(q:∀x p as p',e=.Call (.Name x p) as [] p'->k x as=r->P)(q2:d=r->P):P:=
 KJ h (λf as ks p' e1 h=>Xy h (λx p e2 h=>Ge h (λe3 h=>q x p as p' (by rw[e1,e2,e3]) h) q2) q2) q2
theorem Ka{γ:Type}{P:List γ->Prop}{l:List γ}(h:l.length=1)(q:∀a,P [a]):P l:=by
 cases l with
 |nil=>cases h
 | cons a l=>cases l with
   |nil=>exact q a
   |cons _ _=>cases h
theorem UL{γ:Type}{P:List γ->Prop}{l:List γ}(h:l.length=2)(q:∀a b,P [a,b]):P l:=by
 cases l with
 |nil=>cases h
 |cons a l=>exact Ka (P:=λl=>P (a::l)) (ZvE h) (q a)
theorem P9{γ:Type}{P:List γ->Prop}{l:List γ}(h:l.length=3)(q:∀a b c,P [a,b,c]):P l:=by
 cases l with
 |nil=>cases h
 |cons a l=>exact UL (P:=λl=>P (a::l)) (ZvE h) (q a)
noncomputable def Ua(o x:Option α):Option α:=@Zqw α (λ_=>Option α) o x some
theorem QA{P:Prop}{o x:Option α}{r:α}(h:Ua o x=some r)(q:o=some r->P)(q2:x=some r->P):P:=by
 cases o with
 |none=>exact q2 h
 |some a=>exact q h
def Vr{β:Type}(l:List β)(k:β->Option α):Option α:=d1 l k none
def DX{β:Type}(l:List β)(k:β->β->Option α):Option α:=dc l (λx r=>Vr r (k x)) none
theorem Xd{β:Type}{P:Prop}{r:α}{l:List β}{k:β->Option α}(h:Vr l k=some r)(q:∀x,l=[x]->k x=some r->P):P:=WA h q nS
theorem UA{β:Type}{P:Prop}{r:α}{l:List β}{k:β->β->Option α}(h:DX l k=some r)(q:∀x y,l=[x,y]->k x y=some r->P):P:=DE h (λx m e h=>Xd h λy e2 h=>q x y (by rw[e,e2]) h) nS
theorem Zj{β:Type}{P:Prop}{o:Option β}{k:β->Option α}{r:α}(h:o.bind k=some r)(q:∀a,o=some a->k a=some r->P):P:=by
 cases o with
 |none=>exact nS h
 |some a=>exact q a rfl h
theorem YQ{β:Type}{P:Prop}{o:Option β}{f:β->α}{r:α}(h:o.map f=some r)(q:∀a,o=some a->r=f a->P):P:=by
 cases o with
 |none=>exact nS h
 |some a=>exact q a rfl (Zyb h).symm
theorem ZG{P:α->Prop}{a r:α}(q:P a)(h:some a=some r):P r:=Zyb h ▸ q
theorem Zl{P:Prop}{c:Prop} [Decidable c] {a:Option α}{r:α}(h:(if c then a else none)=some r)(q:c->a=some r->P):P:=by
 by_cases hc:c
 ·exact q hc ((if_pos hc).symm.trans h)
 ·exact nS ((if_neg hc).symm.trans h)
theorem RE{α:Type}{P:Prop}{c:Prop} [Decidable c] {a:Option α}{r:α}(h:(if c then none else a)=some r)(q:¬c->a=some r->P):P:=by
 by_cases hc:c
 ·exact nS ((if_pos hc).symm.trans h)
 ·exact q hc ((if_neg hc).symm.trans h)
theorem Y4{α:Type}{P:Prop}{c:Prop} [Decidable c] {a b:α}{r:α}(h:(if c then a else b)=r)(q:c->a=r->P)(q2:¬c->b=r->P):P:=by
 by_cases hc:c
 ·exact q hc ((if_pos hc).symm.trans h)
 ·exact q2 hc ((if_neg hc).symm.trans h)
theorem Yk{a b:Bool}(h:(a&&b)=true):a=true/\b=true:=Zxp.mp h
theorem Z0{P:Prop}{a b:Bool}(h:(a&&b)=true)(q:a=true->b=true->P):P:=q (Yk h).1 (Yk h).2
theorem nil_of{β:Type}:∀{l:List β},l.isEmpty=true->l=[]
 |[],_=>rfl
end
end Mine.Internal
end
section
open PySem PySem.W PyProof.Rows
namespace Mine.Internal
theorem Zf    :Rep P h (.int i) v<->∃t,v=.int i t:=Zuk
theorem Zt    :Rep P h (.str i) v<->∃t,v=.str i t:=Zuk
theorem Zr    :Rep P h (.bool i) v<->v=.bool i:=Zuk
theorem Y9   :Rep P h .none v<->v=.none:=Zuk
theorem Yt    :Rep P h (.tup l) v<->∃a vs n,v=.ref a/\P a/\h.get? a=some { cls:=.type "tuple",data:=.seq vs n }/\Zy P h l vs.toList:=Zuk
theorem ZP    :Rep P h (.lst l) v<->∃a vs n,v=.ref a/\P a/\h.get? a=some { cls:=.type "list",data:=.seq vs n }/\Zy P h l vs.toList:=Zuk
mutual
/-- values that==xt at as data of one make -/
noncomputable def alike:PV->PV->Bool
 |.none,.none=>true
 |.bool _,.bool _=>true
 |.int _,.int _=>true
 |.str _,.str _=>true
 |.tup l,.tup m=>alikeAll l m
 |.lst l,.lst m=>alikeAll l m
 |_,_=>false
noncomputable def alikeAll:List PV->List PV->Bool
 |a::l,b::m=>alike a b&&alikeAll l m
 |_,_=>true
end
mutual
noncomputable def eqv:PV->PV->Bool
 |.none,.none=>true
 |.bool a,.bool b=>a==b
 |.int a,.int b=>a==b
 |.str a,.str b=>a==b
 |.tup l,.tup m=>eqvAll l m
 |.lst l,.lst m=>eqvAll l m
 |_,_=>false
noncomputable def eqvAll:List PV->List PV->Bool
 |[],[]=>true
 |a::l,b::m=>eqv a b&&eqvAll l m
 |_,_=>false
end
mutual
noncomputable def dep:PV->Nat
 |.tup l=>WY l+1
 |.lst l=>WY l+1
 |_=>0
noncomputable def WY:List PV->Nat
 |[]=>0
 |a::l=>max (dep a) (WY l)
end
mutual
/-- no odd Zz6 in it -/
noncomputable def Yn:PV->Bool
 |.Xk _=>false
 |.box ..=>false
 |.tup l=>plainAll l
 |.lst l=>plainAll l
 |_=>true
noncomputable def plainAll:List PV->Bool
 |[]=>true
 |a::l=>Yn a&&plainAll l
end
theorem Yr{P:Prop}(h:false=true):P:=absurd h ZyG
theorem Qt{b:PV}(h:alike .none b=true):b=.none:=by cases b<;>first |rfl |exact Yr h
theorem Qs   (h:alike (.bool x) b=true):∃y,b=.bool y:=by cases b<;>first |exact⟨_,rfl⟩ |exact Yr h
theorem J3   (h:alike (.int x) b=true):∃y,b=.int y:=by cases b<;>first |exact⟨_,rfl⟩ |exact Yr h
theorem J0   (h:alike (.str x) b=true):∃y,b=.str y:=by cases b<;>first |exact⟨_,rfl⟩ |exact Yr h
theorem Jo   (h:alike (.tup l) b=true):∃m,b=.tup m/\alikeAll l m=true:=by cases b<;>first |exact⟨_,rfl,h⟩ |exact Yr h
theorem J1   (h:alike (.lst l) b=true):∃m,b=.lst m/\alikeAll l m=true:=by cases b<;>first |exact⟨_,rfl,h⟩ |exact Yr h
mutual
theorem eqv_refl:∀a:PV,alike a a=true->eqv a a=true
 |.none,_=>rfl
 |.Xk _,h=>Yr h
 |.box ..,h=>Yr h
 |.bool b,_=>beq_self_eq_true b
 |.int b,_=>beq_self_eq_true b
 |.str b,_=>beq_self_eq_true b
 |.tup l,h=>eqvAll_refl l h
 |.lst l,h=>eqvAll_refl l h
theorem eqvAll_refl:∀l:List PV,alikeAll l l=true->eqvAll l l=true
 |[],_=>rfl
 |a::l,h=>(ZyW _ _).mpr ⟨eqv_refl a (Yk h).1,eqvAll_refl l (Yk h).2⟩
end
theorem all_nil    (x:Zy P h [] vs):vs=[]:=x
theorem all_cons      (x:Zy P h (a::l) vs):∃v r,vs=v::r/\Rep P h a v/\Zy P h l r:=x
mutual
theorem Rep.unique{P P':Zya->Prop}{h:Zyp}:∀{a b:PV}{v:Zyd},alike a b=true->Rep P h a v->Rep P' h b v->a=b
 |.none,b,v,Zo,x,y=>(Qt Zo).symm
 |.Xk _,b,v,Zo,x,y=>by cases b<;>exact Yr Zo
 |.box ..,b,v,Zo,x,y=>by cases b<;>exact Yr Zo
 | .bool _,b,v,Zo,x,y=>by
   obtain⟨_,rfl⟩:=Qs Zo
   cases (Zr.mp x).symm.trans (Zr.mp y);rfl
 | .int _,b,v,Zo,x,y=>by
   obtain⟨_,rfl⟩:=J3 Zo
   obtain⟨t,e⟩:=Zf.mp x;obtain⟨u,e'⟩:=Zf.mp y
   cases e.symm.trans e';rfl
 | .str _,b,v,Zo,x,y=>by
   obtain⟨_,rfl⟩:=J0 Zo
   obtain⟨t,e⟩:=Zt.mp x;obtain⟨u,e'⟩:=Zt.mp y
   cases e.symm.trans e';rfl
 | .tup l,b,v,Zo,x,y=>by
   obtain⟨m,rfl,Zo⟩:=Jo Zo
   obtain⟨a,vs,n,e,_,h3,h4⟩:=Yt.mp x;obtain⟨a',X1,n',e',_,k3,k4⟩:=Yt.mp y
   cases e.symm.trans e'
   cases h3.symm.trans k3
   rw[Zy.unique Zo h4 k4]
 | .lst l,b,v,Zo,x,y=>by
   obtain⟨m,rfl,Zo⟩:=J1 Zo
   obtain⟨a,vs,n,e,_,h3,h4⟩:=ZP.mp x;obtain⟨a',X1,n',e',_,k3,k4⟩:=ZP.mp y
   cases e.symm.trans e'
   cases h3.symm.trans k3
   rw[Zy.unique Zo h4 k4]
theorem Zy.unique{P P':Zya->Prop}{h:Zyp}:∀{l m:List PV}{vs:List Zyd},alikeAll l m=true->Zy P h l vs->Zy P' h m vs->l=m
 | [],m,vs,Zo,x,y=>by
   cases m with
   |nil=>rfl
   |cons b m=>obtain⟨_,_,e,_⟩:=all_cons y;cases (all_nil x).symm.trans e
 | a::l,m,vs,Zo,x,y=>by
   obtain⟨v,r,e,h2,h3⟩:=all_cons x
   cases m with
   |nil=>cases (all_nil y).symm.trans e
   | cons b m=>
     obtain⟨v',r',e',k2,k3⟩:=all_cons y
     cases e.symm.trans e'
     rw[Rep.unique (Yk Zo).1 h2 k2,Zy.unique (Yk Zo).2 h3 k3]
end
def pairAt(l m:List PV)(j:Nat):Bool:=match l[j]?,m[j]? with
 |some a,some b=>eqv a b
 |_,_=>false
theorem Vi:∀l m:List PV,((Zxv (min l.length m.length)).all (pairAt l m)&&l.length==m.length)=eqvAll l m
 |[],[]=>rfl
 |[],b::m=>rfl
 |a::l,[]=>rfl
 | a::l,b::m=>by
   have ih:=Vi l m
   have e:min (a::l).length (b::m).length=min l.length m.length+1:=by simp [ZqM]
   rw[e,ZvK,Zxj,List.all_map]
   have h0:pairAt (a::l) (b::m) 0=eqv a b:=rfl
   have hs:(pairAt (a::l) (b::m))∘Zjk=pairAt l m:=rfl
   rw[h0,hs,show eqvAll (a::l) (b::m)=(eqv a b&&eqvAll l m) from rfl,<-ih]
   simp [Zj9]
theorem C6  (h:l.length=m.length):(Zxv l.length).all (pairAt l m)=eqvAll l m:=by
 rw[<-Vi l m,<-h];simp
theorem A2  (h:l.length≠m.length):eqvAll l m=false:=by
 rw[<-Vi l m];simp [h]
section
variable {P P':Zya->Prop}{s:Zym}
open PySem.SeqAt
theorem Xa    (h:s.heap.get? a=some { cls:=.type "tuple",data:=.seq vs n }):s.heap.IsTuple a vs:=⟨_,h,rfl,n,rfl⟩
theorem Yu{h:Zyp}    (e:h.get? a=some { cls:=.type "list",data:=.seq vs n }):h.IsList a vs:=⟨_,e,rfl,n,rfl⟩
def ND(A:Zxd)(s:Zym)(l m:List PV)(vs ws:List Zyd):Prop:=∀j (h1:j<vs.length)(h2:j<ws.length),EqAt A s vs[j] ws[j] (pairAt l m j)
theorem size_eq    {vs:Array Zyd}(x:Zy P h l vs.toList):vs.size=l.length:=x.length
section
variable {A:Zxd}{a a':Zya}{vs X1:Array Zyd}{n n':Nat}{l m:List PV}
theorem RF(h3:s.heap.get? a=some { cls:=.type "tuple",data:=.seq vs n })(k3:s.heap.get? a'=some { cls:=.type "tuple",data:=.seq X1 n' })(h4:Zy P s.heap l vs.toList)(k4:Zy P' s.heap m X1.toList)(hu:A.units<cLine)(K:ND A.in1 s l m vs.toList X1.toList):RcAt A s (.ref a) (.ref a') (eqvAll l m):=by
 rw[<-Vi,<-size_eq h4,<-size_eq k4]
 exact RcAt.tuples (Xa h3) (Xa k3) hu λj j1 j2=>K j j1 j2
theorem RD(h3:s.heap.get? a=some { cls:=.type "list",data:=.seq vs n })(k3:s.heap.get? a'=some { cls:=.type "list",data:=.seq X1 n' })(h4:Zy P s.heap l vs.toList)(k4:Zy P' s.heap m X1.toList)(hu:A.units<cLine)(K:ND A.in1 s l m vs.toList X1.toList):RcAt A s (.ref a) (.ref a') (eqvAll l m):=by
 by_cases Yh:vs.size=X1.size
 ·rw[<-C6 ((size_eq h4).symm.trans (Yh.trans (size_eq k4))),<-size_eq h4]
  exact RcAt.lists (Yu h3) (Yu k3) Yh hu λj j1 j2=>K j j1 j2
 ·rw[A2 λe=>Yh ((size_eq h4).trans (e.trans (size_eq k4).symm))]
  exact RcAt.lists_lengths (Yu h3) (Yu k3) (bne_iff_ne.mpr Yh) hu
theorem iY(h3:s.heap.get? a=some { cls:=.type "tuple",data:=.seq vs n })(k3:s.heap.get? a'=some { cls:=.type "tuple",data:=.seq X1 n' })(h4:Zy P s.heap l vs.toList)(k4:Zy P' s.heap m X1.toList)(hu:A.units<cLine)(K:ND A.in1 s l m vs.toList X1.toList):RcNeAt A s (.ref a) (.ref a') (!eqvAll l m):=by
 rw[<-Vi,<-size_eq h4,<-size_eq k4]
 exact RcNeAt.tuples (Xa h3) (Xa k3) hu λj j1 j2=>K j j1 j2
theorem iX(h3:s.heap.get? a=some { cls:=.type "list",data:=.seq vs n })(k3:s.heap.get? a'=some { cls:=.type "list",data:=.seq X1 n' })(h4:Zy P s.heap l vs.toList)(k4:Zy P' s.heap m X1.toList)(hu:A.units<cLine)(K:ND A.in1 s l m vs.toList X1.toList):RcNeAt A s (.ref a) (.ref a') (!eqvAll l m):=by
 by_cases Yh:vs.size=X1.size
 ·rw[<-C6 ((size_eq h4).symm.trans (Yh.trans (size_eq k4))),<-size_eq h4]
  exact RcNeAt.lists (Yu h3) (Yu k3) Yh hu λj j1 j2=>K j j1 j2
 ·rw[A2 λe=>Yh ((size_eq h4).trans (e.trans (size_eq k4).symm))]
  exact RcNeAt.lists_lengths (Yu h3) (Yu k3) (bne_iff_ne.mpr Yh) hu
end
theorem CC  (h:u+(d+1)<cLine):u<cLine:=Zxo (ZyR _ _) h
theorem CB{A:Zxd}  (h:A.units+(d+1)<cLine):A.in1.units+d<cLine:=by
 rw[<-Zwi,Zvv] at h;exact h
theorem rg  (h:u+max a b<cLine):u+a<cLine:=Zxo (Zxl (Nat.le_max_left _ _) u) h
theorem rk  (h:u+max a b<cLine):u+b<cLine:=Zxo (Zxl (Nat.le_max_right _ _) u) h
mutual
theorem Br:∀{a b:PV}{A:Zxd}{v w:Zyd},Rep P s.heap a v->Rep P' s.heap b w->alike a b=true->A.units+dep a<cLine->EqAt A s v w (eqv a b)
 | .none,b,A,v,w,x,y,Zo,hu=>by
   cases Qt Zo
   rw[Y9.mp x,Y9.mp y];exact EqAt.same _
 |.Xk _,b,A,v,w,x,y,Zo,hu=>by cases b<;>exact Yr Zo
 |.box ..,b,A,v,w,x,y,Zo,hu=>by cases b<;>exact Yr Zo
 | .bool p,b,A,v,w,x,y,Zo,hu=>by
   obtain⟨_,rfl⟩:=Qs Zo
   rw[Zr.mp x,Zr.mp y];exact EqAt.bool_bool _ _
 | .int p,b,A,v,w,x,y,Zo,hu=>by
   obtain⟨_,rfl⟩:=J3 Zo
   obtain⟨t,rfl⟩:=Zf.mp x;obtain⟨u,rfl⟩:=Zf.mp y;exact EqAt.int_int _ _ _ _
 | .str p,b,A,v,w,x,y,Zo,hu=>by
   obtain⟨_,rfl⟩:=J0 Zo
   obtain⟨t,rfl⟩:=Zt.mp x;obtain⟨u,rfl⟩:=Zt.mp y;exact EqAt.str_str _ _ _ _
 | .tup l,b,A,v,w,x,y,Zo,hu=>by
   obtain⟨m,rfl,PG⟩:=Jo Zo
   obtain⟨a,vs,n,rfl,_,h3,h4⟩:=Yt.mp x;obtain⟨a',X1,n',rfl,_,k3,k4⟩:=Yt.mp y
   by_cases Q7:a=a'
   ·subst Q7
    have e:=Rep.unique Zo x y
    rw[<-e] at Zo ⊢
    rw[eqv_refl _ Zo];exact EqAt.same _
   ·exact EqAt.of_refs Q7 (RF h3 k3 h4 k4 (CC hu) (Wi (A:=A.in1) h4 k4 PG (CB hu)))
 | .lst l,b,A,v,w,x,y,Zo,hu=>by
   obtain⟨m,rfl,PG⟩:=J1 Zo
   obtain⟨a,vs,n,rfl,_,h3,h4⟩:=ZP.mp x;obtain⟨a',X1,n',rfl,_,k3,k4⟩:=ZP.mp y
   by_cases Q7:a=a'
   ·subst Q7
    have e:=Rep.unique Zo x y
    rw[<-e] at Zo ⊢
    rw[eqv_refl _ Zo];exact EqAt.same _
   ·exact EqAt.of_refs Q7 (RD h3 k3 h4 k4 (CC hu) (Wi (A:=A.in1) h4 k4 PG (CB hu)))
theorem Wi:∀{l m:List PV}{A:Zxd}{vs ws:List Zyd},Zy P s.heap l vs->Zy P' s.heap m ws->alikeAll l m=true->A.units+WY l<cLine->ND A s l m vs ws
 |[],_,_,_,_,x,_,_,_,j,h1,_=>by cases all_nil x;exact absurd h1 (Zv2 _)
 | a::l,m,A,vs,ws,x,y,Zo,hu,j,h1,h2=>by
   obtain⟨v,r,rfl,q2,q3⟩:=all_cons x
   cases m with
   |nil=>cases all_nil y;exact absurd h2 (Zv2 _)
   | cons b m=>
     obtain⟨v',r',rfl,k2,k3⟩:=all_cons y
     cases j with
     |zero=>exact Br (A:=A) q2 k2 (Yk Zo).1 (rg hu)
     |succ j=>exact Wi (A:=A) q3 k3 (Yk Zo).2 (rk hu) j (ZvI h1) (ZvI h2)
end
theorem Bg    (x:Rep P s.heap a v)(y:Rep P' s.heap b w)(Zo:alike a b=true)(hu:A.units+dep a<cLine):RcAt A s v w (eqv a b):=by
 cases a with
 | none=>
   cases Qt Zo
   rw[Y9.mp x,Y9.mp y];exact RcAt.none_none
 |Xk p=>cases b<;>exact Yr Zo
 |box T ks l=>cases b<;>exact Yr Zo
 | bool p=>
   obtain⟨_,rfl⟩:=Qs Zo
   rw[Zr.mp x,Zr.mp y];exact RcAt.bool_bool _ _
 | int p=>
   obtain⟨_,rfl⟩:=J3 Zo
   obtain⟨t,rfl⟩:=Zf.mp x;obtain⟨u,rfl⟩:=Zf.mp y;exact RcAt.int_int _ _ _ _
 | str p=>
   obtain⟨_,rfl⟩:=J0 Zo
   obtain⟨t,rfl⟩:=Zt.mp x;obtain⟨u,rfl⟩:=Zt.mp y;exact RcAt.str_str _ _ _ _
 | tup l=>
   obtain⟨m,rfl,Zo⟩:=Jo Zo
   obtain⟨a,vs,n,rfl,_,h3,h4⟩:=Yt.mp x;obtain⟨a',X1,n',rfl,_,k3,k4⟩:=Yt.mp y
   exact RF h3 k3 h4 k4 (CC hu) (Wi (A:=A.in1) h4 k4 Zo (CB hu))
 | lst l=>
   obtain⟨m,rfl,Zo⟩:=J1 Zo
   obtain⟨a,vs,n,rfl,_,h3,h4⟩:=ZP.mp x;obtain⟨a',X1,n',rfl,_,k3,k4⟩:=ZP.mp y
   exact RD h3 k3 h4 k4 (CC hu) (Wi (A:=A.in1) h4 k4 Zo (CB hu))
theorem IE    (x:Rep P s.heap a v)(y:Rep P' s.heap b w)(Zo:alike a b=true)(hu:A.units+dep a<cLine):SeqAt.RcNeAt A s v w (!eqv a b):=by
 cases a with
 | none=>
   cases Qt Zo
   rw[Y9.mp x,Y9.mp y];exact SeqAt.RcNeAt.none_none
 |Xk p=>cases b<;>exact Yr Zo
 |box T ks l=>cases b<;>exact Yr Zo
 | bool p=>
   obtain⟨_,rfl⟩:=Qs Zo
   rw[Zr.mp x,Zr.mp y];exact SeqAt.RcNeAt.bool_bool _ _
 | int p=>
   obtain⟨_,rfl⟩:=J3 Zo
   obtain⟨t,rfl⟩:=Zf.mp x;obtain⟨u,rfl⟩:=Zf.mp y;exact SeqAt.RcNeAt.int_int _ _ _ _
 | str p=>
   obtain⟨_,rfl⟩:=J0 Zo
   obtain⟨t,rfl⟩:=Zt.mp x;obtain⟨u,rfl⟩:=Zt.mp y;exact SeqAt.RcNeAt.str_str _ _ _ _
 | tup l=>
   obtain⟨m,rfl,Zo⟩:=Jo Zo
   obtain⟨a,vs,n,rfl,_,h3,h4⟩:=Yt.mp x;obtain⟨a',X1,n',rfl,_,k3,k4⟩:=Yt.mp y
   exact iY h3 k3 h4 k4 (CC hu) (Wi (A:=A.in1) h4 k4 Zo (CB hu))
 | lst l=>
   obtain⟨m,rfl,Zo⟩:=J1 Zo
   obtain⟨a,vs,n,rfl,_,h3,h4⟩:=ZP.mp x;obtain⟨a',X1,n',rfl,_,k3,k4⟩:=ZP.mp y
   exact iX h3 k3 h4 k4 (CC hu) (Wi (A:=A.in1) h4 k4 Zo (CB hu))
end
section
variable {C:Cx}{k:Nat}{env:Env}{U:Zx}
theorem Ev.two     (h₁:Ev C k env U e₁ a)(h₂:Ev C k env U e₂ b)(h:ZR C k f a b c)
 {A s Q E P}(hr:Yw k A) (hg:C.G s.heap) (hh:X7 P env U s.heap) (hb:ZD P s.heap) (q:∀v s',ZyA s s'->Rep P s'.heap c v->Q v s')
 (ht:wpAny C.M A (eval e₁ env) (λva s₁=>wpAny C.M A (eval e₂ env) (λvb s₂=>wpAny C.M A (f va vb) Q E s₂) E s₁) E s->wpAny C.M A t Q E s):wpAny C.M A t Q E s:=by
 refine ht (h₁ A s _ _ P hr hg hh hb λva s₁ k₁ r₁=>?_)
 have x₁:=Zw k₁
 refine h₂ A s₁ _ _ P hr (C.ext hg x₁) (hh.ext x₁) (hb.ext x₁) λvb s₂ k₂ r₂=>?_
 have x₂:=Zw k₂
 exact h A s₂ _ _ P va vb hr (C.ext (C.ext hg x₁) x₂) (r₁.ext x₂) r₂ ((hb.ext x₁).ext x₂) λv s' k' r'=>q v s' (Zu (Zu k₁ k₂) k') r'
theorem Ev.binop     (h₁:Ev C k env U l a)(h₂:Ev C k env U r b)(h:ZR C k (binaryOp op) a b c):Ev C k env U (.BinOp l op r pos) c:=
 λ_ _ _ _ _ hr hg hh hb q=>Ev.two h₁ h₂ h hr hg hh hb q λx=>wpAny_BinOp x
theorem Ev.cmp     (h₁:Ev C k env U l a)(h₂:Ev C k env U r b)(h:ZR C k (compareOp op) a b c)(hm:Zxx op r=false:=by with_unfolding_all rfl):
 Ev C k env U (.Compare l [op] [r] pos) c:=
 λ_ _ _ _ _ hr hg hh hb q=>Ev.two h₁ h₂ h hr hg hh hb q λx=>wpAny_Compare1 x hm
theorem YZ.cmp      (h₁:Ev C k env U l a)(h₂:Ev C k env U r b)(h:ZR C k (compareOp op) a b (.bool c))(hm:Zxx op r=false:=by with_unfolding_all rfl):
 YZ C k env U (.Compare l [op] [r] pos) c:=λA s Q E P hr hg hh hb q=>by
 refine wpAny_isTrue_Compare1 ?_ hm
 refine h₁ A s _ _ P hr hg hh hb λva s₁ k₁ r₁=>?_
 have x₁:=Zw k₁
 refine h₂ A s₁ _ _ P hr (C.ext hg x₁) (hh.ext x₁) (hb.ext x₁) λvb s₂ k₂ r₂=>?_
 have x₂:=Zw k₂
 refine h A s₂ _ _ P va vb hr (C.ext (C.ext hg x₁) x₂) (r₁.ext x₂) r₂ ((hb.ext x₁).ext x₂) λv s' k' r'=>?_
 rw[Zr] at r'
 subst r'
 exact wpAny_truthy_bool (q s' (Zu (Zu k₁ k₂) k'))
theorem ZR.add_int :ZR C k (binaryOp .Add) (.int a) (.int b) (.int (a+b)):=λA s Q E P va vb hr hg ra rb hb q=>by
 obtain⟨t,rfl⟩:=Zf.mp ra;obtain⟨u,rfl⟩:=Zf.mp rb
 exact PyProof.Rows.add_int (q _ _ (ZU s _) (Zf.mpr ⟨_,rfl⟩))
theorem ZR.sub_int :ZR C k (binaryOp .Sub) (.int a) (.int b) (.int (a-b)):=λA s Q E P va vb hr hg ra rb hb q=>by
 obtain⟨t,rfl⟩:=Zf.mp ra;obtain⟨u,rfl⟩:=Zf.mp rb
 exact PyProof.Rows.sub_int (q _ _ (ZU s _) (Zf.mpr ⟨_,rfl⟩))
theorem ZR.mul_int  (hm:IntMulOk a b):ZR C k (binaryOp .Mult) (.int a) (.int b) (.int (a*b)):=λA s Q E P va vb hr hg ra rb hb q=>by
 obtain⟨t,rfl⟩:=Zf.mp ra;obtain⟨u,rfl⟩:=Zf.mp rb
 exact PyProof.Rows.mul_int (q _ _ (ZU s _) (Zf.mpr ⟨_,rfl⟩)) hm
theorem ZR.uZ  (R5:b≠0)(hp:Zw7 a b=false):ZR C k (binaryOp .FloorDiv) (.int a) (.int b) (.int (a.fdiv b)):=λA s Q E P va vb hr hg ra rb hb q=>by
 obtain⟨t,rfl⟩:=Zf.mp ra;obtain⟨u,rfl⟩:=Zf.mp rb
 exact PyProof.Rows.floordiv_int R5 (q _ _ (ZU s _) (Zf.mpr ⟨_,rfl⟩)) (.inl hp)
theorem ZR.mod_int  (R5:b≠0):ZR C k (binaryOp .Mod) (.int a) (.int b) (.int (a.fmod b)):=λA s Q E P va vb hr hg ra rb hb q=>by
 obtain⟨t,rfl⟩:=Zf.mp ra;obtain⟨u,rfl⟩:=Zf.mp rb
 exact PyProof.Rows.mod_int' R5 (q _ _ (ZU s _) (Zf.mpr ⟨_,rfl⟩))
theorem ZR.pow_int  (h0:0<=b)(Yh:(Zvo a:Int)*b<=2 ^ 27):ZR C k (binaryOp .Pow) (.int a) (.int b) (.int (a ^ b.toNat)):=λA s Q E P va vb hr hg ra rb hb q=>by
 obtain⟨t,rfl⟩:=Zf.mp ra;obtain⟨u,rfl⟩:=Zf.mp rb
 exact PyProof.Rows.pow_int h0 Yh (q _ _ (ZU s _) (Zf.mpr ⟨_,rfl⟩))
theorem ZR.add_str  (Yh:a.length+b.length<=Zyk):ZR C k (binaryOp .Add) (.str a) (.str b) (.str (a++b)):=λA s Q E P va vb hr hg ra rb hb q=>by
 obtain⟨t,rfl⟩:=Zt.mp ra;obtain⟨u,rfl⟩:=Zt.mp rb
 exact PyProof.Rows.add_str (λt' tk=>q _ _ (ZU s _) (Zt.mpr ⟨_,rfl⟩)) Yh
theorem ZR.lt_int :ZR C k (compareOp .Lt) (.int a) (.int b) (.bool (decide (a<b))):=λA s Q E P va vb hr hg ra rb hb q=>by
 obtain⟨t,rfl⟩:=Zf.mp ra;obtain⟨u,rfl⟩:=Zf.mp rb
 exact PyProof.Rows.lt_int (q _ _ (Z3 s) (Zr.mpr rfl))
theorem ZR.gt_int :ZR C k (compareOp .Gt) (.int a) (.int b) (.bool (decide (b<a))):=λA s Q E P va vb hr hg ra rb hb q=>by
 obtain⟨t,rfl⟩:=Zf.mp ra;obtain⟨u,rfl⟩:=Zf.mp rb
 exact PyProof.Rows.gt_int (q _ _ (Z3 s) (Zr.mpr rfl))
theorem ZR.le_int :ZR C k (compareOp .LtE) (.int a) (.int b) (.bool (decide (a<=b))):=λA s Q E P va vb hr hg ra rb hb q=>by
 obtain⟨t,rfl⟩:=Zf.mp ra;obtain⟨u,rfl⟩:=Zf.mp rb
 exact PyProof.Rows.le_int (q _ _ (Z3 s) (Zr.mpr rfl))
theorem ZR.ge_int :ZR C k (compareOp .GtE) (.int a) (.int b) (.bool (decide (b<=a))):=λA s Q E P va vb hr hg ra rb hb q=>by
 obtain⟨t,rfl⟩:=Zf.mp ra;obtain⟨u,rfl⟩:=Zf.mp rb
 exact PyProof.Rows.ge_int (q _ _ (Z3 s) (Zr.mpr rfl))
theorem ZR.eq  (Zo:alike a b=true)(hd:dep a<=8):ZR C k (compareOp .Eq) a b (.bool (eqv a b)):=λA s Q E P va vb hr hg ra rb hb q=>
 Bg ra rb Zo (by have:=hr.units;lia) _ _ _ _ (q _ _ (Z3 s) (Zr.mpr rfl))
theorem ZR.ne  (Zo:alike a b=true)(hd:dep a<=8):ZR C k (compareOp .NotEq) a b (.bool (!eqv a b)):=λA s Q E P va vb hr hg ra rb hb q=>
 IE ra rb Zo (by have:=hr.units;lia) _ _ _ _ (q _ _ (Z3 s) (Zr.mpr rfl))
theorem ZR.in_str :ZR C k (compareOp .In) (.str b) (.str a) (.bool (Zwt a b)):=λA s Q E P va vb hr hg ra rb hb q=>by
 obtain⟨t,rfl⟩:=Zt.mp ra;obtain⟨u,rfl⟩:=Zt.mp rb
 exact PyProof.Rows.in_str (q _ _ (Z3 s) (Zr.mpr rfl))
theorem ZR.is_none  (hp:Yn a=true):ZR C k (compareOp .Is) a .none (.bool (eqv a .none)):=λA s Q E P va vb hr hg ra rb hb q=>by
 rw[Y9] at rb;subst rb
 refine PySem.is_none (q _ _ (Z3 s) (Zr.mpr ?_))
 cases a with
 |none=>rw[Y9.mp ra];rfl
 |Xk _=>exact Yr hp
 |box _ _ _=>exact Yr hp
 |bool _=>rw[Zr.mp ra];rfl
 |int _=>obtain⟨_,rfl⟩:=Zf.mp ra;rfl
 |str _=>obtain⟨_,rfl⟩:=Zt.mp ra;rfl
 |tup _=>obtain⟨_,_,_,rfl,_⟩:=Yt.mp ra;rfl
 |lst _=>obtain⟨_,_,_,rfl,_⟩:=ZP.mp ra;rfl
theorem ZR.isNot_none  (hp:Yn a=true):ZR C k (compareOp .IsNot) a .none (.bool (!eqv a .none)):=λA s Q E P va vb hr hg ra rb hb q=>by
 rw[Y9] at rb;subst rb
 refine PySem.isNot_none (q _ _ (Z3 s) (Zr.mpr ?_))
 cases a with
 |none=>rw[Y9.mp ra];rfl
 |Xk _=>exact Yr hp
 |box _ _ _=>exact Yr hp
 |bool _=>rw[Zr.mp ra];rfl
 |int _=>obtain⟨_,rfl⟩:=Zf.mp ra;rfl
 |str _=>obtain⟨_,rfl⟩:=Zt.mp ra;rfl
 |tup _=>obtain⟨_,_,_,rfl,_⟩:=Yt.mp ra;rfl
 |lst _=>obtain⟨_,_,_,rfl,_⟩:=ZP.mp ra;rfl
theorem ZR.is_bool :ZR C k (compareOp .Is) (.bool a) (.bool b) (.bool (a==b)):=λA s Q E P va vb hr hg ra rb hb q=>by
 rw[Zr] at ra rb;subst ra rb
 exact wpAny_is_plain rfl (q _ _ (Z3 s) (Zr.mpr (by cases a<;>cases b<;>rfl)))
theorem ZR.SH :ZR C k (compareOp .IsNot) (.bool a) (.bool b) (.bool (!(a==b))):=λA s Q E P va vb hr hg ra rb hb q=>by
 rw[Zr] at ra rb;subst ra rb
 exact wpAny_isNot_plain rfl (q _ _ (Z3 s) (Zr.mpr (by cases a<;>cases b<;>rfl)))
end
end Mine.Internal
end
section
open PySem PySem.W PyProof.Rows
namespace Mine.Internal
def YD(P:Zya->Prop)(h:Zyp):AV->Zyd->Prop
 |.val d,v=>Rep P h d v
 |.own ds,v=>∃a vs n,v=.ref a/\h.get? a=some { cls:=.type "list",data:=.seq vs n }/\Zy P h ds vs.toList
 |.tab c ds,v=>∃a d b vs,v=.ref a/\TabAt h c a d b vs/\Zy P h ds vs
def XF(P:Zya->Prop)(h:Zyp):List AV->List Zyd->Prop
 |[],vs=>vs=[]
 |d::ds,vs=>∃v r,vs=v::r/\YD P h d v/\XF P h ds r
theorem YD.ext     (x:YD P h a v)(hk:ZT h h'):YD P h' a v:=by
 cases a with
 |val d=>exact Rep.ext x hk
 |own ds=>obtain⟨b,vs,n,e,g,r⟩:=x;exact⟨b,vs,n,e,hk _ _ g,r.ext hk⟩
 |tab c ds=>obtain⟨a,d,b,vs,e,T,r⟩:=x;exact⟨a,d,b,vs,e,T.at λa o _ e=>hk a o e,r.ext hk⟩
theorem XF.ext   (hk:ZT h h'):∀{as:List AV}{vs:List Zyd},XF P h as vs->XF P h' as vs
 |[],_,x=>x
 |_::_,_,⟨v,r,e,a,b⟩=>⟨v,r,e,a.ext hk,XF.ext hk b⟩
def AV.pv:AV->PV
 |.val d=>d
 |.own ds=>.lst ds
 |.tab c ds=>.box (Z8 c) [] ds
theorem YD.pv     (x:YD P h a v):Rep (λ_=>True) h a.pv v:=by
 cases a with
 |val d=>exact Rep.mono (λ_ _ _ _=>trivial) (λ_ _ _ e=>e) x
 |own ds=>exact ZyK (λb=>ZyK λvs=>ZyK λn t=>⟨t.1,trivial,t.2.1,t.2.2.mono (λ_ _ _ _=>trivial) λ_ _ _ e=>e⟩) x
 |tab c ds=>exact Zxm x λa t=>t.elim λd t=>t.elim λb t=>t.elim λvs t=>⟨vs,⟨a,d,b,t.1,trivial,trivial,trivial,t.2.1⟩,t.2.2.mono (λ_ _ _ _=>trivial) λ_ _ _ e=>e⟩
theorem XF.Nb  :∀{as:List AV}{vs:List Zyd},XF P h as vs->Zy (λ_=>True) h (as.map AV.pv) vs
 |[],_,x=>by subst x;exact Zy.nil
 |_::_,_,⟨v,r,e,a,b⟩=>by subst e;exact Zy.cons a.pv b.Nb
section
variable {C:Cx}{k:Nat}{env:Env}{U:Zx}
def Z1(C:Cx)(k:Nat)(env:Env)(U:Zx)(e:Zyc)(a:AV):Prop:=
 ∀A s Q E P,Yw k A->C.G s.heap->X7 P env U s.heap->ZD P s.heap->(∀v s',ZyA s s'->YD P s'.heap a v->Q v s')->wpAny C.M A (eval e env) Q E s
theorem Z1.val   (h:Ev C k env U e d):Z1 C k env U e (.val d):=h
theorem Z1.own   (h:Qx C k env U e ds):Z1 C k env U e (.own ds):=λA s Q E P hr hg hh hb q=>
 h A s Q E P hr hg hh hb λa vs n s' ks g r=>q _ s' ks ⟨a,vs,n,rfl,g,r⟩
def ZW(C:Cx)(k:Nat)(env:Env)(U:Zx):List Zyc->List AV->Prop
 |[],as=>as=[]
 |e::es,as=>∃a r,as=a::r/\Z1 C k env U e a/\ZW C k env U es r/\(Zxn (e::es) env=(false,eval e env)::Zxn es env)
theorem ZW.nil:ZW C k env U [] []:=rfl
theorem ZW.cons     (h:Z1 C k env U e a)(hs:ZW C k env U es r)(he:Zxn (e::es) env=(false,eval e env)::Zxn es env:=by rfl):
 ZW C k env U (e::es) (a::r):=⟨a,r,rfl,h,hs,he⟩
theorem ZW.spliced :∀{es:List Zyc}{as:List AV},ZW C k env U es as->∀{A s E P}{Q:List Zyd->Zym->Prop},Yw k A->C.G s.heap->X7 P env U s.heap->ZD P s.heap->
 (∀vs s',ZyA s s'->XF P s'.heap as vs->Q vs s')->wpAny C.M A (spliced (backTo pos (Zxn es env))) Q E s
 | [],as,h,A,s,E,P,Q,hr,hg,hh,hb,q=>by
   have h':as=[]:=h
   subst h'
   exact ZwV (q [] s (Z3 s) rfl)
 | e::es,as,h,A,s,E,P,Q,hr,hg,hh,hb,q=>by
   obtain⟨a,r,rfl,ha,hs,he⟩:=h
   refine ZxR (ha A s _ _ P hr hg hh hb λv s₁ k₁ r₁=>?_) he
   have x₁:=Zw k₁
   refine ZW.spliced hs hr (C.ext hg x₁) (hh.ext x₁) (hb.ext x₁) λvs s₂ k₂ r₂=>?_
   exact q _ s₂ (Zu k₁ k₂) ⟨v,vs,rfl,r₁.ext (Zw k₂),r₂⟩
theorem ZW.plain :∀{es:List Zyc}{as:List AV},ZW C k env U es as->(backTo pos (Zxn es env)).any (·.1)=false
 |[],_,_=>rfl
 | e::es,_,h=>by
   obtain⟨a,r,rfl,ha,hs,he⟩:=h
   rw[he]
   show (false||(backTo pos (Zxn es env)).any (·.1))=false
   rw[ZW.plain hs];rfl
theorem ZW.args     (h:ZW C k env U es as){A s E P}  (hr:Yw k A)(hg:C.G s.heap)(hh:X7 P env U s.heap)(hb:ZD P s.heap)
 (q:∀vs s',ZyA s s'->XF P s'.heap as vs->Q ⟨vs,[]⟩ s'):wpAny C.M A (evalArgs f true (backTo pos (Zxn es env)) []) Q E s:=by
 cases es with
 | nil=>
   have h':as=[]:=h
   subst h'
   exact PyProof.Rows.evalArgs_empty (q [] s (Z3 s) rfl)
 | cons e es=>
   have BC:=ZW.spliced (pos:=pos) h (A:=A) (s:=s) (E:=E) (P:=P) (Q:=λvs s'=>Q ⟨vs,[]⟩ s') hr hg hh hb q
   obtain⟨a,r,rfl,ha,hs,he⟩:=h
   rw[he] at BC ⊢
   exact Zvh BC
def ZM(C:Cx)(k:Nat)(f:Zyd)(as:List AV)(d:PV):Prop:=
 ∀A s Q E P vs,Yw k A->C.G s.heap->XF P s.heap as vs->ZD P s.heap->(∀v s',ZyA s s'->Rep P s'.heap d v->Q v s')->wpAny C.M A (call f vs) Q E s
structure Ul(C:Cx)(env:Env)(x:Str)(v:Zyd):Prop where
 miss:C.mg x=none
 is:C.mb x=some v
 kind:env.kindOf x=some .globalImplicit
structure N8(C:Cx)(env:Env)(x:Str)(v:Zyd):Prop where
 is:C.mg x=some v
 kind:env.kindOf x=some .globalImplicit
theorem name_B    {A s E}  (hf:Zp env)(b:Ul C env x v)(hg:C.G s.heap)(h:Q v s)(hd:(x==("__debug__":Str))=false:=by decide):
 wpAny C.M A (eval (.Name x pos) env) Q E s:=
 Zus hf.kind b.kind (Calls.loadGlobal_builtin (by rw[hf.globals];exact hg.g) b.miss (by rw[hf.builtins];exact hg.b) b.is h) hd
theorem JN    {A s E}  (hf:Zp env)(b:N8 C env x v)(hg:C.G s.heap)(h:Q v s)(hd:(x==("__debug__":Str))=false:=by decide):
 wpAny C.M A (eval (.Name x pos) env) Q E s:=
 Zus hf.kind b.kind (Calls.loadGlobal_global (by rw[hf.globals];exact hg.g) b.is h) hd
theorem Xv(x:Str)(p:Pos)(args:List Zyc)(pos:Pos)(env:Env):eval (.Call (.Name x p) args [] pos) env=(do
 callWith pos (<-eval (.Name x p) env) [] (backTo pos (Zxn args env)) (backToKw pos (keywordEach [] env))):=rfl
theorem Ev.Si  {id:String}     (hf:Zp env)(b:Ul C env x (.builtin id))(ha:ZW C k env U args as)(hc:ZM C k (.builtin id) as d)
 (hd:(x==("__debug__":Str))=false:=by decide):Ev C k env U (.Call (.Name x p) args [] pos) d:=λA s Q E P hr hg hh hb q=>by
 rw[Xv]
 refine Zyf (name_B hf b hg ?_ hd)
 refine ZxK ha.plain (ha.args hr hg hh hb λvs s₁ k₁ r₁=>?_)
 have x₁:=Zw k₁
 exact hc A s₁ _ _ P vs hr (C.ext hg x₁) r₁ (hb.ext x₁) λv s' k' r'=>q v s' (Zu k₁ k') r'
def WG(C:Cx)(f:Zya):Prop:=∃o fd,(∀h,C.G h->h.get? f=some o)/\o.data=.func fd
theorem Ev.cV       (hf:Zp env)(b:N8 C env x (.ref f))(qL:WG C f)(ha:ZW C k env U args as)(hc:ZM C k (.ref f) as d)
 (hd:(x==("__debug__":Str))=false:=by decide):Ev C k env U (.Call (.Name x p) args [] pos) d:=λA s Q E P hr hg hh hb q=>by
 obtain⟨o,fd,ho,qR⟩:=qL
 rw[Xv]
 refine Zyf (JN hf b hg ?_ hd)
 refine ZvU (o:=o) (fd:=fd) (ha.args hr hg hh hb λvs s₁ k₁ r₁=>?_)
 have x₁:=Zw k₁
 exact⟨⟨ho _ (C.ext hg x₁),qR⟩,hc A s₁ _ _ P vs hr (C.ext hg x₁) r₁ (hb.ext x₁) λv s' k' r'=>q v s' (Zu k₁ k') r'⟩
theorem XF.vals  :∀{ds:List PV}{vs:List Zyd},XF P h (ds.map .val) vs->Zy P h ds vs
 |[],_,x=>by have x':_=_:=x;subst x';exact Zy.nil
 |_::_,_,⟨v,r,e,a,b⟩=>by subst e;exact Zy.cons a b.vals
theorem Ev.tuple     (h:ZW C k env U es (ds.map .val))(Yh:ds.length<=Zyk):Ev C k env U (.Tuple es n pos) (.tup ds):=λA s Q E P hr hg hh hb q=>by
 refine wpAny_Tuple (h.spliced hr hg hh hb λvs s₁ k₁ r₁=>?_)
 have rv:=r₁.vals
 refine⟨by rw[rv.length];exact Yh,q _ _ (Zu k₁ (YL s₁ _)) (Yt.mpr ⟨_,vs.toArray,0,rfl,(hb.ext (Zw k₁)).new,ZyX _ rfl,?_⟩)⟩
 exact rv.ext λ_ _ e=>Zyo _ e
theorem Ev.list    (h:ZW C k env U es (ds.map .val))(Yh:ds.length<=Zyk):Ev C k env U (.List es pos) (.lst ds):=λA s Q E P hr hg hh hb q=>by
 refine wpAny_List (h.spliced hr hg hh hb λvs s₁ k₁ r₁=>?_)
 have rv:=r₁.vals
 refine⟨by rw[rv.length];exact Yh,q _ _ (Zu k₁ (YL s₁ _)) (ZP.mpr ⟨_,vs.toArray,0,rfl,(hb.ext (Zw k₁)).new,ZyX _ rfl,?_⟩)⟩
 exact rv.ext λ_ _ e=>Zyo _ e
theorem Ev.x8     (ht:YZ C k env U t c)(ha:c=true->Ev C k env U a d)(Ve:c=false->Ev C k env U b d):Ev C k env U (.IfExp t a b pos) d:=λA s Q E P hr hg hh hb q=>by
 show wpAny C.M A (do if <-isTrue t env (eval t env) then eval a env else eval b env) Q E s
 refine Zyf (ht A s _ _ P hr hg hh hb λs₁ k₁=>?_)
 have x₁:=Zw k₁
 cases c with
 |true=>exact ha rfl A s₁ _ _ P hr (C.ext hg x₁) (hh.ext x₁) (hb.ext x₁) λv s' k' r'=>q v s' (Zu k₁ k') r'
 |false=>exact Ve rfl A s₁ _ _ P hr (C.ext hg x₁) (hh.ext x₁) (hb.ext x₁) λv s' k' r'=>q v s' (Zu k₁ k') r'
noncomputable def wu:PV->Option Bool
 |.none=>some false
 |.bool b=>some b
 |.int i=>some (i != 0)
 |.str x=>some (x.length != 0)
 |_=>Zxz
theorem YZ.value    (h:Ev C k env U e d)(ht:wu d=some b)(hz:∀x,d=.str x->x.length<=Zyk)(he:isTrue e env (eval e env)=(do let v <-eval e env;standAt e.pos;holding [v] (truthy v)):=by rfl):
 YZ C k env U e b:=λA s Q E P hr hg hh hb q=>by
 refine wpAny_isTrue_value (h A s _ _ P hr hg hh hb λv s₁ k₁ r₁=>?_) he
 cases d with
 |none=>rw[Y9] at r₁;subst r₁;cases ht;exact Zys (q s₁ k₁)
 |bool c=>rw[Zr] at r₁;subst r₁;cases ht;exact wpAny_truthy_bool (q s₁ k₁)
 | int i=>
   obtain⟨t,rfl⟩:=Zf.mp r₁
   cases ht
   exact PyProof.Rows.truthy_int (q s₁ k₁)
 | str x=>
   obtain⟨t,rfl⟩:=Zt.mp r₁
   cases ht
   have hx:=hz x rfl
   rw[Zx1] at hx
   refine PySem.P.truthy_str (by lia) ?_
   rw[show ((x.length:Int) != 0)=(x.length != 0) by cases h:x.length<;>simp [bne]<;>lia]
   exact q _ (Zu k₁ (ZU s₁ _))
 |tup _=>cases ht
 |Xk _=>cases ht
 |box _ _ _=>cases ht
 |lst _=>cases ht
theorem YZ.and_nil    (h:∀A s Q E P,Yw k A->C.G s.heap->X7 P env U s.heap->ZD P s.heap->(∀s',ZyA s s'->Q b s')->wpAny C.M A (allTrue .And vs env) Q E s):
 YZ C k env U (.BoolOp .And vs pos) b:=λA s Q E P hr hg hh hb q=>wpAny_isTrue_BoolOp (h A s Q E P hr hg hh hb q)
def Uy(C:Cx)(k:Nat)(env:Env)(U:Zx)(vs:List Zyc)(b:Bool):Prop:=
 ∀A s Q E P,Yw k A->C.G s.heap->X7 P env U s.heap->ZD P s.heap->(∀s',ZyA s s'->Q b s')->wpAny C.M A (allTrue .And vs env) Q E s
theorem Uy.nil:Uy C k env U [] true:=λA s Q E P hr hg hh hb q=>wpAny_allTrue_And_nil (q s (Z3 s))
theorem Uy.cons    (ha:YZ C k env U e a)(hs:a=true->Uy C k env U es b):Uy C k env U (e::es) (a&&b):=λA s Q E P hr hg hh hb q=>by
 refine wpAny_allTrue_And_cons (ha A s _ _ P hr hg hh hb λs₁ k₁=>?_)
 have x₁:=Zw k₁
 cases a with
 |true=>exact hs rfl A s₁ _ _ P hr (C.ext hg x₁) (hh.ext x₁) (hb.ext x₁) λs' k'=>q s' (Zu k₁ k')
 |false=>exact q s₁ k₁
theorem YZ.and    (h:Uy C k env U vs b):YZ C k env U (.BoolOp .And vs pos) b:=YZ.and_nil h
end
structure Vu(T:String)(name:Str)(id:String):Prop where
 plain:PlainAttrs T
 slot:Slot T name id
 desc:typeOf (.builtin id)=pure (.type "method_descriptor")
noncomputable def Qr:AV->Option String
 |.val (.str _)=>some "str"
 |.val (.lst _)=>some "list"
 |.own _=>some "list"
 |_=>none
theorem YD.rep     (r:YD P h (.val d) v):Rep P h d v:=r
theorem Sm   {R:Prop}(h:Qr a=some T)(s:∀x,a=.val (.str x)->"str"=T->R)(l:∀ds,a=.val (.lst ds)->"list"=T->R)(o:∀ds,a=.own ds->"list"=T->R):R:=by
 cases a with
 |own ds=>exact o ds rfl (Zyb h)
 |tab c ds=>exact nS h
 | val d=>cases d with
   |str x=>exact s x rfl (Zyb h)
   |lst ds=>exact l ds rfl (Zyb h)
   |_=>exact nS h
theorem H3{s:Zym}    (g:s.heap.get? b=some { cls:=.type "list",data:=.seq vs n }):s.TypeIs (.ref b) "list"/\∀c,ZjK b=.ref c->∃ob,s.heap.get? c=some ob/\ob.dict=none:=⟨⟨_,g,rfl⟩,λc e=>⟨_,Zvp e ▸ g,rfl⟩⟩
theorem YD.typeIs{P:Zya->Prop}{s:Zym}{a:AV}   (r:YD P s.heap a v)(h:Qr a=some T):s.TypeIs v T/\(∀b,v=.ref b->∃ob,s.heap.get? b=some ob/\ob.dict=none):=
 Sm h (λx e et=>(Zt.mp (show Rep P s.heap (.str x) v from (e ▸ r:YD P s.heap (.val (.str x)) v))).elim λt ev=>et ▸ ev ▸ ⟨typeIs_str _ _ _,λc e=>nomatch e⟩)
  (λds e et=>(ZP.mp (show Rep P s.heap (.lst ds) v from (e ▸ r:YD P s.heap (.val (.lst ds)) v))).elim λb z=>z.elim λvs z=>z.elim λn z=>et ▸ z.1 ▸ H3 z.2.2.1)
  λds e et=>Zxm (e ▸ r:YD P s.heap (.own ds) v) λb z=>z.elim λvs z=>z.elim λn z=>et ▸ z.1 ▸ H3 z.2.1
section
variable {C:Cx}{k:Nat}{env:Env}{U:Zx}
theorem ZW.few  {args:List Zyc}  (h:ZW C k env U args as)(hl:args.length<29):
 ((backTo pos (Zxn args env)).all (λx=>!x.1)&&(backToKw pos (keywordEach [] env)).all (λx=>x.1.isSome)&&decide (args.length+([]:List ZvW).length+(if ([]:List ZvW).isEmpty then 0 else 1)<30))=true:=by
 have h1:(backTo pos (Zxn args env)).all (λx=>!x.1)=true:=by
  rw[List.all_eq_not_any_not]
  simp only[Bool.not_not]
  exact congrArg (!·) (h.plain (pos:=pos))
 exact Zxp.mpr ⟨Zxp.mpr ⟨h1,rfl⟩,decide_eq_true (show args.length+0+0<30 from Zu3 hl)⟩
theorem Ev.method  {name:Str}{id T:String}      (ho:Z1 C k env U o a)(hT:Qr a=some T)(hm:Vu T name id)(ha:ZW C k env U args as)
 (hc:ZM C k (.builtin id) (a::as) d) (YJ:attributeBase o name env (eval o env)=eval o env:=by rfl) (ZC:(apos.endLine==pos.line)=true:=by rfl) (hl:args.length<29:=by decide):
 Ev C k env U (.Call (.Attribute o name apos) args [] pos) d:=λA s Q E P hr hg hh hb q=>by
 refine wpAny_Call_method YJ (ha.few hl) ZC hm.plain hm.slot hm.desc (ho A s _ _ P hr hg hh hb λv s₁ k₁ r₁=>?_)
 have x₁:=Zw k₁
 refine⟨(r₁.typeIs hT).1,(r₁.typeIs hT).2,?_⟩
 refine ZxK ha.plain (ha.args hr (C.ext hg x₁) (hh.ext x₁) (hb.ext x₁) λvs s₂ k₂ r₂=>?_)
 have x₂:=Zw k₂
 exact hc A s₂ _ _ P (v::vs) hr (C.ext (C.ext hg x₁) x₂) ⟨v,vs,rfl,r₁.ext x₂,r₂⟩ ((hb.ext x₁).ext x₂) λv' s' k' r'=>q v' s' (Zu (Zu k₁ k₂) k') r'
theorem XG     (r:XF P h [a] vs):∃v,vs=[v]/\YD P h a v:=by
 obtain⟨v,r,e,x,y⟩:=r;cases y;exact⟨v,e,x⟩
theorem VE     (r:XF P h [a,b] vs):∃v w,vs=[v,w]/\YD P h a v/\YD P h b w:=by
 obtain⟨v,r,e,x,y⟩:=r;obtain⟨w,rfl,z⟩:=XG y;exact⟨v,w,e,x,z⟩
theorem d8     (r:XF P h [a,b,c] vs):∃v w u,vs=[v,w,u]/\YD P h a v/\YD P h b w/\YD P h c u:=by
 obtain⟨v,r,e,x,y⟩:=r;obtain⟨w,u,rfl,z⟩:=VE y;exact⟨v,w,u,e,x,z⟩
theorem d7     (r:XF P h [a,b,c,d] vs):∃v w u x,vs=[v,w,u,x]/\YD P h a v/\YD P h b w/\YD P h c u/\YD P h d x:=by
 obtain⟨v,r,e,x,y⟩:=r;obtain⟨w,u,z,rfl,h'⟩:=d8 y;exact⟨v,w,u,z,e,x,h'⟩
theorem Y2     (r:YD P h (.val (.str x)) v):∃t,v=.str x t:=Zt.mp r.rep
theorem Vq     (r:YD P h (.val (.int x)) v):∃t,v=.int x t:=Zf.mp r.rep
theorem Dw      (ha:a=.val (.lst ds)∨a=.own ds)(r:YD P h a v):
 ∃b vs n,v=.ref b/\h.get? b=some { cls:=.type "list",data:=.seq vs n }/\Zy P h ds vs.toList:=by
 rcases ha with rfl |rfl
 ·obtain⟨b,vs,n,e,_,g,z⟩:=ZP.mp r.rep;exact⟨b,vs,n,e,g,z⟩
 ·exact r
theorem m_startswith:Vu "str" "startswith" "str.startswith":=⟨Zw8,F.slot_str_startswith,F.type_str_startswith⟩
theorem m_endswith:Vu "str" "endswith" "str.endswith":=⟨Zw8,F.slot_str_endswith,F.type_str_endswith⟩
theorem m_find:Vu "str" "find" "str.find":=⟨Zw8,F.slot_str_find,F.type_str_find⟩
theorem m_split:Vu "str" "split" "str.split":=⟨Zw8,Zvn,F.type_str_split⟩
theorem iO:Vu "str" "join" "str.join":=⟨Zw8,F.slot_str_join,F.type_str_join⟩
theorem m_upper:Vu "str" "upper" "str.upper":=⟨Zw8,F.slot_str_upper,F.type_str_upper⟩
theorem m_lower:Vu "str" "lower" "str.lower":=⟨Zw8,F.slot_str_lower,F.type_str_lower⟩
theorem AF :ZM C k (.builtin "str.startswith") [.val (.str x),.val (.str y)] (.bool (ZyY x y)):=λA s Q E P vs hr hg r hb q=>by
 obtain⟨v,w,rfl,a,b⟩:=VE r
 obtain⟨t,rfl⟩:=Y2 a;obtain⟨u,rfl⟩:=Y2 b
 exact SC.startswith (q _ _ (Z3 s) (Zr.mpr rfl))
theorem L5 :ZM C k (.builtin "str.endswith") [.val (.str x),.val (.str y)] (.bool (ZyJ x y)):=λA s Q E P vs hr hg r hb q=>by
 obtain⟨v,w,rfl,a,b⟩:=VE r
 obtain⟨t,rfl⟩:=Y2 a;obtain⟨u,rfl⟩:=Y2 b
 exact SC.endswith (q _ _ (Z3 s) (Zr.mpr rfl))
theorem uJ :ZM C k (.builtin "str.find") [.val (.str x),.val (.str y)] (.int (Txt.find x y)):=λA s Q E P vs hr hg r hb q=>by
 obtain⟨v,w,rfl,a,b⟩:=VE r
 obtain⟨t,rfl⟩:=Y2 a;obtain⟨u,rfl⟩:=Y2 b
 exact SC.find (q _ _ (ZU s _) (Zf.mpr ⟨_,rfl⟩))
noncomputable def Xu(x y:Str)(i j:Int):Int:=match Zy8 x y (fromIndex x.length i) (min (fromIndex x.length j) x.length) 1 with |k::_=>(k:Int) |[]=>-1
theorem L2(x y:Str)(i j:Int)(t u v z:Tok):Gives (ZuW.«str.find» ⟨[.str x t,.str y u,.int i v,.int j z],[]⟩) (.int (Xu x y i j)):=by
 show Gives (match Zy8 x y (fromIndex x.length i) (min (fromIndex x.length j) x.length) 1 with |k::_=>retInt k |[]=>(do rule "str.find.not-found";retInt (-1))) _
 unfold Xu
 cases Zy8 x y (fromIndex x.length i) (min (fromIndex x.length j) x.length) 1 with
 |nil=>exact .rule (.of_eq rfl)
 |cons k _=>exact .of_eq rfl
theorem yy  :ZM C k (.builtin "str.find") [.val (.str x),.val (.str y),.val (.int i),.val (.int j)] (.int (Xu x y i j)):=λA s Q E P vs hr hg r hb q=>by
 obtain⟨v,w,u,z,rfl,a,b,c,d⟩:=d7 r
 obtain⟨t,rfl⟩:=Y2 a;obtain⟨u,rfl⟩:=Y2 b;obtain⟨t',rfl⟩:=Vq c;obtain⟨u',rfl⟩:=Vq d
 exact call_gives F.slot_str_find (typeIs_str _ _ _) F.entry_str_find (F.args_str_find_4 _ _ _ _) (L2 x y i j t u t' u') (q _ _ (ZU s _) (Zf.mpr ⟨_,rfl⟩))
theorem zO  (hx:x.length<=5592405):ZM C k (.builtin "str.upper") [.val (.str x)] (.str (ZwY x)):=λA s Q E P vs hr hg r hb q=>by
 obtain⟨v,rfl,a⟩:=XG r
 obtain⟨t,rfl⟩:=Y2 a
 exact SCL.upper hx λ_=>q _ _ (ZU s _) (Zt.mpr ⟨_,rfl⟩)
theorem yz  (hx:x.length<=5592405):ZM C k (.builtin "str.lower") [.val (.str x)] (.str (ZyU x)):=λA s Q E P vs hr hg r hb q=>by
 obtain⟨v,rfl,a⟩:=XG r
 obtain⟨t,rfl⟩:=Y2 a
 exact SCL.lower hx λ_=>q _ _ (ZU s _) (Zt.mpr ⟨_,rfl⟩)
theorem F3  :∀{l:List (Str × Tok)},Zy P h (l.map λx=>.str x.1) (strValues l)
 |[]=>Zy.nil
 |(x,t)::l=>Zy.cons (Zt.mpr ⟨t,rfl⟩) F3
theorem JW  :∀{ys:List Str}{vs:List Zyd},Zy P h (ys.map .str) vs->∃l:List (Str × Tok),vs=strValues l/\l.map (·.1)=ys
 |[],vs,r=>⟨[],r,rfl⟩
 |y::ys,vs,r=>Zxm r λv t=>t.elim λrr t=>(Zt.mp t.2.1).elim λu e=>(JW t.2.2).elim λl z=>⟨(y,u)::l,t.1.trans (e.symm ▸ z.1.symm ▸ rfl),congrArg (y::·) z.2⟩
theorem uQ    (ha:a=.val (.lst (ys.map .str))∨a=.own (ys.map .str))(Wx:Zub x ys=true):ZM C k (.builtin "str.join") [.val (.str x),a] (.str (ZwS x ys)):=λA s Q E P vs hr hg r hb q=>by
 obtain⟨v,w,rfl,a,b⟩:=VE r
 obtain⟨t,rfl⟩:=Y2 a
 obtain⟨D,items,n,rfl,g,z⟩:=Dw ha b
 obtain⟨l,e,hl⟩:=JW z
 have e':items=(strValues l).toArray:=by rw[<-e]
 exact SC.join (l:=l) (Yu (by rw[<-e'];exact g)) hl Wx λt' tk=>q _ _ (ZU s _) (Zt.mpr ⟨_,rfl⟩)
theorem Rx  (hx:x.length<=Zyk):ZM C k (.builtin "len") [.val (.str x)] (.int x.length):=λA s Q E P vs hr hg r hb q=>by
 obtain⟨v,rfl,a⟩:=XG r
 obtain⟨t,rfl⟩:=Y2 a
 rw[Zx1] at hx
 exact PySem.P.len_str (by lia) (q _ _ (ZU s _) (Zf.mpr ⟨_,rfl⟩))
theorem L4   (ha:a=.val (.lst ds)∨a=.own ds)(hx:ds.length<=Zyk):ZM C k (.builtin "len") [a] (.int ds.length):=λA s Q E P vs hr hg r hb q=>by
 obtain⟨v,rfl,a⟩:=XG r
 obtain⟨D,items,n,rfl,g,z⟩:=Dw ha a
 have hn:items.size=ds.length:=by simpa using z.length
 rw[Zx1] at hx
 refine Calls.call_len_list (Yu g) (by lia) ?_
 rw[hn]
 exact q _ _ (ZU s _) (Zf.mpr ⟨_,rfl⟩)
theorem f9 :ZM C k (.builtin "ord") [.val (.str ⟨#[c]⟩)] (.int c):=λA s Q E P vs hr hg r hb q=>by
 obtain⟨v,rfl,a⟩:=XG r
 obtain⟨t,rfl⟩:=Y2 a
 exact PySem.P.ord_of_char (q _ _ (ZU s _) (Zf.mpr ⟨_,rfl⟩))
theorem fY  (h0:0<=i)(h1:i<=1114111):ZM C k (.builtin "chr") [.val (.int i)] (.str ⟨#[i.toNat]⟩):=λA s Q E P vs hr hg r hb q=>by
 obtain⟨v,rfl,a⟩:=XG r
 obtain⟨t,rfl⟩:=Vq a
 exact PyProof.Rows.chr_of_range h0 h1 (q _ _ (ZU s _) (Zt.mpr ⟨_,rfl⟩))
end
noncomputable def YM(i:Option Int)(n d:Nat):Nat:=match i with
 |none=>d
 |some i=>(max 0 (min (if i<0 then i+n else i) n)).toNat
def ZZ{α:Type}(lo hi:Option Int)(l:List α):List α:=(l.drop (YM lo l.length 0)).take (YM hi l.length l.length-YM lo l.length 0)
theorem MA   (h:d<=n):YM i n d<=n:=by
 cases i with
 |none=>exact h
 |some i=>exact Int.toNat_le.mpr (Int.max_le.mpr ⟨Zwn n,Int.min_le_right _ _⟩)
theorem QE(i n d:Nat):YM (some (i:Int)) n d=min i n:=by
 show (max 0 (min (if (i:Int)<0 then _ else (i:Int)) (n:Int))).toNat=_
 rw[if_neg (Zqd.mpr (Zwn i))]
 rcases Zq6 i n with h |h
 ·rw[ZxA h,Zjr (Zws.mpr h),ZvB (Zwn i)];rfl
 ·rw[ZvA h,Int.min_eq_right (Zws.mpr h),ZvB (Zwn n)];rfl
theorem VF(i:Option Int)(n d:Nat):(match i with
 |none=>(d:Int)
 |some i=>max 0 (min (if i<0 then i+n else i) n))=((YM i n d:Nat):Int):=by
 cases i with
 |none=>rfl
 |some i=>exact (Zqp (Zje 0 _)).symm
theorem A9(lo hi:Option Int)(x:Str):(ZxN lo hi 1 x.length).filterMap (x.cps[·]?)=ZZ lo hi x.cps.toList:=by
 have e:ZxN lo hi 1 x.length=(Zxv (YM hi x.length x.length-YM lo x.length 0)).map (YM lo x.length 0+·):=by
  rw[<-sliceRange_one]
  have h1:=VF lo x.length 0
  have h2:=VF hi x.length x.length
  unfold ZxN
  simp only[show (1:Int) > 0 by decide,if_true]
  rw[<-h1,<-h2]
  rfl
 rw[e,pick_run]
 unfold ZZ
 rw[show x.cps.toList.length=x.length from rfl]
theorem Lw(lo hi:Option Int)(x:Str):(ZxN lo hi 1 x.length).length=YM hi x.length x.length-YM lo x.length 0:=by
 have e:ZxN lo hi 1 x.length=(Zxv (YM hi x.length x.length-YM lo x.length 0)).map (YM lo x.length 0+·):=by
  rw[<-sliceRange_one]
  have h1:=VF lo x.length 0
  have h2:=VF hi x.length x.length
  unfold ZxN
  simp only[show (1:Int) > 0 by decide,if_true]
  rw[<-h1,<-h2]
  rfl
 rw[e];simp
def Yg(lo hi:Option Int)(x:Str):Str:=⟨(ZZ lo hi x.cps.toList).toArray⟩
theorem Aj(lo hi:Option Int)(x:Str):(Yg lo hi x).length<=x.length:=by
 show (ZZ lo hi x.cps.toList).toArray.size<=x.cps.size
 rw[List.size_toArray,ZZ,ZxZ,Zwa]
 exact Zyi (ZvN _ _) (ZvP _ _)
theorem Jx(items:Array Zyd)(lo hi:Option Int):slicePick items lo hi none=(ZZ lo hi items.toList).toArray:=by
 have h1:=VF lo items.size 0
 have h2:=VF hi items.size items.size
 have e:sliceBounds lo hi none items.size=(((YM lo items.size 0:Nat):Int),((YM hi items.size items.size:Nat):Int),1):=by
  unfold sliceBounds
  simp only[ZuQ,show (1:Int) > 0 by decide,if_true]
  rw[<-h1,<-h2]
  rfl
 unfold slicePick
 rw[e]
 simp only[sliceRange_one,pick_run]
 rfl
theorem Zy.drop  :∀{n:Nat}{ds:List PV}{vs:List Zyd},Zy P h ds vs->Zy P h (ds.drop n) (vs.drop n)
 |0,_,_,x=>x
 |n+1,[],vs,x=>(congrArg (λv=>Zy P h [] (Zq7 (n+1) v)) (show vs=[] from x)).mpr Zy.nil
 |n+1,d::ds,vs,x=>Zxm x λv t=>t.elim λr t=>(congrArg (λw=>Zy P h (ds.drop n) (Zq7 (n+1) w)) t.1).mpr (Zy.drop t.2.2)
theorem Zy.take  :∀{n:Nat}{ds:List PV}{vs:List Zyd},Zy P h ds vs->Zy P h (ds.take n) (vs.take n)
 |0,_,_,x=>Zy.nil
 |n+1,[],vs,x=>(congrArg (λv=>Zy P h [] (ZuL (n+1) v)) (show vs=[] from x)).mpr Zy.nil
 |n+1,d::ds,vs,x=>Zxm x λv t=>t.elim λr t=>(congrArg (λw=>Zy P h ((d::ds).take (n+1)) (ZuL (n+1) w)) t.1).mpr (Zy.cons t.2.1 (Zy.take t.2.2))
theorem Zy.ZZ   {lo hi:Option Int}   (x:Zy P h ds vs):Zy P h (ZZ lo hi ds) (ZZ lo hi vs):=by
 unfold Mine.Internal.ZZ
 rw[x.length]
 exact x.drop.take
section
variable {C:Cx}{k:Nat}{env:Env}{U:Zx}
def Qy(C:Cx)(k:Nat)(env:Env)(U:Zx):Option Zyc->Option Int->Prop
 |none,i=>i=none
 |some e,i=>∃j,i=some j/\Ev C k env U e (.int j)
theorem Qy.none:Qy C k env U Zxz Zxz:=rfl
theorem Qy.some   (h:Ev C k env U e (.int j)):Qy C k env U (Zju e) (Zju j):=⟨j,rfl,h⟩
theorem Qy.eval   (h:Qy C k env U x i){A s E P}  (hr:Yw k A)(hg:C.G s.heap)(hh:X7 P env U s.heap)(hb:ZD P s.heap)
 (q:∀(l:Option (Int × Tok)) s',ZyA s s'->l.map (·.1)=i->Q (partValue l) s'):wpAny C.M A (evalPart x env) Q E s:=by
 cases x with
 | none=>
   have h':i=Zxz:=h
   subst h'
   rw[evalPart_none]
   exact Zys (q Zxz s (Z3 s) rfl)
 | some e=>
   obtain⟨j,rfl,he⟩:=h
   rw[evalPart_some]
   refine he A s _ _ P hr hg hh hb λv s₁ k₁ r₁=>?_
   obtain⟨t,rfl⟩:=Zf.mp r₁
   exact q (Zju (j,t)) s₁ k₁ rfl
theorem An(l:Option (Int × Tok)):IsPart (partValue l) (l.map (·.1)):=by
 cases l with
 |none=>exact .none
 |some x=>exact .int _ _
theorem Ev.Eh  {lo hi:Option Zyc}    (ho:Ev C k env U o (.str x))(hl:Qy C k env U lo i)(hu:Qy C k env U hi j)(hx:x.length<=Zyk)
 (ht:∀a r,letTemporaryGo o a r=pure ():=by intro _ _;rfl):Ev C k env U (.Subscript o (.Slice lo hi Zxz p) pos) (.str (Yg i j x)):=λA s Q E P hr hg hh hb q=>by
 refine wpAny_Subscript_str_slice (ho A s _ _ P hr hg hh hb λv s₁ k₁ r₁=>?_) ht
 obtain⟨t,rfl⟩:=Zt.mp r₁
 have x₁:=Zw k₁
 refine hl.eval hr (C.ext hg x₁) (hh.ext x₁) (hb.ext x₁) λl s₂ k₂ e₂=>?_
 have x₂:=Zw k₂
 refine hu.eval hr (C.ext (C.ext hg x₁) x₂) ((hh.ext x₁).ext x₂) ((hb.ext x₁).ext x₂) λu s₃ k₃ e₃=>?_
 refine⟨x,t,l,u,rfl,rfl,rfl,?_⟩
 have kk:∀tk,ZyA s { s₃ with heap:=s₃.heap.push { cls:=.type "slice",data:=.fields #[partValue l,partValue u,.none] },toks:=tk }:=λtk=>
  Zu (Zu (Zu k₁ k₂) k₃) ⟨_,tk,rfl,λ_ _ e=>Zyo _ e⟩
 subst e₂ e₃
 have key:(⟨((slicePicked x l u Zxz).filterMap (x.cps[·]?)).toArray⟩:Str)=Yg (l.map (·.1)) (u.map (·.1)) x:=by
  unfold slicePicked Yg
  rw[show ((Zxz:Option (Int × Tok)).map (·.1)).getD 1=1 from rfl,A9]
 unfold sliceMade
 by_cases hc:(((Zxz:Option (Int × Tok)).map (·.1)).getD 1==1&&(slicePicked x l u Zxz).length==x.length)=true
 ·rw[if_pos hc]
  have hlen:(slicePicked x l u Zxz).length=x.length:=by simpa using (Zxp.mp hc).2
  have:Yg (l.map (·.1)) (u.map (·.1)) x=x:=by
   have h1:=Lw (l.map (·.1)) (u.map (·.1)) x
   unfold slicePicked at hlen
   rw[show ((Zxz:Option (Int × Tok)).map (·.1)).getD 1=1 from rfl,h1] at hlen
   have h2:YM (l.map (·.1)) x.length 0<=x.length:=MA (ZyS _)
   have h3:YM (u.map (·.1)) x.length x.length<=x.length:=MA (Zy7 _)
   unfold Yg ZZ
   rw[show x.cps.toList.length=x.length from rfl,hlen]
   obtain⟨c⟩:=x
   congr 1
   have h4:YM (l.map (·.1)) (Zvt ⟨c⟩) 0=0∨Zvt ⟨c⟩=0:=by lia
   rcases h4 with h4 |h4
   ·rw[h4]
    show (ZuL c.size (Zq7 0 c.toList)).toArray=c
    rw[Zqv,Zx6 (by simp)]
   ·have:c=#[]:=Array.eq_empty_of_size_eq_zero h4
    subst this
    simp
  refine q _ _ (kk _) (Zt.mpr ⟨t,?_⟩)
  rw[this]
 ·rw[if_neg hc,key]
  exact⟨Zyi (Aj _ _ _) hx,q _ _ (kk _) (Zt.mpr ⟨_,rfl⟩)⟩
theorem Ev.slice_list  {lo hi:Option Zyc}    (ho:Qx C k env U o ds)(hl:Qy C k env U lo i)(hu:Qy C k env U hi j)(hx:ds.length<=Zyk)
 (ht:∀a r,letTemporaryGo o a r=pure ():=by intro _ _;rfl):Ev C k env U (.Subscript o (.Slice lo hi Zxz p) pos) (.lst (ZZ i j ds)):=λA s Q E P hr hg hh hb q=>by
 refine wpAny_Subscript_list_slice (ho A s _ _ P hr hg hh hb λb vs n s₁ k₁ g₁ r₁=>?_) ht
 have x₁:=Zw k₁
 refine hl.eval hr (C.ext hg x₁) (hh.ext x₁) (hb.ext x₁) λl s₂ k₂ e₂=>?_
 have x₂:=Zw k₂
 refine hu.eval hr (C.ext (C.ext hg x₁) x₂) ((hh.ext x₁).ext x₂) ((hb.ext x₁).ext x₂) λu s₃ k₃ e₃=>?_
 have x₃:=Zw k₃
 have hn:vs.size=ds.length:=by simpa using r₁.length
 refine⟨b,vs,_,_,rfl,Yu (x₃ _ _ (x₂ _ _ g₁)),by lia,An l,An u,?_⟩
 have kk:ZyA s { s₃ with heap:=(s₃.heap.push { cls:=.type "slice",data:=.fields #[partValue l,partValue u,.none] }).push { cls:=.type "list",data:=.seq (slicePick vs (l.map (·.1)) (u.map (·.1)) Zxz) } }:=
  Zu (Zu (Zu k₁ k₂) k₃) ⟨_,_,rfl,λ_ _ e=>Zyo _ (Zyo _ e)⟩
 subst e₂ e₃
 have sz:(s₃.heap.push { cls:=.type "slice",data:=.fields #[partValue l,partValue u,.none] }).objs.size=s₃.heap.objs.size+1:=Zw9 ..
 have al:ZD P (s₃.heap.push { cls:=.type "slice",data:=.fields #[partValue l,partValue u,.none] }):=(((hb.ext x₁).ext x₂).ext x₃).ext λ_ _ e=>Zyo _ e
 refine q _ _ kk (ZP.mpr ⟨_,slicePick vs (l.map (·.1)) (u.map (·.1)) Zxz,0,rfl,sz ▸ al.new,?_,?_⟩)
 ·rw[<-sz];exact ZyX _ rfl
 ·rw[Jx]
  exact (((r₁.ext x₂).ext x₃).ZZ).ext λ_ _ e=>Zyo _ (Zyo _ e)
theorem Ev.item      (ho:Qx C k env U o ds)(hi:Ev C k env U i (.int j))(h0:0<=j)(h1:j<2 ^ 63)(hd:ds[j.toNat]?=some d)
 (hs:∀a b,subscripted i false a b=operate [a,b] (getItem a b):=by intro _ _;rfl):Ev C k env U (.Subscript o i pos) d:=λA s Q E P hr hg hh hb q=>by
 refine Zu8 (ho A s _ _ P hr hg hh hb λb vs n s₁ k₁ g₁ r₁=>?_)
 have x₁:=Zw k₁
 refine hi A s₁ _ _ P hr (C.ext hg x₁) (hh.ext x₁) (hb.ext x₁) λv s₂ k₂ r₂=>?_
 obtain⟨t,rfl⟩:=Zf.mp r₂
 have x₂:=Zw k₂
 obtain⟨v,hv,rv⟩:=(r₁.ext x₂).get hd
 have hl:=Yu (x₂ _ _ g₁)
 exact tail_any hl.typeIs slot_list_getitem.lookup (wpAny_getItem_list hl h0 h1 (by simpa using hv) (q v s₂ (Zu k₁ k₂) rv)) (hs _ _)
theorem Ev.zu      (ho:Qx C k env U o ds)(hi:Ev C k env U i (.int j))(h0:j<0)(h1:-(ds.length:Int)<=j)(h2:-(2 ^ 63)<=j)(hd:ds[(j+ds.length).toNat]?=some d)
 (hs:∀a b,subscripted i false a b=operate [a,b] (getItem a b):=by intro _ _;rfl):Ev C k env U (.Subscript o i pos) d:=λA s Q E P hr hg hh hb q=>by
 refine Zu8 (ho A s _ _ P hr hg hh hb λb vs n s₁ k₁ g₁ r₁=>?_)
 have x₁:=Zw k₁
 refine hi A s₁ _ _ P hr (C.ext hg x₁) (hh.ext x₁) (hb.ext x₁) λv s₂ k₂ r₂=>?_
 obtain⟨t,rfl⟩:=Zf.mp r₂
 have x₂:=Zw k₂
 obtain⟨v,hv,rv⟩:=(r₁.ext x₂).get hd
 have hl:=Yu (x₂ _ _ g₁)
 have hn:vs.size=ds.length:=by simpa using r₁.length
 exact tail_any hl.typeIs slot_list_getitem.lookup (wpAny_getItem_list_neg hl h0 (by lia) h2 (by rw[hn];simpa using hv) (q v s₂ (Zu k₁ k₂) rv)) (hs _ _)
theorem Ev.item_tup      (ho:Ev C k env U o (.tup ds))(hi:Ev C k env U i (.int j))(h0:0<=j)(h1:j<2 ^ 63)(hd:ds[j.toNat]?=some d)
 (hs:∀a b,subscripted i false a b=operate [a,b] (getItem a b):=by intro _ _;rfl):Ev C k env U (.Subscript o i pos) d:=λA s Q E P hr hg hh hb q=>by
 refine Zu8 (ho A s _ _ P hr hg hh hb λv s₁ k₁ r₁=>?_)
 obtain⟨b,vs,n,rfl,_,g₁,r₁⟩:=Yt.mp r₁
 have x₁:=Zw k₁
 refine hi A s₁ _ _ P hr (C.ext hg x₁) (hh.ext x₁) (hb.ext x₁) λv s₂ k₂ r₂=>?_
 obtain⟨t,rfl⟩:=Zf.mp r₂
 have x₂:=Zw k₂
 obtain⟨v,hv,rv⟩:=(r₁.ext x₂).get hd
 have hT:IsTup s₂.heap b vs:=⟨_,x₂ _ _ g₁,rfl,n,rfl⟩
 have Xz:j.toNat<vs.size:=by
  have:=(ZxF.mp hv).1;simpa using this
 exact tail_any hT.typeIs slot_tuple_getitem.lookup (PyProof.Rows.getItem_tuple hT (by lia) h1 (seqIndex_of h0 (by lia)) (by simpa using hv) (q v s₂ (Zu k₁ k₂) rv)) (hs _ _)
theorem Ev.item_str      (ho:Ev C k env U o (.str x))(hi:Ev C k env U i (.int j))(h0:-(2 ^ 63)<=j)(h1:j<2 ^ 63)(hj:seqIndex? j x.length=some m)(hc:x.cps[m]?=some c)
 (hs:∀a b,subscripted i false a b=operate [a,b] (getItem a b):=by intro _ _;rfl):Ev C k env U (.Subscript o i pos) (.str ⟨#[c]⟩):=λA s Q E P hr hg hh hb q=>by
 refine Zu8 (ho A s _ _ P hr hg hh hb λv s₁ k₁ r₁=>?_)
 obtain⟨u,rfl⟩:=Zt.mp r₁
 have x₁:=Zw k₁
 refine hi A s₁ _ _ P hr (C.ext hg x₁) (hh.ext x₁) (hb.ext x₁) λv s₂ k₂ r₂=>?_
 obtain⟨t,rfl⟩:=Zf.mp r₂
 refine tail_any (typeIs_str _ _ _) F.slot_str_getitem.lookup (PyProof.Rows.getItem_str (c:=c) ?_ ?_ (q _ _ (Zu (Zu k₁ k₂) (ZU s₂ _)) (Zt.mpr ⟨_,rfl⟩))) (hs _ _)
 ·simp only[ZwA,decide_eq_false_iff_not];lia
 ·rw[hj];exact hc
end
abbrev YK(base:Zyp)(M:Zya->Prop):Zya->Prop:=λa=>¬M a/\base.get? a=none
def Thing(P:Zya->Prop)(h:Zyp)(v:Zyd):AV->List Zya->Prop
 |.val _,_=>False
 |.own ds,ow=>∃a,ow=[a]/\v=.ref a/\∃vs n,h.get? a=some { cls:=.type "list",data:=.seq vs n }/\Zy P h ds vs.toList
 |.tab c ds,ow=>∃a d b,ow=[a,d,b]/\v=.ref a/\∃vs,TabAt h c a d b vs/\Zy P h ds vs
def G4(env:Env)(P:Zya->Prop)(h:Zyp)(x:Str)(a:AV)(ow:List Zya):Prop:=∃v,Loc env h x v/\Thing P h v a ow
noncomputable def Xr:AV->Bool
 |.val _=>false
 |_=>true
theorem Thing.el      {R:Prop}(O:Thing P h v a ow)(o:∀ds b vs n,a=.own ds->ow=[b]->v=.ref b->h.get? b=some { cls:=.type "list",data:=.seq vs n }->Zy P h ds vs.toList->R)
 (t:∀c ds b d q vs,a=.tab c ds->ow=[b,d,q]->v=.ref b->TabAt h c b d q vs->Zy P h ds vs->R):R:=by
 cases a with
 |val d=>exact O.elim
 |own ds=>exact O.elim λa r=>r.2.2.elim λvs p=>p.elim λn p=>o ds a vs n rfl r.1 r.2.1 p.1 p.2
 |tab c ds=>exact O.elim λa r=>r.elim λd r=>r.elim λb r=>r.2.2.elim λvs p=>t c ds a d b vs rfl r.1 r.2.1 p.1 p.2
theorem Thing.pf          (e:a=.own ds)(w:ow=[b])(u:v=.ref b)(g:h.get? b=some { cls:=.type "list",data:=.seq vs n })(r:Zy P h ds vs.toList):Thing P h v a ow:=by
 cases e;exact⟨b,w,u,vs,n,g,r⟩
theorem Thing.ag          (e:a=.tab c ds)(w:ow=[b,d,q])(u:v=.ref b)(g:TabAt h c b d q vs)(r:Zy P h ds vs):Thing P h v a ow:=by
 cases e;exact⟨b,d,q,w,u,vs,g,r⟩
structure Y7 where
 env:Env
 base:Zyp
 P:Zya->Prop
 cs:List Str
abbrev Y7.out(F:Y7)(M:Zya->Prop):Zya->Prop:=λa=>F.P a/\¬M a
def Sf(F:Y7)(N M:Zya->Prop)(h:Zyp)(x:Str)(a:AV)(l:List Zya):Prop:=G4 F.env (YK F.base M) h x a l/\∀b∈l,M b/\¬N b/\b≠F.env.locals
def QI(F:Y7)(N M:Zya->Prop)(U:Zx)(h:Zyp)(ow:Str->List Zya):Prop:=∀x a,U x=some a->Xr a=true->Sf F N M h x a (ow x)
def U2(U:Zx)(ow:Str->List Zya):Prop:=∀x y a b c,U x=some a->Xr a=true->U y=some b->Xr b=true->c∈ow x->c∈ow y->x=y
structure Inv(C:Cx)(F:Y7)(N M:Zya->Prop)(U:Zx)(h:Zyp):Prop where
 Q9:C.G F.base
 live:ZD F.P F.base
 ext:ZT F.base h
 fresh:∀a,M a->F.base.get? a=none
 alive:∀a,M a->∃o,h.get? a=some o
 Un:M F.env.locals
 V7:¬N F.env.locals
 pin:∀a,N a->M a
 ns:∃m,h.Ns F.env.locals m
 cell:∀x∈F.cs,F.env.kindOf x=some .cell/\∃c v,F.env.cells.lookup x=some c/\h.IsCell c v/\M c/\¬N c
 apart:∀x y c,x∈F.cs->F.env.cells.lookup x=some c->F.env.cells.lookup y=some c->x=y
 outer:∀y c,F.env.cells.lookup y=some c->y∈F.cs∨∃o,F.base.get? c=some o
 val:∀x d,U x=some (.val d)->∃v,Loc F.env h x v/\Rep (F.out M) h d v
 own:∃ow:Str->List Zya,QI F N M U h ow/\U2 U ow
section
variable {s s' s₁:Zym}{h h':Zyp}
def Xg(s s':Zym):Prop:=∃h' tk,s'={ s with heap:=h',toks:=tk }
theorem Xg.trans(a:Xg s s')(b:Xg s' s₁):Xg s s₁:=by
 obtain⟨h,t,rfl⟩:=a
 obtain⟨h',t',rfl⟩:=b
 exact⟨h',t',rfl⟩
theorem Xg.refl:Xg s s:=⟨s.heap,s.toks,rfl⟩
theorem Xg.of_keeps(a:ZyA s s'):Xg s s':=let ⟨h,t,e,_⟩:=a;⟨h,t,e⟩
theorem Xg.keeps(a:Xg s s')(x:ZT s.heap s'.heap):ZyA s s':=a.elim λh q=>q.elim λt e=>⟨h,t,e,λb o r=>(congrArg (λz=>z.heap.get? b) e).symm.trans (x b o r)⟩
theorem Yd(x:ZT h h')  (e:h'.get? b=none):h.get? b=none:=by
 cases e':h.get? b with
 |none=>rfl
 |some o=>cases e.symm.trans (x b o e')
end
theorem lP   (q:x=a∨x=b∨x=c):x∈[a,b,c]:=q.elim (λe=>e ▸ .head _) λq=>q.elim (λe=>e ▸ .tail _ (.head _)) λe=>e ▸ .tail _ (.tail _ (.head _))
theorem Hn   (q:x∈[a,b,c]):x=a∨x=b∨x=c:=(ZyT.mp q).imp_right λq=>(ZyT.mp q).imp_right Zx0.mp
structure Z5(N M:Zya->Prop)(s:Zym)(M':Zya->Prop)(s':Zym):Prop where
 same:∃h' tk,s'={ s with heap:=h',toks:=tk }
 kept:∀a o,(¬M a∨N a)->s.heap.get? a=some o->s'.heap.get? a=some o
 new:∀a,M' a->M a∨s.heap.get? a=none
section
variable {C:Cx}{k:Nat}{env:Env}{base:Zyp}{F:Y7}{N M M':Zya->Prop}{U:Zx}{h h':Zyp}{s s' s₁ s₂:Zym}
theorem Z5.refl:Z5 N M s M s:=⟨⟨_,_,rfl⟩,λ_ _ _ e=>e,λ_ m=>.inl m⟩
theorem Z5.of_keeps(x:ZyA s s'):Z5 N M s M s':=⟨let ⟨h,t,e,_⟩:=x;⟨h,t,e⟩,λa o _ e=>Zw x a o e,λ_ m=>.inl m⟩
theorem Z5.trans  (x:Z5 N M s M₁ s₁)(y:Z5 N M₁ s₁ M₂ s₂):Z5 N M s M₂ s₂ where
 same:=by
  obtain⟨h1,t1,e1⟩:=x.same
  obtain⟨h2,t2,e2⟩:=y.same
  exact⟨h2,t2,by rw[e2,e1]⟩
 kept:=λa o n e=>by
  refine y.kept a o ?_ (x.kept a o n e)
  rcases n with n |n
  ·refine .inl λm=>?_
   rcases x.new a m with m |m
   ·exact n m
   ·rw[m] at e;cases e
  ·exact .inr n
 new:=λa m=>by
  rcases y.new a m with m |m
  ·exact x.new a m
  ·cases e:s.heap.get? a with
   |none=>exact .inr rfl
   | some o=>
     refine .inl (ZyO λn=>?_)
     rw[x.kept a o (.inl n) e] at m;cases m
theorem Thing.mono     (O:Thing P h v a ow)(hw:∀a o,a∈ow->h.get? a=some o->h'.get? a=some o)
 (hP:∀a o,h.get? a=some o->P a->P' a) (hk:∀a o,P a->h.get? a=some o->h'.get? a=some o):Thing P' h' v a ow:=
 O.el (λds b vs n e w u g r=>Thing.pf e w u (hw _ _ (w ▸ .head _) g) (r.mono hP hk))
  λc ds b d q vs e w u T r=>Thing.ag e w u (T.at λa o m e=>hw a o (w ▸ lP m) e) (r.mono hP hk)
theorem G4.mono     (O:G4 env P h x a ow)(hl:∀v,Loc env h x v->Loc env h' x v)(hw:∀a o,a∈ow->h.get? a=some o->h'.get? a=some o)
 (hP:∀a o,h.get? a=some o->P a->P' a) (hk:∀a o,P a->h.get? a=some o->h'.get? a=some o):G4 env P' h' x a ow:=
 let ⟨v,l,T⟩:=O;⟨v,hl v l,T.mono hw hP hk⟩
theorem G4.PK     (O:G4 env P h x a ow):U3 P env h x a:=
 O.elim λv t=>t.2.el (λds b vs n e w u g r=>by cases e;exact⟨b,vs,n,u ▸ t.1,g,r⟩) λc ds b d q vs e w u T r=>by cases e;exact⟨b,d,q,vs,u ▸ t.1,T,r⟩
theorem Thing.lives     (O:Thing P h v a ow):∀b∈ow,∃o,h.get? b=some o:=λz m=>
 O.el (λds b vs n e w u g r=>⟨_,Zx0.mp (w ▸ m) ▸ g⟩) λc ds b d q vs e w u T r=>(Hn (w ▸ m:z∈[b,d,q])).elim (λk=>k ▸ T.lives.1) λk=>k.elim (λk=>k ▸ T.lives.2.1) λk=>k ▸ T.lives.2.2
theorem C0      (x:h.Ns a m)(e:h.get? a=some { cls:=cls,data:=.seq vs n }):False:=by
 obtain⟨o,es,ep,ho,hd,_⟩:=x
 rw[e] at ho;cases ho;cases hd
theorem JU    (x:h.Ns a m)(e:h.IsCell a v):False:=by
 obtain⟨o,es,ep,ho,hd,_⟩:=x
 obtain⟨o',Ip,DQ⟩:=e
 rw[ho] at Ip;cases Ip;rw[hd] at DQ;cases DQ
theorem Vg      (x:h.IsCell a v)(e:h.get? a=some { cls:=cls,data:=.seq vs n }):False:=by
 obtain⟨o',Ip,DQ⟩:=x
 rw[e] at Ip;cases Ip;cases DQ
theorem QI.keeps  (f:QI F N M U h ow)(hk:ZT h h'):QI F N M U h' ow:=λy b e i=>⟨(f y b e i).1.mono (λv l=>l.ext hk) (λa o _ e=>hk a o e) (λ_ _ _ p=>p) λa o _ e=>hk a o e,(f y b e i).2⟩
theorem Inv.keeps(I:Inv C F N M U h)(hk:ZT h h'):Inv C F N M U h' where
 Q9:=I.Q9
 live:=I.live
 ext:=λa o e=>hk _ _ (I.ext a o e)
 fresh:=I.fresh
 alive:=λa m=>(I.alive a m).imp λo e=>hk _ _ e
 Un:=I.Un
 V7:=I.V7
 pin:=I.pin
 ns:=I.ns.imp λm e=>e.keeps hk
 cell:=λx hx=>(I.cell x hx).imp_right λt=>t.imp λc t=>t.imp λv t=>⟨t.1,t.2.1.keeps hk,t.2.2⟩
 apart:=I.apart
 outer:=I.outer
 val:=λx d e=>(I.val x d e).imp λv t=>⟨t.1.ext hk,t.2.ext hk⟩
 own:=I.own.imp λow t=>⟨t.1.keeps hk,t.2⟩
theorem Inv.G(I:Inv C F N M U h):C.G h:=C.ext I.Q9 I.ext
theorem Y7.M6(F:Y7)(live:ZD F.P F.base)  (p:F.base.get? a=none):F.P a:=ZyO λn=>by
 obtain⟨o,e⟩:=live a n
 rw[p] at e;cases e
theorem Y7.Gx(F:Y7)(live:ZD F.P F.base)  (p:YK F.base M a):F.P a:=F.M6 live p.2
theorem Inv.has(I:Inv C F N M U h):X7 (F.out M) F.env U h:=λx a e=>by
 obtain⟨ow,f,_⟩:=I.own
 cases a with
 |val d=>exact I.val x d e
 |own ds=>exact ((f x _ e rfl).1.mono (λ_ l=>l) (λ_ _ _ e=>e) (λ_ _ _ p=>⟨F.Gx I.live p,p.1⟩) λ_ _ _ e=>e).PK
 |tab c ds=>exact ((f x _ e rfl).1.mono (λ_ l=>l) (λ_ _ _ e=>e) (λ_ _ _ p=>⟨F.Gx I.live p,p.1⟩) λ_ _ _ e=>e).PK
theorem Inv.YB(I:Inv C F N M U h):ZD (F.out M) h:=λa n=>by
 by_cases p:F.P a
 ·exact I.alive a (ZyO λm=>n ⟨p,m⟩)
 ·obtain⟨o,e⟩:=I.live a p;exact⟨o,I.ext a o e⟩
noncomputable def Yv:PV->Bool
 |.none=>true |.bool _=>true |.int _=>true |.str _=>true |_=>false
def AV.flat:AV->Option AV
 |.val (.lst ds)=>if ds.all Yv then some (.own ds) else none
 |.val d=>if Yv d then some (.val d) else none
 |.own ds=>some (.own ds)
 |.tab c ds=>some (.tab c ds)
noncomputable def Zx.flat(U:Zx):Zx:=λx=>(U x).bind AV.flat
theorem CD  (h:AV.val a=.val b):a=b:=by cases h;rfl
theorem uT  (h:(a&&b)=true):a=true/\b=true:=Zxp.mp h
theorem KZ    (hd:Yv d=true)(r:Rep P h d v):Rep P' h d v:=by
 cases d<;>first |exact r |exact absurd hd ZyG
theorem JV  :∀{vs:List Zyd},ds.all Yv=true->Zy P h ds vs->Zy P' h ds vs:=by
 induction ds with
 |nil=>exact λ_ r=>r
 |cons d ds ih=>exact λhd r=>ZyK (λv=>ZyK λvs t=>have a:=uT hd;⟨t.1,KZ a.1 t.2.1,ih a.2 t.2.2⟩) r
theorem AV.uo  {R:Prop}(e:AV.flat b=some a)(l:∀ds,b=.val (.lst ds)->ds.all Yv=true->a=.own ds->R)(v:∀d,b=.val d->Yv d=true->a=.val d->R)(o:Xr b=true->a=b->R):R:=by
 have one:∀{d:PV},(if Yv d then some (AV.val d) else none)=some a->Yv d=true/\a=.val d:=λ{d} e=>(Zv7 (Yv d)).elim (λh=>⟨h,(Zyb ((if_pos h).symm.trans e)).symm⟩) λh=>nomatch (if_neg (h ▸ ZyG)).symm.trans e
 cases b with
 |own ds=>exact o rfl (Zyb e).symm
 |tab c ds=>exact o rfl (Zyb e).symm
 | val d=>
   cases d with
   |lst ds=>exact (Zv7 (ds.all Yv)).elim (λh=>l ds rfl h (Zyb ((if_pos h).symm.trans e)).symm) λh=>nomatch (if_neg (h ▸ ZyG)).symm.trans e
   | _=>
     refine v _ rfl ?_ ?_
     exact And.left (one e)
     exact And.right (one e)
theorem Inv.VU(I:Inv C F N M U h):X7 (YK F.base M) F.env U.flat h:=λx a e=>
 (bS e).elim λb t=>I.own.elim λow fg=>AV.uo t.2
  (λds k hd q=>(I.val x _ (k ▸ t.1)).elim λv r=>(ZP.mp r.2).elim λb z=>z.elim λvs z=>z.elim λn z=>q ▸ ⟨b,vs,n,z.1 ▸ r.1,z.2.2.1,JV hd z.2.2.2⟩)
  (λd k hd q=>(I.val x _ (k ▸ t.1)).elim λv r=>q ▸ ⟨v,r.1,KZ hd r.2⟩) λi q=>q ▸ (fg.1 x _ t.1 i).1.PK
theorem Inv.W7(I:Inv C F N M U h):ZD (YK F.base M) h:=λa n=>by
 by_cases m:M a
 ·exact I.alive a m
 ·cases e:F.base.get? a with
  |none=>exact absurd ⟨m,e⟩ n
  |some o=>exact⟨o,I.ext _ _ e⟩
noncomputable def Zx.set(U:Zx)(x:Str)(a:AV):Zx:=λy=>if y=x then some a else U y
noncomputable def Zx.del(U:Zx)(x:Str):Zx:=λy=>if y=x then none else U y
def Yc(env:Env)(cs:List Str)(x:Str):Prop:=env.kindOf x=some .local∨x∈cs
theorem Inv.move   (D:Zya->Prop)(I:Inv C F N M U h)
 (hD:∀a,D a->M a/\¬N a) (hk:∀a o,¬D a->h.get? a=some o->h'.get? a=some o)
 (hM:∀a,M' a->M a∨(h.get? a=none/\∃o,h'.get? a=some o)) (qO:∀a,M a->M' a)
 (Zo:∀a,D a->∃o,h'.get? a=some o)
 (Rr:∃m,h'.Ns F.env.locals m) (K2:∀x∈F.cs,∀c v,F.env.cells.lookup x=some c->h.IsCell c v->∃v',h'.IsCell c v')
 (tc:∀x d,σ' x=some (.val d)->(∃v,Loc F.env h' x v/\Rep (F.out M') h' d v)∨(U x=some (.val d)/\∀v,Loc F.env h x v->Loc F.env h' x v))
 (tm:∃ow:Str->List Zya,QI F N M' σ' h' ow/\U2 σ' ow):
 Inv C F N M' σ' h' where
 Q9:=I.Q9
 live:=I.live
 ext:=λa o e=>hk a o (λd=>by rw[I.fresh a (hD a d).1] at e;cases e) (I.ext a o e)
 fresh:=λa m=>by
  rcases hM a m with m |⟨m,_⟩
  ·exact I.fresh a m
  ·cases e:F.base.get? a with
   |none=>rfl
   |some o=>rw[I.ext a o e] at m;cases m
 alive:=λa m=>by
  rcases hM a m with m |⟨_,m⟩
  ·by_cases d:D a
   ·exact Zo a d
   ·obtain⟨o,e⟩:=I.alive a m;exact⟨o,hk a o d e⟩
  ·exact m
 Un:=qO _ I.Un
 V7:=I.V7
 pin:=λa n=>qO a (I.pin a n)
 ns:=Rr
 cell:=λx hx=>by
  obtain⟨a,c,v,e,f,g,g'⟩:=I.cell x hx
  obtain⟨v',f'⟩:=K2 x hx c v e f
  exact⟨a,c,v',e,f',qO c g,g'⟩
 apart:=I.apart
 outer:=I.outer
 val:=λx d e=>by
  rcases tc x d e with q |⟨q,l'⟩
  ·exact q
  ·obtain⟨v,l,r⟩:=I.val x d q
   refine⟨v,l' v l,r.mono (λa o ea p=>⟨p.1,λm=>?_⟩) λa o p ea=>hk a o (λd=>p.2 (hD a d).1) ea⟩
   rcases hM a m with m |⟨m,_⟩
   ·exact p.2 m
   ·rw[m] at ea;cases ea
 own:=tm
end
section
variable {C:Cx}{k:Nat}{env:Env}{base:Zyp}{F:Y7}{N M M':Zya->Prop}{U:Zx}{h h':Zyp}{s s' s₁ s₂:Zym}
theorem Ki      {v:Option Zyd}(O:Thing P h u a ow)(x:h.IsCell q v):q∉ow:=λm=>
 O.el (λds b vs n e w u g r=>Vg x (Zx0.mp (w ▸ m) ▸ g)) λc ds b d q' vs e w u T r=>
  (Hn (w ▸ m:q∈[b,d,q'])).elim (λk=>x.elim λo t=>nomatch congrArg Obj.data (Zyb (t.1.symm.trans (k ▸ T.inst))) ▸ t.2) λk=>k.elim (λk=>JU T.ns.ns (k ▸ x)) λk=>T.list.elim λws t=>t.elim λn t=>Vg x (k ▸ t.1)
theorem Zx.UC   :(U.set x a) x=some a:=if_pos rfl
theorem Zx.Vx    (h:y≠x):(U.set x a) y=U y:=if_neg h
theorem Zx.WZ    {P:Prop}(e:(U.set x a) y=some b)(p:y=x->a=b->P)(q:y≠x->U y=some b->P):P:=
 (Zvf (y=x)).elim (λk=>p k (Zyb (((if_pos k).symm:some a=if y=x then some a else U y).trans e))) λk=>q k (((if_neg k).symm:U y=if y=x then some a else U y).trans e)
theorem Qo   {P:Prop}(e:a=.val d)(i:Xr a=true):P:=absurd (e ▸ i:Xr (.val d)=true) ZyG
theorem Loc.sameBut    (l:Loc env h y w)(hs:Zwu D h h')(nL:env.locals≠D)(nc:∀w,¬h.IsCell D w):Loc env h' y w:=
 l.imp (λt=>⟨t.1,t.2.imp λm r=>⟨r.1.sameBut hs nL,r.2⟩⟩) λt=>⟨t.1,t.2.imp λc r=>⟨r.1,r.2.sameBut hs λq=>nc _ (q ▸ r.2)⟩⟩
theorem Inv.TO  (I:Inv C F N M U h)(hN:∀b,N₂ b->N b):Inv C F N₂ M U h where
 Q9:=I.Q9
 live:=I.live
 ext:=I.ext
 fresh:=I.fresh
 alive:=I.alive
 Un:=I.Un
 V7:=λn=>I.V7 (hN _ n)
 pin:=λa n=>I.pin a (hN a n)
 ns:=I.ns
 cell:=λx hx=>(I.cell x hx).imp_right λt=>t.imp λc t=>t.imp λv t=>⟨t.1,t.2.1,t.2.2.1,λn=>t.2.2.2 (hN _ n)⟩
 apart:=I.apart
 outer:=I.outer
 val:=I.val
 own:=I.own.imp λow t=>⟨λx ds e i=>(t.1 x ds e i).imp_right λm b hb=>⟨(m b hb).1,λn=>(m b hb).2.1 (hN _ n),(m b hb).2.2⟩,t.2⟩
theorem Inv.Qp(R:Zya->Prop)(I:Inv C F N M U h)(hk:ZT h h')(new:∀b,R b->h.get? b=none)(lv:∀b,R b->∃o,h'.get? b=some o):
 Inv C F (λb=>N b∨R b) (λb=>M b∨R b) U h':=
 have nM:∀b,M b->¬R b:=λb m r=>(I.alive b m).elim λo e=>nS ((new b r).symm.trans e)
 ⟨I.Q9,I.live,λa o e=>hk _ _ (I.ext a o e),λa m=>m.elim (I.fresh a) λm=>Yd I.ext (new a m),λa m=>m.elim (λm=>(I.alive a m).imp λo e=>hk _ _ e) (lv a),.inl I.Un,λn=>n.elim I.V7 (nM _ I.Un),λa n=>n.imp_left (I.pin a),I.ns.imp λm e=>e.keeps hk,
  λx hx=>(I.cell x hx).imp_right λt=>t.imp λc t=>t.imp λv t=>⟨t.1,t.2.1.keeps hk,.inl t.2.2.1,λn=>n.elim t.2.2.2 (nM c t.2.2.1)⟩,I.apart,I.outer,
  λx d e=>(I.val x d e).imp λv t=>⟨t.1.ext hk,t.2.mono (λa o e p=>⟨p.1,λm=>m.elim p.2 λm=>nS ((new a m).symm.trans e)⟩) λa o _ e=>hk a o e⟩,
  I.own.imp λow fg=>⟨λx a e i=>⟨(fg.1 x a e i).1.mono (λv l=>l.ext hk) (λa o _ e=>hk a o e) (λa o e p=>⟨λm=>m.elim p.1 λm=>nS ((new a m).symm.trans e),p.2⟩) λa o _ e=>hk a o e,
   λb hb=>⟨.inl ((fg.1 x a e i).2 b hb).1,λn=>n.elim ((fg.1 x a e i).2 b hb).2.1 (nM b ((fg.1 x a e i).2 b hb).1),((fg.1 x a e i).2 b hb).2.2⟩⟩,fg.2⟩⟩
theorem E1    {Wu:Str->List Zya}(g:U2 U Wu)(lv:∀y b,U y=some b->Xr b=true->∀c∈Wu y,c∉ow):U2 (U.set x a) λy=>if y=x then ow else Wu y:=λy z b b' c e i e' i' hy hz=>
 have hy:c∈if y=x then ow else Wu y:=hy
 have hz:c∈if z=x then ow else Wu z:=hz
 Zx.WZ e (λk _=>Zx.WZ e' (λk' _=>k.trans k'.symm) λk' e'=>absurd ((if_pos k:(if y=x then ow else Wu y)=ow) ▸ hy) (lv z b' e' i' c ((if_neg k':(if z=x then ow else Wu z)=Wu z) ▸ hz)))
  λk e=>Zx.WZ e' (λk' _=>absurd ((if_pos k':(if z=x then ow else Wu z)=ow) ▸ hz) (lv y b e i c ((if_neg k:(if y=x then ow else Wu y)=Wu y) ▸ hy)))
   λk' e'=>g y z b b' c e i e' i' ((if_neg k:(if y=x then ow else Wu y)=Wu y) ▸ hy) ((if_neg k':(if z=x then ow else Wu z)=Wu z) ▸ hz)
theorem Inv.store   {v:Zyd}{a:AV}   (I:Inv C F N M U h)(hN:∀b,N₂ b->N b)(how:∀b∈ow,N b/\¬N₂ b)
 (hD:M D/\¬N D) (hs:Zwu D h h') (yh:Loc F.env h' x v) (aG:∀y w,y≠x->Loc F.env h y w->Loc F.env h' y w)
 (Rr:∃m,h'.Ns F.env.locals m) (K2:∀y∈F.cs,∀c w,F.env.cells.lookup y=some c->h.IsCell c w->∃w',h'.IsCell c w')
 (oA:D=F.env.locals∨∃w,h.IsCell D w) (Zo:∃o,h'.get? D=some o)
 (T:(∃d,a=.val d/\ow=[]/\Rep (F.out M) h d v)∨(Xr a=true/\Thing (YK F.base M) h v a ow)):
 Inv C F N₂ M (U.set x a) h':=
 have lH:D∉ow:=λm=>hD.2 (how D m).1
 have kept:∀b o,¬b=D->h.get? b=some o->h'.get? b=some o:=λb o n e=>(hs.2 b n).trans e
 have x6:∀b o,YK F.base M b->h.get? b=some o->h'.get? b=some o:=λb o p eb=>kept b o (λq=>p.1 (q ▸ hD.1)) eb
 (I.TO hN).move (λb=>b=D) (λb q=>q ▸ ⟨hD.1,λn=>hD.2 (hN _ n)⟩) kept (λb m=>.inl m) (λb m=>m) (λb q=>q ▸ Zo) Rr K2
  (λy d e=>Zx.WZ e (λk q=>.inl (T.elim (λt=>t.elim λd' t=>have r:Rep (F.out M) h d v:=CD (t.1.symm.trans q) ▸ t.2.2;⟨v,k ▸ yh,r.mono (λ_ _ _ p=>p) λb o p eb=>kept b o (λq=>p.2 (q ▸ hD.1)) eb⟩) λt=>Qo q t.1)) λk e=>.inr ⟨e,λw l=>aG y w k l⟩)
  (I.own.elim λWu fg=>⟨λy=>if y=x then ow else Wu y,λy b e i=>Zx.WZ e
   (λk q=>(congrArg (Sf F N₂ M h' y b) (if_pos k)).mpr (T.elim (λt=>t.elim λd t=>Qo (q.symm.trans t.1) i) λt=>⟨⟨v,k ▸ yh,q ▸ t.2.mono (λb o m eb=>kept b o (λq=>lH (q ▸ m)) eb) (λ_ _ _ p=>p) x6⟩,λb m=>⟨I.pin b (how b m).1,(how b m).2,λq=>I.V7 (q ▸ (how b m).1)⟩⟩))
   λk e=>(congrArg (Sf F N₂ M h' y b) (if_neg k)).mpr
    ⟨(fg.1 y b e i).1.mono (λw l=>aG y w k l) (λb' o m eb=>kept b' o (λq=>oA.elim (λq'=>((fg.1 y b e i).2 _ m).2.2 (q.trans q')) λt=>t.elim λw hw=>(fg.1 y b e i).1.elim λu t'=>Ki t'.2 hw (q ▸ m)) eb) (λ_ _ _ p=>p) x6,
      λb' m=>⟨((fg.1 y b e i).2 b' m).1,λn=>((fg.1 y b e i).2 b' m).2.1 (hN b' n),((fg.1 y b e i).2 b' m).2.2⟩⟩,
   E1 fg.2 λy b e i c m m'=>((fg.1 y b e i).2 c m).2.1 (how c m').1⟩)
theorem xn   (x:h.Ns a m)(y:h.Ns a m'):m=m':=by
 obtain⟨o,es,ep,ho,hd,hk,hf⟩:=x
 obtain⟨o',es',ep',Ip,DQ,Q8,qT⟩:=y
 rw[ho] at Ip;cases Ip;rw[hd] at DQ;cases DQ
 funext n;rw[<-hf,qT]
def PE(F:Y7)(s s':Zym):Prop:=∀b o,s.heap.get? b=some o->b≠F.env.locals->¬(∃y,y∈F.cs/\F.env.cells.lookup y=some b)->s'.heap.get? b=some o
section
variable {N₂:Zya->Prop}{A:Zxd}{E:Zyd->Zym->Prop}{x:Str}{v:Zyd}{a:AV}{ow:List Zya}{Q:Unit->Zym->Prop}
theorem IH    (hD:M D/\¬N D)(hs:Zwu D s.heap h'):Z5 N M s M { s with heap:=h',toks:=tk }:=
 ⟨⟨h',tk,rfl⟩,λb o n e=>(hs.2 b λq=>n.elim (λn=>n (q ▸ hD.1)) λn=>hD.2 (q ▸ n)).trans e,λb m=>.inl m⟩
theorem Ed(hx:F.env.kindOf x=some .local)(hf:F.env.scope.kind=.function)(I:Inv C F N M U s.heap)(hN:∀b,N₂ b->N b)(how:∀b∈ow,N b/\¬N₂ b)
 (T:(∃d,a=.val d/\ow=[]/\Rep (F.out M) s.heap d v)∨(Xr a=true/\Thing (YK F.base M) s.heap v a ow))
 (q:∀s',Inv C F N₂ M (U.set x a) s'.heap->Z5 N M s M s'->PE F s s'->Q () s'):wpAny C.M A (storeName F.env x v) Q E s:=
 I.ns.elim λm hm=>wpAny_storeName_local hx hm (λh' hn hs=>
  have nc:∀w c',s.heap.IsCell c' w->c'≠F.env.locals:=λw c' e q=>JU hm (q ▸ e)
  q _ (I.store hN how (D:=F.env.locals) ⟨I.Un,I.V7⟩ hs (.inl ⟨hx,_,hn,if_pos rfl⟩) (λy w ny l=>l.imp (λt=>⟨t.1,_,hn,t.2.elim λm' r=>(if_neg ny).trans ((congrFun (xn hm r.1) y).trans r.2)⟩) λt=>⟨t.1,t.2.imp λc r=>⟨r.1,r.2.sameBut hs (nc _ _ r.2)⟩⟩) ⟨_,hn⟩ (λy hy c w e f=>⟨w,f.sameBut hs (nc _ _ f)⟩) (.inl rfl) (hn.elim λo t=>t.elim λ_ t=>t.elim λ_ t=>⟨o,t.1⟩) T) (IH ⟨I.Un,I.V7⟩ hs) λb o e n _=>(hs.2 b n).trans e) (hf ▸ rfl)
theorem So(hx:x∈F.cs)(hf:F.env.scope.kind=.function)(I:Inv C F N M U s.heap)(hN:∀b,N₂ b->N b)(how:∀b∈ow,N b/\¬N₂ b)
 (T:(∃d,a=.val d/\ow=[]/\Rep (F.out M) s.heap d v)∨(Xr a=true/\Thing (YK F.base M) s.heap v a ow))
 (q:∀s',Inv C F N₂ M (U.set x a) s'.heap->Z5 N M s M s'->PE F s s'->Q () s'):wpAny C.M A (storeName F.env x v) Q E s:=
 (I.cell x hx).2.elim λc t=>t.elim λv₀ t=>I.ns.elim λm hm=>
  have nL:F.env.locals≠c:=λq=>JU hm (q ▸ t.2.1)
  wpAny_storeName_cell hf (I.cell x hx).1 t.1 t.2.1 λh' hn hs=>q _ (I.store hN how (D:=c) t.2.2 hs (.inr ⟨.inl (I.cell x hx).1,c,t.1,hn⟩)
   (λy w ny l=>l.imp (λt=>⟨t.1,t.2.imp λm r=>⟨r.1.sameBut hs nL,r.2⟩⟩) λu=>⟨u.1,u.2.imp λc' r=>⟨r.1,r.2.sameBut hs λq=>ny (I.apart x y c hx t.1 (q ▸ r.1)).symm⟩⟩)
   ⟨m,hm.sameBut hs nL⟩ (λy hy c' w e f=>(Zvf (c'=c)).elim (λq=>q ▸ ⟨_,hn⟩) λq=>⟨w,f.sameBut hs q⟩) (.inr ⟨_,t.2.1⟩) (hn.elim λo t=>⟨o,t.1⟩) T) (IH t.2.2 hs) λb o e _ n=>(hs.2 b λq=>n ⟨x,hx,q ▸ t.1⟩).trans e
theorem W4(hf:F.env.scope.kind=.function)(hx:Yc F.env F.cs x)(I:Inv C F N M U s.heap)(hN:∀b,N₂ b->N b)(how:∀b∈ow,N b/\¬N₂ b)
 (T:(∃d,a=.val d/\ow=[]/\Rep (F.out M) s.heap d v)∨(Xr a=true/\Thing (YK F.base M) s.heap v a ow))
 (q:∀s',Inv C F N₂ M (U.set x a) s'.heap->Z5 N M s M s'->PE F s s'->Q () s'):wpAny C.M A (storeName F.env x v) Q E s:=
 hx.elim (λhx=>Ed hx hf I hN how T q) λhx=>So hx hf I hN how T q
end
theorem U2.back    (g:U2 U ow)(hx:U x=some a1)(i1:Xr a1=true):U2 (U.set x a2) ow:=λy z b b' c e i e' i' hy hz=>
 have back:∀{y b},(U.set x a2) y=some b->Xr b=true->∃b₀,U y=some b₀/\Xr b₀=true:=λe i=>Zx.WZ e (λk _=>⟨_,k ▸ hx,i1⟩) λ_ e=>⟨_,e,i⟩
 (back e i).elim λb0 p0=>(back e' i').elim λb1 p1=>g y z b0 b1 c p0.1 p0.2 p1.1 p1.2 hy hz
theorem Inv.Hr   {D:Zya}{ow:Str->List Zya}  (I:Inv C F N M U h)(hx:U x=some a1)(i1:Xr a1=true)(i2:Xr a2=true)(f:QI F N M U h ow)(g:U2 U ow)(hD:D∈ow x)(hl:Loc F.env h x u)
 (hs:Zwu D h h') (Zo:∃o,h'.get? D=some o) (T:Thing (YK F.base M) h' u a2 (ow x)):Inv C F N M (U.set x a2) h':=
 have mm:=(f x _ hx i1).2
 have mD:=mm D hD
 have nL:F.env.locals≠D:=λq=>mD.2.2 q.symm
 have nc:∀w,¬h.IsCell D w:=λw c=>(f x _ hx i1).1.elim λu t=>Ki t.2 c hD
 have kept:∀b o,¬b=D->h.get? b=some o->h'.get? b=some o:=λb o n e=>(hs.2 b n).trans e
 I.move (λb=>b=D) (λb q=>q ▸ ⟨mD.1,mD.2.1⟩) kept (λb m=>.inl m) (λb m=>m) (λb q=>q ▸ Zo) (I.ns.imp λm hm=>hm.sameBut hs nL) (λy hy c w e f=>⟨w,f.sameBut hs λq=>nc _ (q ▸ f)⟩)
  (λy d e=>Zx.WZ e (λ_ q=>Qo q i2) λ_ e=>.inr ⟨e,λw l=>l.sameBut hs nL nc⟩)
  ⟨ow,λy b e i=>Zx.WZ e (λk q=>k ▸ q ▸ ⟨⟨u,hl.sameBut hs nL nc,T⟩,mm⟩) λk e=>⟨(f y b e i).1.mono (λw l=>l.sameBut hs nL nc) (λb' o mb eb=>kept b' o (λq'=>k (g y x b _ D e i hx i1 (q' ▸ mb) hD)) eb) (λ_ _ _ p=>p) λb o p eb=>kept b o (λq=>p.1 (q ▸ mD.1)) eb,(f y b e i).2⟩,g.back hx i1⟩
theorem Inv.iW       (I:Inv C F N M U h)(hx:U x=some (.own ds))(f:QI F N M U h ow)(g:U2 U ow)
 (hl:Loc F.env h x (.ref a)) (how:ow x=[a]) (hs:Zwu a h h') (hn:h'.get? a=some { cls:=.type "list",data:=.seq vs n }) (hr:Zy (YK F.base M) h Ic vs.toList):
 Inv C F N M (U.set x (.own Ic)) h':=
 have m:a∈ow x:=how ▸ .head _
 I.Hr hx rfl rfl f g m hl hs ⟨_,hn⟩ ⟨a,how,rfl,vs,n,hn,hr.mono (λ_ _ _ p=>p) λb o p eb=>(hs.2 b (λq=>p.1 (q ▸ ((f x _ hx rfl).2 a m).1))).trans eb⟩
theorem Inv.Jp      (I:Inv C F N M U s₁.heap)(ok:Z5 N M s M s₁)(hx:U x=some (.own ds))(f:QI F N M U s₁.heap ow)(g:U2 U ow)
 (hl:Loc F.env s₁.heap x (.ref a)) (how:ow x=[a]) (hs:Zwu a s₁.heap h') (hn:∃n,h'.get? a=some { cls:=.type "list",data:=.seq vs n }) (hr:Zy (YK F.base M) s₁.heap Ic vs.toList):
 Inv C F N M (U.set x (.own Ic)) h'/\Z5 N M s M { s₁ with heap:=h' }:=
 have ma:=(f x _ hx rfl).2 a (how ▸ .head _)
 ⟨hn.elim λn hn=>I.iW hx f g hl how hs hn hr,ok.trans (IH (tk:=s₁.toks) ⟨ma.1,ma.2.1⟩ hs)⟩
theorem Zy.erase  :∀{vs:List Zyd}{m:Nat},Zy P h ds vs->Zy P h (ds.eraseIdx m) (vs.eraseIdx m):=by
 induction ds with
 |nil=>exact λr=>r ▸ Zy.nil
 |cons d ds ih=>exact λ{vs m} r=>r.elim λv t=>t.elim λw t=>t.1 ▸ Nat.casesOn (motive:=λm=>Zy P h ((d::ds).eraseIdx m) ((v::w).eraseIdx m)) m t.2.2 λm=>Zy.cons t.2.1 (ih t.2.2)
theorem Inv.freeze   (I:Inv C F N M U h)(hx:U x=some (.own ds)):
 ∃M',Inv C F N M' (U.set x (.val (.lst ds))) h/\∀s:Zym,s.heap=h->Z5 N M s M' s:=
 I.own.elim λow fg=>(fg.1 x _ hx rfl).1.elim λu t=>t.2.elim λa t2=>t2.2.2.elim λvs t3=>t3.elim λn t3=>
  have hm:a∈ow x:=t2.1 ▸ .head _
  have ma:=(fg.1 x _ hx rfl).2 a hm
  ⟨λb=>M b/\b≠a,⟨I.Q9,I.live,I.ext,λb m=>I.fresh b m.1,λb m=>I.alive b m.1,⟨I.Un,λq=>ma.2.2 q.symm⟩,I.V7,λb n=>⟨I.pin b n,λq=>ma.2.1 (q ▸ n)⟩,I.ns,
   λy hy=>(I.cell y hy).imp_right λt=>t.imp λc t=>t.imp λv t=>⟨t.1,t.2.1,⟨t.2.2.1,λq=>Vg t.2.1 (q ▸ t3.1)⟩,t.2.2.2⟩,I.apart,I.outer,
   λy d e=>Zx.WZ e (λk q=>⟨u,k ▸ t.1,CD q ▸ ZP.mpr ⟨a,vs,n,t2.2.1,⟨F.M6 I.live (I.fresh a ma.1),λm=>m.2 rfl⟩,t3.1,t3.2.mono (λb o e p=>⟨F.Gx I.live p,λm=>p.1 m.1⟩) λ_ _ _ e=>e⟩⟩)
    λk e=>(I.val y d e).imp λv t=>⟨t.1,t.2.mono (λb o e p=>⟨p.1,λm=>p.2 m.1⟩) λ_ _ _ e=>e⟩,
   ow,λy b e i=>Zx.WZ e (λk q=>Qo q.symm i) λk e=>⟨(fg.1 y b e i).1.mono (λ_ l=>l) (λ_ _ _ e=>e) (λb o e p=>⟨λm=>p.1 m.1,p.2⟩) λ_ _ _ e=>e,λc hc=>⟨⟨((fg.1 y b e i).2 c hc).1,λq'=>k (fg.2 y x b _ a e i hx rfl (q' ▸ hc) hm)⟩,((fg.1 y b e i).2 c hc).2⟩⟩,
   λy z b b' c e i e' i' hy hz=>Zx.WZ e (λk q=>Qo q.symm i) λk e=>Zx.WZ e' (λk q=>Qo q.symm i') λk' e'=>fg.2 y z b b' c e i e' i' hy hz⟩,
   λs e=>⟨⟨_,_,rfl⟩,λ_ _ _ e=>e,λb m=>.inl m.1⟩⟩
end
inductive Z9 where
 |Z4 |brk |cnt
 |ret (d:PV)
def UN(base h:Zyp):Z9->Flow->Prop
 |.Z4,.next=>True
 |.brk,.brk=>True
 |.cnt,.cont=>True
 |.ret d,.ret v=>Rep (λa=>base.get? a=none) h d v
 |_,_=>False
def Ex(C:Cx)(k:Nat)(F:Y7)(U:Zx)(t:Sem Flow)(af:Z9)(σ':Zx):Prop:=
 ∀N M A s Q E,Yw k A->Inv C F N M U s.heap->(∀fl M' s',UN F.base s'.heap af fl->Inv C F N M' σ' s'.heap->Z5 N M s M' s'->Q fl s')->wpAny C.M A t Q E s
def Ww(C:Cx)(k:Nat)(env:Env)(U:Zx)(e:Zyc)(a:AV):Prop:=
 Xr a=true/\∀A s Q E P,Yw k A->C.G s.heap->X7 P env U s.heap->ZD P s.heap->
  (∀v ow s',ZyA s s'->(∀b∈ow,s.heap.get? b=none)->Thing (λb=>P b/\b∉ow) s'.heap v a ow->Q v s')->wpAny C.M A (eval e env) Q E s
section
variable {C:Cx}{k:Nat}{F:Y7}{N M:Zya->Prop}{U σ₁ σ₂:Zx}{s s' s₁:Zym}{af:Z9}
theorem UI   (x:UN base h .Z4 fl):fl=.next:=by cases fl<;>first |rfl |exact x.elim
theorem Ex.nil:Ex C k F U (execs [] F.env) .Z4 U:=λN M A s Q E hr I q=>wpAny_execs_nil (q _ M s trivial I .refl)
theorem Ex.cons{st:ZyF}  (h:Ex C k F U (exec st F.env) .Z4 σ₁)(hs:Ex C k F σ₁ (execs rest F.env) af σ₂):Ex C k F U (execs (st::rest) F.env) af σ₂:=λN M A s Q E hr I q=>
 wpAny_execs_cons (h N M A s _ E hr I λfl M' s' hf I' ok=>by
  rw[UI hf]
  exact hs N M' A s' Q E hr I' λfl jg qk qT jc Iq=>q fl jg qk qT jc (ok.trans Iq))
theorem Ex.stop{st:ZyF}  (h:Ex C k F U (exec st F.env) af σ₁)(hn:af≠.Z4):Ex C k F U (execs (st::rest) F.env) af σ₁:=λN M A s Q E hr I q=>
 wpAny_execs_cons (h N M A s _ E hr I λfl M' s' hf I' ok=>by
  cases fl with
  |next=>cases af<;>first |exact hf.elim |exact absurd rfl hn
  |_=>exact q _ M' s' hf I' ok)
theorem Inv.of_keeps(I:Inv C F N M U s.heap)(x:ZyA s s'):Inv C F N M U s'.heap:=I.keeps (Zw x)
theorem Z5.after  (x:ZyA s s₁)(y:Z5 N M s₁ M' s'):Z5 N M s M' s':=(Z5.of_keeps x).trans y
theorem Inv.sets   (I:Inv C F N₁ M₁ U h)(hN:∀a,N₁ a<->N₂ a)(hM:∀a,M₁ a<->M₂ a):Inv C F N₂ M₂ U h:=by
 rw[show N₂=N₁ from funext λa=>(propext (hN a)).symm,show M₂=M₁ from funext λa=>(propext (hM a)).symm];exact I
theorem Ex.assign     (hf:Zp F.env)(hx:Yc F.env F.cs x)(h:Ev C k F.env U e d)(hs:swapsWith e (some (.Name x p)) pos.line F.env=pure false):
 Ex C k F U (exec (.Assign [.Name x p] e pos) F.env) .Z4 (U.set x (.val d)):=λN M A s Q E hr I q=>by
 refine wpAny_Assign_Name (h A s _ _ _ hr I.G I.has I.YB λv s₁ k₁ r₁=>?_) hs
 exact W4 (ow:=[]) hf.kind hx (I.of_keeps k₁) (λ_ n=>n) (λ_ m=>nomatch m) (.inl ⟨d,rfl,rfl,r₁⟩) λs' I' ok _=>q _ _ s' trivial I' (ok.after k₁)
theorem Inv.E0        (hf:F.env.scope.kind=.function)(hx:Yc F.env F.cs x)
 (I:Inv C F N M U s.heap) (ks:ZyA s s₁) (new:∀b∈ow,s.heap.get? b=none) (i:Xr a=true) (T:Thing (λb=>YK F.base M b/\b∉ow) s₁.heap v a ow)
 (q:∀M' s',Inv C F N M' (U.set x a) s'.heap->Z5 N M s M' s'->Q () s'):wpAny C.M A (storeName F.env x v) Q E s₁:=by
 have I₁:=I.Qp (λb=>b∈ow) (Zw ks) new T.lives
 refine W4 hf hx I₁ (N₂:=N) (λb n=>.inl n) (λb m=>⟨.inr m,λn=>?_⟩) (.inr ⟨i,T.mono (λ_ _ _ e=>e) (λb o _ p=>⟨λm=>m.elim p.1.1 p.2,p.1.2⟩) λ_ _ _ e=>e⟩) λs' I' ok _=>q _ s' I' ?_
 ·obtain⟨o,e⟩:=I.alive b (I.pin b n);rw[new b m] at e;cases e
 ·refine⟨?_,λb o n e=>ok.kept b o ?_ (Zw ks b o e),λb m=>?_⟩
  ·obtain⟨h1,t1,rfl,_⟩:=ks
   obtain⟨h2,t2,e2⟩:=ok.same
   exact⟨h2,t2,by rw[e2]⟩
  ·rcases n with n |n
   ·exact .inl λm=>m.elim n λm=>by rw[new b m] at e;cases e
   ·exact .inr (.inl n)
  ·rcases m with m |m
   ·exact .inl m
   ·exact .inr (new b m)
theorem Ex.Fv     (hf:Zp F.env)(hx:Yc F.env F.cs x)(h:Ww C k F.env U.flat e a)(hs:swapsWith e (some (.Name x p)) pos.line F.env=pure false):
 Ex C k F U (exec (.Assign [.Name x p] e pos) F.env) .Z4 (U.set x a):=λN M A s Q E hr I q=>by
 refine wpAny_Assign_Name (h.2 A s _ _ (YK F.base M) hr I.G I.VU I.W7 λv ow s₁ k₁ new T=>?_) hs
 exact I.E0 hf.kind hx k₁ new h.1 T λM' s' I' ok=>q _ M' s' trivial I' ok
theorem Ex.aug      (hf:Zp F.env)(hx:Yc F.env F.cs x)(hd:U x=some (.val a))(h:Ev C k F.env U e b)(ht:ZR C k (inplaceOp op) a b d)
 (hn:(x==("__classdict__":Str))=false):Ex C k F U (exec (.AugAssign (.Name x p) op e pos) F.env) .Z4 (U.set x (.val d)):=λN M A s Q E hr I q=>by
 obtain⟨v,l,r⟩:=I.val x _ hd
 refine wpAny_AugAssign_Name (Xc hf.kind l hn (h A s _ _ _ hr I.G I.has I.YB λu s₁ k₁ r₁=>?_))
 have I₁:=I.of_keeps k₁
 refine ht A s₁ _ _ _ v u hr I₁.G (r.ext (Zw k₁)) r₁ I₁.YB λy s₂ k₂ r₂=>?_
 exact W4 (ow:=[]) hf.kind hx (I₁.of_keeps k₂) (λ_ n=>n) (λ_ m=>nomatch m) (.inl ⟨d,rfl,rfl,r₂⟩) λs' I' ok _=>q _ _ s' trivial I' ((ok.after k₂).after k₁)
theorem Ex.ite     (h:YZ C k F.env U t b)(ht:b=true->Ex C k F U (execs body F.env) af σ₁)(he:b=false->Ex C k F U (execs orelse F.env) af σ₁):
 Ex C k F U (exec (.If t body orelse pos) F.env) af σ₁:=λN M A s Q E hr I q=>by
 refine wpAny_If (h A s _ _ _ hr I.G I.has I.YB λs₁ k₁=>?_)
 cases b with
 |true=>exact ht rfl N M A s₁ Q E hr (I.of_keeps k₁) λfl M' s' hf I' ok=>q fl M' s' hf I' (ok.after k₁)
 |false=>exact he rfl N M A s₁ Q E hr (I.of_keeps k₁) λfl M' s' hf I' ok=>q fl M' s' hf I' (ok.after k₁)
theorem Ex.assert    (h:YZ C k F.env U t true):Ex C k F U (exec (.Assert t msg pos) F.env) .Z4 U:=λN M A s Q E hr I q=>
 wpAny_Assert_holds (h A s _ _ _ hr I.G I.has I.YB λs₁ k₁=>⟨rfl,q _ M s₁ trivial (I.of_keeps k₁) (.of_keeps k₁)⟩)
theorem Ex.K9    (h:Ev C k F.env U e d)(hd:Yv d=true):Ex C k F U (exec (.Return (some e) pos) F.env) (.ret d) U:=λN M A s Q E hr I q=>
 wpAny_Return_some (h A s _ _ _ hr I.G I.has I.YB λv s₁ k₁ r₁=>q _ M s₁ (KZ hd r₁) (I.of_keeps k₁) (.of_keeps k₁))
def AV.last:AV->Option AV
 |.val d=>if Yv d then some (.val d) else (AV.val d).flat
 |.own ds=>some (.val (.lst ds))
 |.tab c ds=>some (.val (.box (Z8 c) [] ds))
noncomputable def Zx.last(U:Zx):Zx:=λx=>(U x).bind AV.last
theorem WV    (h:U x=some a)(e:AV.last a=some b):U.last x=some b:=(congrArg (·.bind AV.last) h).trans e
theorem GP    (h:U x=some a)(e:AV.flat a=some b):U.flat x=some b:=(congrArg (·.bind AV.flat) h).trans e
theorem AV.vO  {R:Prop}(e:AV.last b=some a)(v:∀d,b=.val d->Yv d=true->a=.val d->R)(w:∀d,b=.val d->AV.flat b=some a->R)(o:∀ds,b=.own ds->a=.val (.lst ds)->R)(t:∀c ds,b=.tab c ds->a=.val (.box (Z8 c) [] ds)->R):R:=by
 cases b with
 |own ds=>exact o ds rfl (Zyb e).symm
 |tab c ds=>exact t c ds rfl (Zyb e).symm
 |val d=>exact (Zv7 (Yv d)).elim (λh=>v d rfl h (Zyb ((if_pos h).symm.trans e)).symm) λh=>w d rfl ((if_neg (h ▸ ZyG)).symm.trans e)
theorem U3.weak      (H:U3 P env h x a)(w:∀b,P b->P' b):U3 P' env h x a:=by
 cases a with
 |val d=>exact ZyK (λv t=>⟨t.1,t.2.mono (λb _ _=>w b) λ_ _ _ e=>e⟩) H
 |own ds=>exact ZyK (λb=>ZyK λvs=>ZyK λn t=>⟨t.1,t.2.1,t.2.2.mono (λb _ _=>w b) λ_ _ _ e=>e⟩) H
 |tab c ds=>exact ZyK (λb=>ZyK λd=>ZyK λq=>ZyK λvs t=>⟨t.1,t.2.1,t.2.2.mono (λb _ _=>w b) λ_ _ _ e=>e⟩) H
theorem wL      (pa:P a)(pd:P d)(pb:P b)(T:TabAt h c a d b vs)(r:Zy P h ds vs):Rep P h (.box (Z8 c) [] ds) (.ref a):=⟨vs,⟨a,d,b,rfl,pa,pd,pb,T⟩,r⟩
theorem Inv.ui{h:Zyp}(I:Inv C F N M U h):X7 (λa=>F.base.get? a=none) F.env U.last h:=λx a e=>
 (bS e).elim λb t=>I.own.elim λow fg=>AV.vO t.2
  (λd k hd q=>(I.val x _ (k ▸ t.1)).elim λv r=>q ▸ ⟨v,r.1,KZ hd r.2⟩)
  (λd k hf=>(I.VU x a (ZuD.mpr ⟨b,t.1,hf⟩)).weak λb p=>p.2)
  (λds k q=>have O:=fg.1 x (.own ds) (k ▸ t.1) rfl;O.1.elim λv z=>z.2.elim λa z2=>z2.2.2.elim λvs z3=>z3.elim λn z3=>q ▸ ⟨v,z.1,ZP.mpr ⟨a,vs,n,z2.2.1,I.fresh a (O.2 a (z2.1 ▸ .head _)).1,z3.1,z3.2.mono (λ_ _ _ p=>p.2) λ_ _ _ e=>e⟩⟩)
  (λc ds k q=>have O:=fg.1 x (.tab c ds) (k ▸ t.1) rfl;O.1.elim λv z=>z.2.elim λa z2=>z2.elim λd z2=>z2.elim λb z2=>z2.2.2.elim λvs z3=>q ▸ ⟨v,z.1,z2.2.1 ▸ wL (I.fresh a (O.2 a (z2.1 ▸ .head _)).1) (I.fresh d (O.2 d (z2.1 ▸ .tail _ (.head _))).1) (I.fresh b (O.2 b (z2.1 ▸ .tail _ (.tail _ (.head _)))).1) z3.1 (z3.2.mono (λ_ _ _ p=>p.2) λ_ _ _ e=>e)⟩)
theorem Inv.Pf  (I:Inv C F N M U h):ZD (λa=>F.base.get? a=none) h:=λa n=>by
 cases e:F.base.get? a with
 |none=>exact absurd e n
 |some o=>exact⟨o,I.ext a o e⟩
theorem Ex.Oo    (h:Ev C k F.env U.last e d):Ex C k F U (exec (.Return (some e) pos) F.env) (.ret d) U:=λN M A s Q E hr I q=>
 wpAny_Return_some (h A s _ _ _ hr I.G I.ui I.Pf λv s₁ k₁ r₁=>q _ M s₁ r₁ (I.of_keeps k₁) (.of_keeps k₁))
theorem JA(I:Inv C F N M U h)   (hx:U x=some (.own ds)){R:Prop}(q:∀ow a vs n,QI F N M U h ow->U2 U ow->ow x=[a]->Loc F.env h x (.ref a)->h.get? a=some { cls:=.type "list",data:=.seq vs n }->Zy (YK F.base M) h ds vs.toList->vs.size=ds.length->R):R:=
 I.own.elim λow fg=>(fg.1 x _ hx rfl).1.elim λu t=>t.2.elim λa t2=>t2.2.2.elim λvs t3=>t3.elim λn t3=>q ow a vs n fg.1 fg.2 t2.1 (t2.2.1 ▸ t.1) t3.1 t3.2 t3.2.length
theorem Ex.append   {e:Zyc}   (hf:Zp F.env)(hx:U x=some (.own ds))(h:Ev C k F.env U.flat e d)(Yh:ds.length<=Zyk)
 (hn:(x==("__classdict__":Str))=false) (hd:(x==("__debug__":Str))=false) (hi:interactive F.env=false)
 (hs:swapsWith (.Call (.Attribute (.Name x p) "append" apos) [e] [] Yj) none pos.line F.env=pure false)
 (YJ:attributeBase (.Name x p) "append" F.env (eval (.Name x p) F.env)=eval (.Name x p) F.env) (ZC:(apos.endLine==Yj.line)=true)
 (he:Zxn [e] F.env=[(false,eval e F.env)]):
 Ex C k F U (exec (.Expr (.Call (.Attribute (.Name x p) "append" apos) [e] [] Yj) pos) F.env) .Z4 (U.set x (.own (ds++[d]))):=λN M A s Q E hr I q=>by
 have EA:ZW C k F.env U.flat [e] [.val d]:=⟨_,_,rfl,h,rfl,he⟩
 refine JA I hx λow a vs n f g e1 l e0 r len=>?_
 refine wpAny_Expr ?_ hi hs
 refine wpAny_Call_method YJ (EA.few (show 1<29 by decide)) ZC Zw4 slot_list_append Zv8 ?_
 refine wpAny_Name (Xc hf.kind l hn ?_) hd
 refine⟨⟨_,e0,rfl⟩,λb e=>by cases e;exact⟨_,e0,rfl⟩,?_⟩
 refine ZxK EA.plain (EA.args hr I.G I.VU I.W7 λws s₁ k₁ r₁=>?_)
 refine (XG r₁).elim λw z=>z.1 ▸ ?_
 have x₁:=Zw k₁
 refine wpAny_list_append_plain ⟨n,x₁ _ _ e0⟩ (λh' Qz Q6=>?_) (len ▸ Yh)
 have m:=(I.keeps x₁).Jp (Ic:=ds++[d]) (.of_keeps k₁) hx (f.keeps x₁) g (l.ext x₁) e1 Q6 Qz ((congrArg (Zy _ _ _) Zvi).mpr ((r.ext x₁).append (Zy.one z.2)))
 exact q _ M _ trivial m.1 m.2
end
def Zc(e:Zyc):List Str:=Wl e (λx _=>[x]) (FT e (λes _ _=>LL es (λx y=>[x,y]) []) [])
def Tu(d:PV):Option (List PV):=match d with
 |.tup l=>dc l (λ_ r=>d1 r (λ_=>some l) none) none
 |_=>none
theorem wo   (h:Tu d=some l):∃a b,d=.tup [a,b]/\l=[a,b]:=by
 cases d with
 |tup m=>exact DE h (λa r e h=>WA h (λb e2 h=>⟨a,b,by rw[e,e2],by rw[<-Zyb h,e,e2]⟩) nS) nS
 |_=>exact nS h
def partsOf(e:Zyc)(d:PV):Option (List PV):=Wl e (λ_ _=>some [d]) (FT e (λes _ _=>LL es (λ_ _=>Tu d) none) none)
theorem Co{P:Prop}    (h:partsOf e d=some l)(q1:∀x p,e=.Name x p->l=[d]->P)(q2:∀x p y p' k BF a b,e=.Tuple [.Name x p,.Name y p'] k BF->d=.tup [a,b]->l=[a,b]->P):P:=
 Xy h (λx p e1 h=>q1 x p e1 (Zyb h).symm) λh=>Fx h (λes k p e1 h=>Cc h (λx p1 y p2 e2 h=>let ⟨a,b,e3,e4⟩:=wo h;q2 x p1 y p2 k p a b (by rw[e1,e2]) e3 e4) nS) nS
def Stores(C:Cx)(A:Zxd)(env:Env)(Q:Unit->Zym->Prop)(E:Zyd->Zym->Prop):List Str->List Zyd->Zym->Prop
 |[x],[v],s=>wpAny C.M A (storeName env x v) Q E s
 |[x,y],[v,u],s=>wpAny C.M A (storeName env x v) (λ_ s₁=>wpAny C.M A (storeName env y u) Q E s₁) E s
 |[x,y,z],[v,u,t],s=>wpAny C.M A (storeName env x v) (λ_ s₁=>wpAny C.M A (storeName env y u) (λ_ s₂=>wpAny C.M A (storeName env z t) Q E s₂) E s₁) E s
 |_,_,_=>False
noncomputable def Zi:Zx->List Str->List PV->Zx
 |U,x::xs,d::ds=>Zi (U.set x (.val d)) xs ds
 |U,_,_=>U
structure VZ(C:Cx)(A:Zxd)(Zq:Zyc)(I:Zya)(fp wr:List Zya)(n:Nat)(Pt:Nat->List Zyd->Prop)(St:Nat->Zyp->Prop):Prop where
 sub:∀b∈wr,b∈fp
 frame:∀i h h',St i h->(∀b∈fp,∀o,h.get? b=some o->h'.get? b=some o)->St i h'
 lives:∀i h,St i h->∀b∈wr,∃o,h.get? b=some o
 item:∀(env:Env) i (s:Zym) (Q:Unit->Zym->Prop) (E:Zyd->Zym->Prop),i<n->St i s.heap->
  (∀vals h' tk,Pt i vals->St (i+1) h'->(∀b o,b∉wr->s.heap.get? b=some o->h'.get? b=some o)->Stores C A env Q E (Zc Zq) vals { s with heap:=h',toks:=tk })->
  wpAny C.M A (pyNext (.ref I)) (λr s₁=>match r with |none=>False |some v=>wpAny C.M A (letOwnedTupleGo Zq (.ref I) v) (λ_ s₂=>wpAny C.M A (assign Zq env v) Q E s₂) E s₁) E s
 done:∀(s:Zym) (Q:Option Zyd->Zym->Prop) (E:Zyd->Zym->Prop),St n s.heap->
  (∀h' tk,(∀b o,b∉wr->s.heap.get? b=some o->h'.get? b=some o)->Q none { s with heap:=h',toks:=tk })->wpAny C.M A (pyNext (.ref I)) Q E s
 self:∀i (s:Zym) (Q:Zyd->Zym->Prop) (E:Zyd->Zym->Prop),St i s.heap->Q (.ref I) s->wpAny C.M A (pyIter (.ref I)) Q E s
def YV(C:Cx)(k:Nat)(env:Env)(U:Zx)(strict:Bool)(Zq iter:Zyc)(ds:List PV):Prop:=
 ∀A s Q E P,Yw k A->C.G s.heap->X7 P env U s.heap->ZD P s.heap->
  (∀I fp wr Pt St s',ZyA s s'->VZ C A Zq I fp wr ds.length Pt St->St 0 s'.heap->(∀b∈fp,∃o,s'.heap.get? b=some o)->(∀b∈wr,s.heap.get? b=none)->
   (strict=true->∀b∈fp,b∈wr∨P b)->
   (∀i vals,Pt i vals->∃d ps,ds[i]?=some d/\partsOf Zq d=some ps/\Zy (λa=>P a/\a∉wr) s'.heap ps vals)->Q (.ref I) s')->
  wpAny C.M A (eval iter env) (λxv s₁=>wpAny C.M A (pyIter xv) Q E s₁) E s
section
variable {C:Cx}{k:Nat}{F:Y7}{N M:Zya->Prop}{U σ₁ σ₂:Zx}{s s' s₁:Zym}{af:Z9}{h h':Zyp}
theorem Z5.TO  (x:Z5 N M s M' s')(hN:∀b,N₂ b->N b):Z5 N₂ M s M' s':=⟨x.same,λa o n e=>x.kept a o (n.imp id (hN a)) e,x.new⟩
theorem Inv.GL(W:Zya->Prop)(I:Inv C F N M U h)(hW:∀b,W b->N b)(hk:∀b o,¬W b->h.get? b=some o->h'.get? b=some o)   (l:Loc F.env h x v):Loc F.env h' x v:=by
 rcases l with ⟨a,m,⟨o,es,ep,e,r⟩,e'⟩ |⟨a,c,hc,o,e,e'⟩
 ·exact .inl ⟨a,m,⟨o,es,ep,hk _ _ (λw=>I.V7 (hW _ w)) e,r⟩,e'⟩
 ·refine .inr ⟨a,c,hc,o,hk _ _ (λw=>?_) e,e'⟩
  rcases I.outer x c hc with hx |⟨o',e'⟩
  ·obtain⟨_,c',v',e1,_,_,g⟩:=I.cell x hx
   rw[hc] at e1;cases e1;exact g (hW _ w)
  ·rw[I.fresh c (I.pin c (hW c w))] at e';cases e'
theorem Inv.Bd(W:Zya->Prop)(I:Inv C F N M U h)(hW:∀b,W b->N b)(hk:∀b o,¬W b->h.get? b=some o->h'.get? b=some o)(lv:∀b,W b->∃o,h'.get? b=some o):Inv C F N M U h':=by
 have nL:¬W F.env.locals:=λw=>I.V7 (hW _ w)
 have Rb:∀b,¬M b->¬W b:=λb m w=>m (I.pin b (hW b w))
 refine⟨I.Q9,I.live,λa o e=>hk a o (λw=>?_) (I.ext a o e),I.fresh,λa m=>?_,I.Un,I.V7,I.pin,?_,λx hx=>?_,I.apart,I.outer,λx d e=>?_,?_⟩
 ·rw[I.fresh a (I.pin a (hW a w))] at e;cases e
 ·by_cases w:W a
  ·exact lv a w
  ·obtain⟨o,e⟩:=I.alive a m;exact⟨o,hk a o w e⟩
 ·obtain⟨m,o,es,ep,e,r⟩:=I.ns;exact⟨m,o,es,ep,hk _ _ nL e,r⟩
 ·obtain⟨a,c,v,e,⟨o,f,f'⟩,g,g'⟩:=I.cell x hx
  exact⟨a,c,v,e,⟨o,hk c o (λw=>g' (hW _ w)) f,f'⟩,g,g'⟩
 ·obtain⟨v,l,r⟩:=I.val x d e
  exact⟨v,I.GL W hW hk l,r.mono (λ_ _ _ p=>p) λa o p e=>hk a o (Rb a p.2) e⟩
 ·obtain⟨ow,f,g⟩:=I.own
  refine⟨ow,λx a e i=>?_,g⟩
  obtain⟨O,m⟩:=f x a e i
  exact⟨O.mono (λv l=>I.GL W hW hk l) (λa o ma e=>hk a o (λw=>(m a ma).2.1 (hW a w)) e) (λ_ _ _ p=>p) λa o p e=>hk a o (Rb a p.1) e,m⟩
theorem Inv.AH(W:Zya->Prop)(I:Inv C F (λb=>N b∨W b) M U h)(hN:∀b,N b->¬W b)(hk:∀b o,¬W b->h.get? b=some o->h'.get? b=some o):Inv C F N (λb=>M b/\¬W b) U h':=by
 have hW:∀b,W b->N b∨W b:=λb w=>.inr w
 have nL:¬W F.env.locals:=λw=>I.V7 (hW _ w)
 have Rb:∀b,¬M b->¬W b:=λb m w=>m (I.pin b (hW b w))
 refine⟨I.Q9,I.live,λa o e=>hk a o (λw=>?_) (I.ext a o e),λa m=>I.fresh a m.1,λa m=>?_,⟨I.Un,nL⟩,λn=>I.V7 (.inl n),λa n=>⟨I.pin a (.inl n),hN a n⟩,?_,λx hx=>?_,I.apart,I.outer,λx d e=>?_,?_⟩
 ·rw[I.fresh a (I.pin a (hW a w))] at e;cases e
 ·obtain⟨o,e⟩:=I.alive a m.1;exact⟨o,hk a o m.2 e⟩
 ·obtain⟨m,o,es,ep,e,r⟩:=I.ns;exact⟨m,o,es,ep,hk _ _ nL e,r⟩
 ·obtain⟨a,c,v,e,⟨o,f,f'⟩,g,g'⟩:=I.cell x hx
  exact⟨a,c,v,e,⟨o,hk c o (λw=>g' (hW _ w)) f,f'⟩,⟨g,λw=>g' (hW _ w)⟩,λn=>g' (.inl n)⟩
 ·obtain⟨v,l,r⟩:=I.val x d e
  exact⟨v,I.GL W hW hk l,r.mono (λ_ _ _ p=>⟨p.1,λm=>p.2 m.1⟩) λa o p e=>hk a o (Rb a p.2) e⟩
 ·obtain⟨ow,f,g⟩:=I.own
  refine⟨ow,λx a e i=>?_,g⟩
  obtain⟨O,m⟩:=f x a e i
  exact⟨O.mono (λv l=>I.GL W hW hk l) (λa o ma e=>hk a o (λw=>(m a ma).2.1 (hW a w)) e) (λ_ _ _ p=>⟨λm=>p.1 m.1,p.2⟩) λa o p e=>hk a o (Rb a p.1) e,
   λb hb=>⟨⟨(m b hb).1,λw=>(m b hb).2.1 (hW b w)⟩,λn=>(m b hb).2.1 (.inl n),(m b hb).2.2⟩⟩
theorem Jl(hf:F.env.scope.kind=.function)         (hx:Yc F.env F.cs x)(I:Inv C F N M U s.heap)(r:Rep (F.out M) s.heap d v)
 (q:∀s',Inv C F N M (U.set x (.val d)) s'.heap->Z5 N M s M s'->Q () s'):wpAny C.M A (storeName F.env x v) Q E s:=
 W4 (ow:=[]) hf hx I (λ_ n=>n) (λ_ m=>nomatch m) (.inl ⟨d,rfl,rfl,r⟩) λs₁ I₁ ok _=>q s₁ I₁ ok
section
variable {A:Zxd}{E:Zyd->Zym->Prop}{Q:Unit->Zym->Prop}{ds:List PV}{d e g:PV}{v u t:Zyd}{vals:List Zyd}{x y z:Str}{xs:List Str}
theorem Qa(hf:F.env.scope.kind=.function)(hx:Yc F.env F.cs x)(I:Inv C F N M U s.heap)(r:Rep (F.out M) s.heap d v)(rs:Zy (F.out M) s.heap ds vals)(q:∀s',Inv C F N M (U.set x (.val d)) s'.heap->Z5 N M s M s'->Zy (F.out M) s'.heap ds vals->Q () s'):wpAny C.M A (storeName F.env x v) Q E s:=
 Jl hf hx I r λs₁ I₁ UQ=>q s₁ I₁ UQ (rs.mono (λ_ _ _ p=>p) λa o p e=>UQ.kept a o (.inl p.2) e)
theorem stores2(hf:F.env.scope.kind=.function)(hx:Yc F.env F.cs x)(hy:Yc F.env F.cs y)(I:Inv C F N M U s.heap)(r:Rep (F.out M) s.heap d v)(rs:Zy (F.out M) s.heap [e] vals)(q:∀s',Inv C F N M ((U.set x (.val d)).set y (.val e)) s'.heap->Z5 N M s M s'->Q () s'):Stores C A F.env Q E [x,y] (v::vals) s:=
 rs.elim λu t=>t.elim λw t=>t.1 ▸ t.2.2 ▸ Qa hf hx I r (Zy.one t.2.1) λs₁ I₁ UQ rs=>Jl hf hy I₁ (Zy.head rs) λs₂ I₂ Vo=>q s₂ I₂ (UQ.trans Vo)
theorem wW(hf:F.env.scope.kind=.function)(hx:Yc F.env F.cs x)(hy:Yc F.env F.cs y)(hz:Yc F.env F.cs z)(I:Inv C F N M U s.heap)(r:Rep (F.out M) s.heap d v)(rs:Zy (F.out M) s.heap [e,g] vals)
 (q:∀s',Inv C F N M (((U.set x (.val d)).set y (.val e)).set z (.val g)) s'.heap->Z5 N M s M s'->Q () s'):Stores C A F.env Q E [x,y,z] (v::vals) s:=
 rs.elim λu t=>t.elim λw t=>t.2.2.elim λu' t'=>t'.elim λw' t'=>t.1 ▸ t'.1 ▸ t'.2.2 ▸ Qa hf hx I r (Zy.cons t.2.1 (Zy.one t'.2.1)) λs₁ I₁ UQ rs=>Qa hf hy I₁ (Zy.head rs) (Zy.tail rs) λs₂ I₂ Vo rs=>Jl hf hz I₂ (Zy.head rs) λs₃ I₃ Vd=>q s₃ I₃ ((UQ.trans Vo).trans Vd)
theorem vH  {P:Prop}  (h0:0<xs.length)(h3:xs.length<=3)(a:∀x,xs=[x]->P)(b:∀x y,xs=[x,y]->P)(c:∀x y z,xs=[x,y,z]->P):P:=by
 rcases xs with _ |⟨x,_ |⟨y,_ |⟨z,_ |⟨_,_⟩⟩⟩⟩
 ·exact absurd h0 (Zx7 0)
 ·exact a x rfl
 ·exact b x y rfl
 ·exact c x y z rfl
 ·exact absurd h3 (Zjo.mpr (Zwg 4 _))
theorem kA   (h:l.length=2):∃a b,l=[a,b]:=by
 rcases l with _ |⟨a,_ |⟨b,_ |⟨_,_⟩⟩⟩<;>cases h
 exact⟨a,b,rfl⟩
theorem Ov   (h:l.length=3):∃a b c,l=[a,b,c]:=by
 rcases l with _ |⟨a,_ |⟨b,_ |⟨c,_ |⟨_,_⟩⟩⟩⟩<;>cases h
 exact⟨a,b,c,rfl⟩
theorem Jm(hf:F.env.scope.kind=.function)(hx:∀x∈xs,Yc F.env F.cs x)(hl:xs.length=ds.length)(h0:0<xs.length)(h3:xs.length<=3)
 (I:Inv C F N M U s.heap) (r:Zy (F.out M) s.heap ds vals) (q:∀s',Inv C F N M (Zi U xs ds) s'.heap->Z5 N M s M s'->Q () s'):Stores C A F.env Q E xs vals s:=
 have tr:∀{bW:List Str}{Ic:List PV},xs=bW->ds=Ic->∀s',Inv C F N M (Zi U bW Ic) s'.heap->Z5 N M s M s'->Q () s':=λex ed s' I=>q s' (ed ▸ ex ▸ I)
 vH h0 h3 (λx ex=>(List.length_eq_one_iff.mp (hl.symm.trans (congrArg Zxe ex))).elim λd ed=>
  (show Zy (F.out M) s.heap [d] vals from ed ▸ r).elim λv t=>t.elim λw t=>ex ▸ t.1 ▸ t.2.2 ▸ Jl hf (hx x (ex ▸ .head _)) I t.2.1 (tr ex ed))
  (λx y ex=>(kA (hl.symm.trans (congrArg Zxe ex))).elim λd ed=>ed.elim λe ed=>
   (show Zy (F.out M) s.heap [d,e] vals from ed ▸ r).elim λv t=>t.elim λw t=>ex ▸ t.1 ▸ stores2 hf (hx x (ex ▸ .head _)) (hx y (ex ▸ .tail _ (.head _))) I t.2.1 t.2.2 (tr ex ed))
  λx y z ex=>(Ov (hl.symm.trans (congrArg Zxe ex))).elim λd ed=>ed.elim λe ed=>ed.elim λg ed=>
   (show Zy (F.out M) s.heap [d,e,g] vals from ed ▸ r).elim λv t=>t.elim λw t=>ex ▸ t.1 ▸ wW hf (hx x (ex ▸ .head _)) (hx y (ex ▸ .tail _ (.head _))) (hx z (ex ▸ .tail _ (.tail _ (.head _)))) I t.2.1 t.2.2 (tr ex ed)
end
def jn(R:Zx->Prop)(af:Z9)(σ' σ₁:Zx):Z9->Prop
 |.Z4=>R σ₁
 |.cnt=>R σ₁
 |.brk=>af=.Z4/\σ'=σ₁
 |.ret v=>af=.ret v/\σ'=σ₁
def U5(C:Cx)(k:Nat)(F:Y7)(Zq:Zyc)(body:List ZyF)(ds:List PV)(U:Zx)(af:Z9)(σ':Zx):Prop:=Zkc (motive:=λ_=>Zx->Prop) (λU=>af=.Z4/\σ'=U)
 (λd _ R U=>∃ps I3 σ₁,partsOf Zq d=some ps/\Ex C k F (Zi U (Zc Zq) ps) (execs body F.env) I3 σ₁/\jn R af σ' σ₁ I3) ds U
theorem Jt{Zq:Zyc}   (h:partsOf Zq d=some ps):0<(Zc Zq).length/\(Zc Zq).length<=3:=by
 exact Co h (λx p e _=>by rw[e];exact⟨Nat.zero_lt_one,Zwg 1 2⟩) (λx p y p' k BF a b e _ _=>by rw[e];exact⟨Zjg 1,Zwg 2 1⟩)
theorem Ai{Zq:Zyc}   (h:partsOf Zq d=some ps):(Zc Zq).length=ps.length:=by
 exact Co h (λx p e e2=>by rw[e,e2];rfl) (λx p y p' k BF a b e _ e2=>by rw[e,e2];rfl)
section
variable {A:Zxd}{E:Zyd->Zym->Prop}{env:Env}
theorem VZ.turn      {St:Nat->Zyp->Prop}  {X:Zym->Prop}(W:VZ C A Zq J fp wr n Pt St)(hi:i<n)(st:St i s.heap)
 (q:∀vals h' tk,Pt i vals->St (i+1) h'->(∀b o,b∉wr->s.heap.get? b=some o->h'.get? b=some o)->Stores C A env Q E (Zc Zq) vals { s with heap:=h',toks:=tk }):
 wpAny C.M A (pyNext (.ref J)) (λr s₁=>match r with |none=>X s₁ |some v=>wpAny C.M A (letOwnedTupleGo Zq (.ref J) v) (λ_ s₂=>wpAny C.M A (assign Zq env v) Q E s₂) E s₁) E s:=
 ZyB (W.item env i s Q E hi st q) (λr _ h=>by
  cases r with
  |none=>exact h.elim
  |some v=>exact h) λ_ _ x=>x
end
theorem drop_cons{ds:List PV}   (hd:ds[i]?=some d):ds.drop i=d::ds.drop (i+1):=
 let ⟨_,he⟩:=ZxF.mp hd
 he ▸ ZwN _
theorem Bv  (h:i<n):n-(i+1)<n-i:=Nat.sub_lt_sub_left h (ZvM i)
theorem land  {X:Zym->Prop}{Q:Flow->Zym->Prop}     (XY:UN B h I3 fl)(z:jn R af σ' σ₁ I3)(n:R σ₁->X s)(q:∀fl,UN B h af fl->σ'=σ₁->Q fl s):
 (match (generalizing:=false) fl with |.next |.cont=>X s |.brk=>Q .next s |.ret v=>Q (.ret v) s):=by
 cases I3<;>cases fl<;>first |exact XY.elim |exact n z |exact q .next (z.1 ▸ trivial) z.2 |exact q _ (z.1 ▸ XY) z.2
theorem U5.run        {X:Zym->Prop}{Q:Flow->Zym->Prop}(Jk:U5 C k F Zq body (d::r) U af σ')(hp:partsOf Zq d=some ps)(ZO:Yw k A)(I:Inv C F N M (Zi U (Zc Zq) ps) s.heap)
 (q1:∀σ₁ Mj s₄,Inv C F N Mj σ₁ s₄.heap->Z5 N M s Mj s₄->U5 C k F Zq body r σ₁ af σ'->X s₄) (q2:∀fl Mj s₄,UN F.base s₄.heap af fl->Inv C F N Mj σ' s₄.heap->Z5 N M s Mj s₄->Q fl s₄):
 wpAny C.M A (execs body F.env) (λf s₃=>match f with
  |.next |.cont=>X s₃
  |.brk=>Q .next s₃
  |.ret v=>Q (.ret v) s₃) E s:=
 Zxm Jk λyf t=>t.elim λI3 t=>t.elim λσ₁ t=>
  have hex:Ex C k F (Zi U (Zc Zq) ps) (execs body F.env) I3 σ₁:=Zyb (t.1.symm.trans hp) ▸ t.2.1
  hex N M A s _ _ ZO I λfl Mj s₄ XY Ij Iu=>land XY t.2.2 (λhr=>q1 _ Mj s₄ Ij Iu hr) λfl' hf e=>q2 fl' Mj s₄ hf (e ▸ Ij) Iu
structure FI(C:Cx)(F:Y7)(N M:Zya->Prop)(wr:List Zya)(St:Zyp->Prop)(s₁:Zym)(U:Zx)(Mi:Zya->Prop)(s':Zym):Prop where
 inv:Inv C F (λb=>N b∨b∈wr) Mi U s'.heap
 st:St s'.heap
 ok:Z5 N (λb=>M b∨b∈wr) s₁ Mi s'
section
variable {wr fp:List Zya}{St I4:Zyp->Prop}{Mi Mj:Zya->Prop}{ps:List PV}{vals:List Zyd}{tk:Nat}{s₄:Zym}{a:Zya}{o:Obj}{σ':Zx}
theorem FI.old(L:FI C F N M wr St s₁ U Mi s')(e:s₁.heap.get? a=some o)(m:Mi a):M a∨a∈wr:=(L.ok.new a m).elim id λm=>nS (m.symm.trans e)
theorem FI.rep(L:FI C F N M wr St s₁ U Mi s')(WE:Zy (λb=>F.out M b/\b∉wr) s₁.heap ps vals):Zy (F.out Mi) s'.heap ps vals:=
 WE.mono (λa o e p=>⟨p.1.1,λm=>(L.old e m).elim p.1.2 p.2⟩) λa o p e=>L.ok.kept a o (.inl λm=>m.elim p.1.2 p.2) e
theorem FI.step(L:FI C F N M wr St s₁ U Mi s')(fr:∀h h',I4 h->(∀b∈fp,∀o,h.get? b=some o->h'.get? b=some o)->I4 h')(Wa:∀b∈fp,(b∈wr∨¬M b)/\∃o,s₁.heap.get? b=some o)(st:I4 s'.heap)
 (Ij:Inv C F (λb=>N b∨b∈wr) Mj σ' s₄.heap) (Iu:Z5 (λb=>N b∨b∈wr) Mi s' Mj s₄):FI C F N M wr I4 s₁ σ' Mj s₄:=
 ⟨Ij,fr _ _ st λb hb o e=>Iu.kept b o ((Zvf (b∈wr)).elim (λw=>.inr (.inr w)) λnw=>.inl λm=>(Wa b hb).2.elim λo e=>(L.old e m).elim ((Wa b hb).1.resolve_left nw) nw) e,L.ok.trans (Iu.TO λb n=>.inl n)⟩
theorem FI.item(L:FI C F N M wr St s₁ U Mi s')(JF:∀b,N b->b∉wr)(hk:∀b o,b∉wr->s'.heap.get? b=some o->h.get? b=some o)(st:I4 h)(lv:∀b∈wr,∃o,h.get? b=some o):FI C F N M wr I4 s₁ U Mi { s' with heap:=h,toks:=tk }:=
 ⟨L.inv.Bd (λb=>b∈wr) (λb m=>.inr m) (λb o n e=>hk b o n e) lv,st,L.ok.trans ⟨⟨h,tk,rfl⟩,λb o n e=>hk b o (λm=>n.elim (λn=>n (L.inv.pin b (.inr m))) λn=>JF b n m) e,λb m=>.inl m⟩⟩
theorem FI.fin(L:FI C F N M wr St s₁ U Mi s')(JF:∀b,N b->b∉wr)(k₁:ZyA s s₁)(new:∀b∈wr,s.heap.get? b=none):Inv C F N (λb=>Mi b/\¬b∈wr) U s'.heap/\Z5 N M s (λb=>Mi b/\¬b∈wr) s':=
 ⟨L.inv.AH (λb=>b∈wr) JF λ_ _ _ e=>e,(Xg.of_keeps k₁).trans L.ok.same,λb o n e=>L.ok.kept b o (n.elim (λn=>.inl λm=>m.elim n λm=>nS ((new b m).symm.trans e)) .inr) (Zw k₁ b o e),
  λb m=>(L.ok.new b m.1).elim (λm'=>.inl (m'.elim id λw=>absurd w m.2)) λm'=>.inr (Yd (Zw k₁) m')⟩
theorem FI.done(L:FI C F N M wr St s₁ U Mi s')(JF:∀b,N b->b∉wr)(k₁:ZyA s s₁)(new:∀b∈wr,s.heap.get? b=none)(hk:∀b o,b∉wr->s'.heap.get? b=some o->h.get? b=some o):
 Inv C F N (λb=>Mi b/\¬b∈wr) U h/\Z5 N M s (λb=>Mi b/\¬b∈wr) { s' with heap:=h,toks:=tk }:=
 have f:=(L.fin JF k₁ new).2
 ⟨L.inv.AH (λb=>b∈wr) JF λb o n e=>hk b o n e,Xg.trans f.same ⟨h,tk,rfl⟩,λb o n e=>hk b o (λm=>nS ((new b m).symm.trans e)) (f.kept b o n e),f.new⟩
end
def FK(C:Cx)(k:Nat)(F:Y7)(N M:Zya->Prop)(wr:List Zya)(St:Nat->Zyp->Prop)(s₁:Zym)(Zq:Zyc)(body:List ZyF)(ds:List PV)(af:Z9)(σ':Zx)(n:Nat)(s':Zym):Prop:=
 ∃i σi Mi,n=ds.length-i/\i<=ds.length/\FI C F N M wr (St i) s₁ σi Mi s'/\U5 C k F Zq body (ds.drop i) σi af σ'
section
variable {wr fp:List Zya}{St:Nat->Zyp->Prop}{Zq:Zyc}{body:List ZyF}{ds:List PV}{σ':Zx}{A:Zxd}{Y:Zym->Prop}{Q:Flow->Zym->Prop}{E E':Zyd->Zym->Prop}{J:Zya}{Pt:Nat->List Zyd->Prop}{i n:Nat}{Mi:Zya->Prop}
theorem FK.el{P:Prop}(K:FK C k F N M wr St s₁ Zq body ds af σ' n s')(q:∀i σi Mi,n=ds.length-i->i<=ds.length->FI C F N M wr (St i) s₁ σi Mi s'->U5 C k F Zq body (ds.drop i) σi af σ'->P):P:=
 K.elim λi K=>K.elim λσi K=>K.elim λMi K=>q i σi Mi K.1 K.2.1 K.2.2.1 K.2.2.2
theorem FK.next(e:n=ds.length-i)(Xz:i<ds.length)(L:FI C F N M wr (St (i+1)) s₁ U Mi s')(h:U5 C k F Zq body (ds.drop (i+1)) U af σ'):∃m,m<n/\FK C k F N M wr St s₁ Zq body ds af σ' m s':=
 ⟨_,e ▸ Bv Xz,i+1,U,Mi,rfl,Xz,L,h⟩
theorem FI.turn(L:FI C F N M wr (St i) s₁ U Mi s')(W:VZ C A Zq J fp wr ds.length Pt St)(hf:F.env.scope.kind=.function)(hx:∀x∈Zc Zq,Yc F.env F.cs x)(JF:∀b,N b->b∉wr)(Wa:∀b∈fp,(b∈wr∨¬M b)/\∃o,s₁.heap.get? b=some o)(ZO:Yw k A)
 (hv:∀i vals,Pt i vals->∃d ps,ds[i]?=some d/\partsOf Zq d=some ps/\Zy (λb=>F.out M b/\b∉wr) s₁.heap ps vals) (Xz:i<ds.length) (en:n=ds.length-i) (hr:U5 C k F Zq body (ds.drop i) U af σ')
 (q:∀fl Mj s₄,UN F.base s₄.heap af fl->FI C F N M wr (St (i+1)) s₁ σ' Mj s₄->Q fl s₄):
 wpAny C.M A (pyNext (.ref J)) (λ(r:Option Zyd) (s₅:Zym)=>match r with |none=>Y s₅ |some v=>wpAny C.M A (letOwnedTupleGo Zq (.ref J) v) (λ_ s₂=>wpAny C.M A (assign Zq F.env v) (λ_ s₃=>wpAny C.M A (execs body F.env) (λf s₄=>match f with |.next |.cont=>∃m,m<n/\FK C k F N M wr St s₁ Zq body ds af σ' m s₄ |.brk=>Q .next s₄ |.ret v=>Q (.ret v) s₄) E' s₃) E s₂) E s₅) E s':=
 W.turn Xz L.st λvals h₁ tk pv Gl XX=>(hv i vals pv).elim λd q'=>q'.elim λps q'=>
  have L₁:=L.item (tk:=tk) JF XX Gl (W.lives _ _ Gl)
  Jm (s:={ s' with heap:=h₁,toks:=tk }) hf hx (Ai q'.2.1) (Jt q'.2.1).1 (Jt q'.2.1).2 L₁.inv (L₁.rep q'.2.2) λs₃ I₃ Vd=>
   have L₃:=L₁.step (W.frame (i+1)) Wa Gl I₃ Vd
   U5.run (drop_cons q'.1 ▸ hr) q'.2.1 ZO I₃ (λσ₁ Mj s₄ Ij Iu Qk=>FK.next en Xz (L₃.step (W.frame (i+1)) Wa L₃.st Ij Iu) Qk)
    λfl Mj s₄ XY Ij Iu=>q fl Mj s₄ XY (L₃.step (W.frame (i+1)) Wa L₃.st Ij Iu)
theorem U5.end{P:Z9->Zx->Prop}(h:U5 C k F Zq body [] U af σ')(q:P .Z4 U):P af σ':=(And.left h).symm ▸ (And.right h).symm ▸ q
end
theorem Ex.for      (hf:F.env.scope.kind=.function)(hx:∀x∈Zc Zq,Yc F.env F.cs x)(hi:YV C k F.env U true Zq iter ds)(hr:U5 C k F Zq body ds U af σ')
 (hs:∀x,Zxs iter F.env x=pure x):Ex C k F U (exec (.For Zq iter body [] pos) F.env) af σ':=λN M A s Q E ZO I q=>
 wpAny_For (hi A s _ _ _ ZO I.G I.has I.YB λJ fp wr Pt St s₁ k₁ W yR N5 new str hv=>
  have JF:∀b,N b->b∉wr:=λb n m=>(I.alive b (I.pin b n)).elim λo e=>nS ((new b m).symm.trans e)
  codeAny_forLoop_any (FK C k F N M wr St s₁ Zq body ds af σ') (λn s' K=>K.el λi σi Mi en PW L Jk=>
   (Zvu PW).elim (λXz=>L.turn W hf hx JF (λb hb=>⟨(str rfl b hb).imp id λp=>p.2,N5 b hb⟩) ZO hv Xz en Jk λfl Mj s₄ XY L₄=>q fl _ s₄ XY (L₄.fin JF k₁ new).1 (L₄.fin JF k₁ new).2)
    λWb=>
     have Jk:=Jk
     by
      rw[Wb,ZvL] at Jk
      have d:=λh₁ tk XX=>L.done (h:=h₁) (tk:=tk) JF k₁ new XX
      exact W.done s' _ _ (Wb ▸ L.st) λh₁ tk XX=>wpAny_execs_nil (U5.end (P:=λaf U=>(∀fl Mj s₄,UN F.base s₄.heap af fl->Inv C F N Mj U s₄.heap->Z5 N M s Mj s₄->Q fl s₄)->Q .next { s' with heap:=h₁,toks:=tk }) Jk (λq=>q .next _ _ trivial (d h₁ tk XX).1 (d h₁ tk XX).2) q))
   ds.length ⟨0,U,_,rfl,ZyS _,⟨I.Qp (λb=>b∈wr) (Zw k₁) new (W.lives 0 _ yR),yR,.refl⟩,hr⟩) hs
end
def n6(C:Cx)(k:Nat)(F:Y7)(test:Zyc)(body:List ZyF)(af:Z9)(σ':Zx)(R:Zx->Prop)(U:Zx):Prop:=
 (YZ C k F.env U test false/\af=.Z4/\σ'=U)∨(YZ C k F.env U test true/\∃I3 σ₁,Ex C k F U (execs body F.env) I3 σ₁/\jn R af σ' σ₁ I3)
def LR(C:Cx)(k:Nat)(F:Y7)(test:Zyc)(body:List ZyF)(n:Nat)(U:Zx)(af:Z9)(σ':Zx):Prop:=Nat.rec (motive:=λ_=>Zx->Prop) (λ_=>False) (λ_ R=>n6 C k F test body af σ' R) n U
section
variable {C:Cx}{k:Nat}{F:Y7}{N M:Zya->Prop}{U σ₁ σ₂:Zx}{s s' s₁:Zym}{af:Z9}{h h':Zyp}
theorem LR.el{P:Prop}     (h:LR C k F test body n U af σ')(q:∀m,m<n->n6 C k F test body af σ' (λU=>LR C k F test body m U af σ') U->P):P:=by
 cases n with
 |zero=>exact False.elim h
 |succ m=>exact q m (ZvM m) h
def WK(C:Cx)(k:Nat)(F:Y7)(N M:Zya->Prop)(test:Zyc)(body:List ZyF)(af:Z9)(σ':Zx)(s:Zym)(n:Nat)(s':Zym):Prop:=∃σi Mi,Inv C F N Mi σi s'.heap/\LR C k F test body n σi af σ'/\Z5 N M s Mi s'
theorem Ex.while{test:Zyc}     (hr:LR C k F test body n U af σ'):Ex C k F U (exec (.While test body [] pos) F.env) af σ':=λN M A s Q E ZO I q=>
 wpAny_While (codeAny_whileLoop (WK C k F N M test body af σ' s) (λn s' K=>K.elim λσi K=>K.elim λMi K=>K.2.1.el λm hm z=>z.elim
  (λz=>z.1 A s' _ _ _ ZO K.1.G K.1.has K.1.YB λs₁ k₁=>wpAny_execs_nil (q _ Mi s₁ (z.2.1 ▸ trivial) (z.2.2 ▸ K.1.of_keeps k₁) (K.2.2.trans (.of_keeps k₁))))
  λz=>z.1 A s' _ _ _ ZO K.1.G K.1.has K.1.YB λs₁ k₁=>z.2.elim λI3 z=>z.elim λσ₁ z=>z.1 N Mi A s₁ _ _ ZO (K.1.of_keeps k₁) λfl Mj s₃ XY Ij Iu=>
   land (X:=λs₃=>∃m,m<n/\WK C k F N M test body af σ' s m s₃) (Q:=Q) XY z.2 (λh=>⟨m,hm,_,Mj,Ij,h,K.2.2.trans (Iu.after k₁)⟩) λfl hf e=>q fl Mj s₃ hf (e ▸ Ij) (K.2.2.trans (Iu.after k₁)))
  n ⟨U,M,I,hr,.refl⟩)
end
noncomputable def ZY(names:List (Str × ZwR)):List Str:=names.filterMap λx=>if x.2==.cell then some x.1 else none
theorem XR:∀(names:List (Str × ZwR))(n:Nat)(acc:List (Str × Zya)),Zx4 n names acc=Zx4 n names []++acc
 |[],n,acc=>rfl
 | (x,kd)::r,n,acc=>by
   unfold Zx4
   split
   ·rw[XR r (n+1) ((x,n)::acc),XR r (n+1) [(x,n)]];simp
   ·exact XR r n acc
theorem cellsFrom_names:∀(names:List (Str × ZwR))(n:Nat)(x:Str),x∈(Zx4 n names []).map (·.1)<->x∈ZY names
 |[],n,x=>by simp [Zx4,ZY]
 | (y,kd)::r,n,x=>by
   unfold Zx4
   by_cases hk:(kd==Zvx)=true
   ·rw[if_pos hk,XR]
    have:=cellsFrom_names r (n+1) x
    simp only[Zy9,ZyN,this,ZY,Zv0,hk,if_true]
    simp [or_comm]
   ·rw[if_neg hk]
    have:=cellsFrom_names r n x
    rw[this]
    simp only[ZY,Zv0]
    rw[if_neg hk]
theorem Ud :∀{l:List (Str × α)}{x:Str},x∈l.map (·.1)->∃c,l.lookup x=some c
 | (y,c)::r,x,h=>by
   rw[Zwq]
   cases hb:x==y with
   |true=>exact⟨c,rfl⟩
   | false=>
     simp only[ZyZ,ZyT] at h
     rcases h with h |h
     ·subst h;simp at hb
     ·exact Ud h
theorem lookup_none_of_not_mem :∀{l:List (Str × α)}{x:Str},x∉l.map (·.1)->l.lookup x=none
 |[],x,_=>rfl
 | (y,c)::r,x,h=>by
   simp only[ZyZ,ZyT,not_or] at h
   rw[Zwq]
   have:(x==y)=false:=by simpa using h.1
   rw[this];exact lookup_none_of_not_mem h.2
theorem Kf :∀{l m:List (Str × α)}{x:Str},(l++m).lookup x=(l.lookup x).or (m.lookup x)
 |[],m,x=>by simp
 | (y,c)::r,m,x=>by
   simp only[ZwE,Zwq]
   cases x==y<;>simp [Kf]
structure MO(names:List (Str × ZwR))(cl cells:List (Str × Zya))(h h':Zyp)(L:Zya):Prop where
 lR:∀x∈ZY names,∃c,cells.lookup x=some c/\h'.IsCell c none/\h.get? c=none/\c≠L
 old:∀x,x∉ZY names->cells.lookup x=cl.lookup x
 apart:(∀y c,cl.lookup y=some c->∃o,h.get? c=some o)->∀x y c,x∈ZY names->cells.lookup x=some c->cells.lookup y=some c->x=y
noncomputable def CN(cls:String)(h:Zyp)(names:List (Str × ZwR)):Zyp:=pushCells (h.push { cls:=.type cls,data:=.dict #[] }) names
theorem YN(h:Zyp):h.get? h.objs.size=none:=(Zv3 (h.get? h.objs.size)).elim id λt=>t.elim λo e=>absurd (Zxf e) (Zx7 _)
theorem W6{h:Zyp}  (hb:h.objs.size<=b):h.get? b=none:=(Zv3 (h.get? b)).elim id λt=>t.elim λo e=>absurd (Zxf e) (Nat.not_lt.mpr hb)
section
variable {h:Zyp}{cls:String}{names:List (Str × ZwR)}{cl:List (Str × Zya)}{x y:Str}{c:Zya}
theorem KW:ZT h (CN cls h names):=λb o e=>pushCells_keeps _ _ b o (Zyo _ e)
theorem Bb:(CN cls h names).Ns h.objs.size (λ_=>none):=(Heap.Ns.new h (.type cls)).keeps (pushCells_keeps _ _)
theorem MT:CellsOk (CN cls h names) (h.objs.size+1) (Zx4 (h.objs.size+1) names []):=by
 have ok:=cellsFrom_ok names (h.push { cls:=.type cls,data:=.dict #[] }) (h.objs.size+1) [] ⟨λ_ _ hm=>(nomatch hm),List.Pairwise.nil⟩ (Zxc (Zw9 ..).symm)
 rwa [Zw9] at ok
theorem Vn(e:(Zx4 (h.objs.size+1) names []).lookup x=some c):h.get? c=none/\c≠h.objs.size/\(CN cls h names).IsCell c none/\x∈ZY names:=
 have t:=(MT (cls:=cls)).empty x c (mem_of_lookup e)
 ⟨W6 (ZqL t.2),Nat.ne_of_gt t.2,t.1,(cellsFrom_names names (h.objs.size+1) x).mp (Zye.mpr ⟨_,mem_of_lookup e,rfl⟩)⟩
theorem Ds(hx:x∈ZY names):∃c,(Zx4 (h.objs.size+1) names []).lookup x=some c:=Ud ((cellsFrom_names names (h.objs.size+1) x).mpr hx)
theorem MS(e1:(Zx4 (h.objs.size+1) names []).lookup x=some c)(e2:(Zx4 (h.objs.size+1) names []).lookup y=some c):x=y:=name_of_addr (MT (cls:="dict")).apart (mem_of_lookup e1) (mem_of_lookup e2)
theorem MH:(Zx4 (h.objs.size+1) names cl).lookup x=((Zx4 (h.objs.size+1) names []).lookup x).or (cl.lookup x):=by rw[XR,Kf]
theorem E4:MO names cl (Zx4 (h.objs.size+1) names cl) h (CN cls h names) h.objs.size:=
 have some_of:∀{x c},(Zx4 (h.objs.size+1) names []).lookup x=some c->(Zx4 (h.objs.size+1) names cl).lookup x=some c:=λe=>MH.trans (by rw[e];rfl)
 have none_of:∀{x},(Zx4 (h.objs.size+1) names []).lookup x=none->(Zx4 (h.objs.size+1) names cl).lookup x=cl.lookup x:=λe=>MH.trans (by rw[e];rfl)
 ⟨λx hx=>(Ds hx).elim λc e=>⟨c,some_of e,(Vn e).2.2.1,(Vn (cls:=cls) e).1,(Vn (cls:=cls) e).2.1⟩,
  λx hx=>none_of (lookup_none_of_not_mem λm=>hx ((cellsFrom_names names _ x).mp m)),
  λhold x y c hx e1 e2=>(Ds hx).elim λc0 e0=>
   have e0:(Zx4 (h.objs.size+1) names []).lookup x=some c:=e0.trans ((some_of e0).symm.trans e1)
   (Zv3 ((Zx4 (h.objs.size+1) names []).lookup y)).elim (λn=>(hold y c ((none_of n).symm.trans e2)).elim λo eo=>nS ((Vn (cls:=cls) e0).1.symm.trans eo))
    λt=>t.elim λc2 e3=>MS e0 (e3.trans ((some_of e3).symm.trans e2))⟩
end
section
variable {M:Model}{A:Zxd}{E:Zyd->Zym->Prop}{s:Zym}
theorem A6
 (hQ:∀L cells s',ZyA s s'->s.heap.get? L=none->s'.heap.Ns L (λ_=>none)->MO scope.names cl cells s.heap s'.heap L->
  Q { scope:=scope,locals:=L,globals:=env.globals,cells:=cells,qual:=env.qual,func:=none,code:=env.code,frame:=env.frame,builtins:=env.builtins } s'):
 wpAny M A (newFunctionEnv scope env.globals cl [] env.qual none .none (some env)) Q E s:=by
 simp only[newFunctionEnv,Zxu,if_true]
 refine Zyf (wpAny_alloc ?_)
 refine Zyf (wpAny_layCells _ (λname kind cells=>by cases qD:kind==Zvx<;>simp [qD]) _ _ _ _ ?_)
 rw[show ({ s with heap:=s.heap.push { cls:=.type "dict",data:=.dict #[] } }:Zym).heap.objs.size=s.heap.objs.size+1 from Zw9 ..]
 refine Zyf ?_
 rw[Zvd]
 exact Zys (Zys (hQ _ _ _ ⟨_,s.toks,rfl,KW⟩ (YN _) Bb E4))
end
def Nu(C:Cx)(A:Zxd)(E:Zyd->Zym->Prop)(R:Zqu->Zym->Prop)(target elt:Zyc)(ifs:List Zyc)(it acc:Zyd)(env:Env)(I:Nat->Zym->Prop):Prop:=
 ∀n s,I n s->wpAny C.M A (pyNext it) (λr s₁=>match r with
    |none=>R (.ok .next) s₁
    |some v=>wpAny C.M A (letOwnedTupleGo target it v) (λ_ Gm=>wpAny C.M A (assign target env v) (λ_ s₂=>
     wpAny C.M A (forIn ifs true λc r=>if r=true then do let ok <-isTrue c env (eval c env);pure (Zwr ok) else pure (Zwr r)) (λok s₃=>
      if ok=true then wpAny C.M A (eval elt env) (λx s₄=>
       wpAny C.M A (call (.builtin "list.append") [acc,x]) (λ_ s₅=>∃m,m<n/\I m s₅) E s₄) E s₃
      else ∃m,m<n/\I m s₃) E s₂) E Gm) E s₁) E s
section
variable {C:Cx}{A:Zxd}{E:Zyd->Zym->Prop}{R:Zqu->Zym->Prop}{s:Zym}
theorem BJ       (I:Nat->Zym->Prop)
 (turn:Nu C A (notedBy C.M A env λe s'=>R (.error e) s') R target elt ifs it acc env I)
 (n:Nat) (h:I n s):codeAny C.M A (.compLoop (.ListComp elt [⟨target,iter,ifs,0⟩] scope pos) 0 it acc env) R s:=by
 refine codeAny_loop rfl I (λn s hI=>?_) n h
 show wpAny _ A ((compTurn (.ListComp elt [⟨target,iter,ifs,0⟩] scope pos) 0 it acc env).onRaise (λx=>do noteFrame x env;theTreesLotGoes x)) _ _ s
 refine wpAny_noted ?_
 rw[compTurn_list]
 refine Zyf (Zx3 (Zyf (ZyB (turn n s hI) (λr s₁ h₁=>?_) λ_ _ h'=>h')))
 cases r with
 |none=>exact Zys h₁
 | some v=>
   refine Zyf (ZyB h₁ (λ_ Gm DT=>?_) λ_ _ h'=>h')
   refine Zyf (ZyB DT (λ_ s₂ h₂=>Zyf (ZyB h₂ (λok s₃ h₃=>?_) λ_ _ h'=>h')) λ_ _ h'=>h')
   cases ok with
   |false=>exact Zys ⟨rfl,h₃⟩
   | true=>
     exact Zyf (Zyf (ZyB h₃ (λx s₄ h₄=>Zyf (ZyB h₄ (λ_ s₅ h₅=>Zys (Zys ⟨rfl,h₅⟩)) λ_ _ h'=>h')) λ_ _ h'=>h'))
end
def TJ(C:Cx)(k:Nat)(env:Env)(U:Zx):List Zyc->Bool->Prop
 |[],b=>b=true
 |[c],b=>YZ C k env U c b
 |_,_=>False
def Jb(C:Cx)(k:Nat)(env:Env)(U:Zx)(Zq:Zyc)(ifs:List Zyc)(elt:Zyc)(d:PV)(r:Option PV):Prop:=
 ∃ps b,partsOf Zq d=some ps/\TJ C k env (Zi U (Zc Zq) ps) ifs b/\((b=true/\∃y,r=some y/\Ev C k env (Zi U (Zc Zq) ps) elt y)∨(b=false/\r=none))
def XE(C:Cx)(k:Nat)(env:Env)(U:Zx)(Zq:Zyc)(ifs:List Zyc)(elt:Zyc)(ds ys:List PV):Prop:=
 Zkc (motive:=λ_=>List PV->Prop) (λys=>ys=[]) (λd _ R ys=>∃r y₃,Jb C k env U Zq ifs elt d r/\ys=r.toList++y₃/\R y₃) ds ys
theorem XE.len        :∀{ys:List PV},XE C k env U Zq ifs elt ds ys->ys.length<=ds.length:=by
 induction ds with
 |nil=>exact λh=>Zxc (congrArg Zxe (show _=[] from h))
 | cons d ds ih=>
   refine λ{ys} h=>Zxm h λr h=>h.elim λy h=>?_
   rw[h.2.1,Zyn,Zy4,Zwe]
   exact Zxa (ih h.2.2) (by cases r with |none=>exact ZyS 1 |some _=>exact Zy7 1)
theorem Qn:∀{xs:List Str}{ps:List PV}{U:Zx}{y:Str},y∉xs->Zi U xs ps y=U y
 |[],ps,U,y,_=>by cases ps<;>rfl
 |x::xs,[],U,y,_=>rfl
 | x::xs,p::ps,U,y,h=>by
   simp only[ZyT,not_or] at h
   show Zi (U.set x (.val p)) xs ps y=U y
   rw[Qn h.2];unfold Zx.set;rw[if_neg h.1]
section
variable {C:Cx}{k:Nat}{F:Y7}{N M:Zya->Prop}{U σ':Zx}{s s' s₁:Zym}{h h':Zyp}{env:Env}{A:Zxd}{E:Zyd->Zym->Prop}{R:Zqu->Zym->Prop}
theorem Inv.sub(I:Inv C F N M σ' h)(hs:∀x a,U x=some a->σ' x=some a):Inv C F N M U h:=
 { I with
   val:=λx d e=>I.val x d (hs x _ e)
   own:=let ⟨ow,a,b⟩:=I.own;⟨ow,λx a' e i=>a x a' (hs x a' e) i,λx y a b' c e i e' i'=>b x y a b' c (hs x a e) i (hs y b' e') i'⟩ }
theorem TJ.run    (Rh:TJ C k F.env U ifs b)(ZO:Yw k A)(I:Inv C F N M U s.heap)(q:∀s',ZyA s s'->Q b s'):
 wpAny C.M A (forIn ifs true λc r=>if r=true then do let ok <-isTrue c F.env (eval c F.env);pure (Zwr ok) else pure (Zwr r)) Q E s:=by
 cases ifs with
 | nil=>
   have hb:b=true:=Rh
   subst hb
   exact wpAny_tests_nil (q s (Z3 _))
 | cons c cs=>
   cases cs with
   |nil=>exact wpAny_tests_one (Rh A s _ _ _ ZO I.G I.has I.YB q)
   |cons _ _=>exact Rh.elim
theorem XE.head      {P:Prop}(h:XE C k env U Zq ifs elt (d::ds) ys)(q:∀r y₃,Jb C k env U Zq ifs elt d r->ys=r.toList++y₃->XE C k env U Zq ifs elt ds y₃->P):P:=
 Zxm h λr h=>h.elim λy h=>q r y h.1 h.2.1 h.2.2
structure LI(C:Cx)(F:Y7)(N M:Zya->Prop)(D:Zya)(kp:Zya->Prop)(s:Zym)(U:Zx)(St:Zyp->Prop)(vs:Array Zyd)(y₁:List PV)(s':Zym):Prop where
 same:Xg s s'
 inv:Inv C F N M U s'.heap
 st:St s'.heap
 pl:s'.heap.PlainList D vs
 rep:Zy (F.out M) s'.heap y₁ vs.toList
 hk:∀b o,kp b->s.heap.get? b=some o->s'.heap.get? b=some o
section
variable {D:Zya}{kp:Zya->Prop}{St I4:Zyp->Prop}{vs:Array Zyd}{y₁:List PV}{fp wr:List Zya}{s₂:Zym}
theorem LI.keeps(L:LI C F N M D kp s U St vs y₁ s')(fr:∀h h',St h->(∀b∈fp,∀o,h.get? b=some o->h'.get? b=some o)->St h')(k:ZyA s' s₁):LI C F N M D kp s U St vs y₁ s₁:=
 have x:=Zw k
 ⟨L.same.trans (.of_keeps k),L.inv.of_keeps k,fr _ _ L.st λb _ o e=>x b o e,L.pl.at λo e=>x D o e,L.rep.ext x,λb o n e=>x b o (L.hk b o n e)⟩
theorem LI.sub(L:LI C F N M D kp s σ' St vs y₁ s')(hs:∀x a,U x=some a->σ' x=some a):LI C F N M D kp s U St vs y₁ s':=⟨L.same,L.inv.sub hs,L.st,L.pl,L.rep,L.hk⟩
theorem LI.stored  (L:LI C F N M D kp s U St vs y₁ s')(fr:∀h h',I4 h->(∀b∈fp,∀o,h.get? b=some o->h'.get? b=some o)->I4 h')(Ji:∀b,kp b->b∉wr/\(¬M b∨N b))(VN:∀b∈wr,N b)(Wa:∀b∈fp,b∈wr∨¬M b)(hD:N D)(V9:D∉wr)
 (st:I4 h) (hk:∀b o,b∉wr->s'.heap.get? b=some o->h.get? b=some o) (I:Inv C F N M σ' s₁.heap) (ok:Z5 N M { s' with heap:=h,toks:=tk } M s₁):LI C F N M D kp s σ' I4 vs y₁ s₁:=
 have nW:∀b,¬M b->b∉wr:=λb nm m=>nm (I.pin b (VN b m))
 ⟨L.same.trans (Xg.trans ⟨h,tk,rfl⟩ ok.same),I,fr _ _ st λb hb o e=>ok.kept b o ((Wa b hb).elim (λw=>.inr (VN b w)) .inl) e,L.pl.at λo e=>ok.kept D o (.inr hD) (hk D o V9 e),
  L.rep.mono (λ_ _ _ p=>p) λa o p e=>ok.kept a o (.inl p.2) (hk a o (nW a p.2) e),λb o n e=>ok.kept b o (Ji b n).2 (hk b o (Ji b n).1 (L.hk b o n e))⟩
theorem LI.app    (L:LI C F N M D kp s U St vs y₁ s')(fr:∀h h',St h->(∀b∈fp,∀o,h.get? b=some o->h'.get? b=some o)->St h')(Ji:∀b,kp b->b≠D)(Wa:∀b∈fp,b≠D)(hD:N D)(rx:Rep (F.out M) s'.heap y x)
 (hl:h.PlainList D (vs.push x)) (hs:∀b,b≠D->h.get? b=s'.heap.get? b):LI C F N M D kp s U St (vs.push x) (y₁++[y]) { s' with heap:=h,toks:=tk }:=
 have nD:∀b,¬M b->b≠D:=λb nm q=>nm (q ▸ L.inv.pin D hD)
 ⟨L.same.trans ⟨h,tk,rfl⟩,L.inv.Bd (λb=>b=D) (λb e=>e ▸ hD) (λb o n e=>(hs b n).trans e) (λb e=>e ▸ let ⟨_,e'⟩:=hl;⟨_,e'⟩),fr _ _ L.st λb hb o e=>(hs b (Wa b hb)).trans e,hl,
  by
   rw[Zvi]
   exact (L.rep.append (Zy.one rx)).mono (λ_ _ _ p=>p) λa o p e=>(hs a (nD a p.2)).trans e,λb o n e=>(hs b (Ji b n)).trans (L.hk b o n e)⟩
end
section
variable {D J:Zya}{kp:Zya->Prop}{Q:Unit->Zym->Prop}{X:Zym->Prop}{vs:Array Zyd}{y₁ ds:List PV}{fp wr:List Zya}{Pt:Nat->List Zyd->Prop}{St:Nat->Zyp->Prop}{Zq elt:Zyc}{ifs:List Zyc}{i:Nat}{s₀:Zym}
theorem LI.take(L:LI C F N M D kp s₀ U (St i) vs y₁ s)(W:VZ C A Zq J fp wr ds.length Pt St)(hf:F.env.scope.kind=.function)(hx:∀x∈Zc Zq,Yc F.env F.cs x)(Ji:∀b,kp b->b∉wr/\(¬M b∨N b))(kf:∀b,¬M b->kp b)(VN:∀b∈wr,N b)(Wa:∀b∈fp,b∈wr∨¬M b)(hD:N D)(V9:D∉wr)
 (hv:∀i vals,Pt i vals->∃d ps,ds[i]?=some d/\partsOf Zq d=some ps/\Zy (F.out M) s₀.heap ps vals) (hi:i<ds.length)
 (q:∀s₁ d ps,ds[i]?=some d->partsOf Zq d=some ps->LI C F N M D kp s₀ (Zi U (Zc Zq) ps) (St (i+1)) vs y₁ s₁->Q () s₁):
 wpAny C.M A (pyNext (.ref J)) (λr s₁=>match r with |none=>X s₁ |some v=>wpAny C.M A (letOwnedTupleGo Zq (.ref J) v) (λ_ s₂=>wpAny C.M A (assign Zq F.env v) Q E s₂) E s₁) E s:=
 W.turn hi L.st λvals h₁ tk pv Gl XX=>by
  obtain⟨d,ps,hd,hp,pR⟩:=hv i vals pv
  exact Jm (s:={ s with heap:=h₁,toks:=tk }) hf hx (Ai hp) (Jt hp).1 (Jt hp).2 (L.inv.Bd (λb=>b∈wr) VN (λb o n e=>XX b o n e) (W.lives _ _ Gl))
   (pR.mono (λ_ _ _ p=>p) λa o p e=>XX a o (Ji a (kf a p.2)).1 (L.hk a o (kf a p.2) e)) λs₃ I₃ Vd=>q s₃ d ps hd hp (L.stored (W.frame (i+1)) Ji VN Wa hD V9 Gl XX I₃ Vd)
theorem LI.keep    {St:Zyp->Prop}(L:LI C F N M D kp s₀ (Zi U (Zc Zq) ps) St vs y₁ s)(hp:partsOf Zq d=some ps)(ht:Jb C k F.env U Zq ifs elt d r)(fr:∀h h',St h->(∀b∈fp,∀o,h.get? b=some o->h'.get? b=some o)->St h')(ZO:Yw k A)(Ji:∀b,kp b->b≠D)(Wa:∀b∈fp,b≠D)(hD:N D)(qZ:vs.size<=Zyk)
 (q:∀X1 s',LI C F N M D kp s₀ (Zi U (Zc Zq) ps) St X1 (y₁++r.toList) s'->X s'):
 wpAny C.M A (forIn ifs true λc r=>if r=true then do let ok <-isTrue c F.env (eval c F.env);pure (Zwr ok) else pure (Zwr r)) (λok s₃=>
  if ok=true then wpAny C.M A (eval elt F.env) (λx s₄=>wpAny C.M A (call (.builtin "list.append") [.ref D,x]) (λ_ s₅=>X s₅) E s₄) E s₃ else X s₃) E s:=
 ht.elim λyf t=>t.elim λb t=>
  have e:yf=ps:=Zyb (t.1.symm.trans hp)
  have Rh:TJ C k F.env (Zi U (Zc Zq) ps) ifs b:=e ▸ t.2.1
  Rh.run ZO L.inv λs₄ k₄=>
   have L₄:=L.keeps fr k₄
   t.2.2.elim (λz=>(if_pos z.1).mpr (z.2.elim λy z=>(e ▸ z.2) A s₄ _ _ _ ZO L₄.inv.G L₄.inv.has L₄.inv.YB λx s₅ k₅ rx=>
    have L₅:=L₄.keeps fr k₅
    wpAny_list_append_plain L₅.pl (λh₆ cj cy=>q _ _ (by rw[z.1];exact L₅.app fr Ji Wa hD rx cj cy.2)) qZ))
    λz=>(if_neg (z.1 ▸ ZyG)).mpr (q _ _ (by rw[z.2];exact (Zxh y₁).symm ▸ L₄))
end
def LK(C:Cx)(k:Nat)(F:Y7)(N M:Zya->Prop)(D:Zya)(kp:Zya->Prop)(s:Zym)(U:Zx)(St:Nat->Zyp->Prop)(Zq elt:Zyc)(ifs:List Zyc)(ds zs:List PV)(n:Nat)(s':Zym):Prop:=
 ∃i vs y₁ y₂,n=ds.length-i/\i<=ds.length/\LI C F N M D kp s U (St i) vs y₁ s'/\y₁++y₂=zs/\XE C k F.env U Zq ifs elt (ds.drop i) y₂
section
variable {D:Zya}{kp:Zya->Prop}{St:Nat->Zyp->Prop}{Zq elt:Zyc}{ifs:List Zyc}{ds zs:List PV}
theorem LK.el  {P:Prop}(h:LK C k F N M D kp s U St Zq elt ifs ds zs n s')(q:∀i vs y₁ y₂,n=ds.length-i->i<=ds.length->LI C F N M D kp s U (St i) vs y₁ s'->y₁++y₂=zs->XE C k F.env U Zq ifs elt (ds.drop i) y₂->P):P:=
 h.elim λi h=>h.elim λvs h=>h.elim λy₁ h=>h.elim λy₂ h=>q i vs y₁ y₂ h.1 h.2.1 h.2.2.1 h.2.2.2.1 h.2.2.2.2
theorem LK.next    (e:n=ds.length-i)(hi:i<ds.length)(L:LI C F N M D kp s U (St (i+1)) vs y₁ s')(hy:y₁++y₂=zs)(hr:XE C k F.env U Zq ifs elt (ds.drop (i+1)) y₂):∃m,m<n/\LK C k F N M D kp s U St Zq elt ifs ds zs m s':=
 ⟨_,e ▸ Bv hi,i+1,vs,y₁,y₂,rfl,hi,L,hy,hr⟩
end
theorem size_of  {vs:Array Zyd}  (h:Zy P s.heap y₁ vs.toList)(hs:(y₁++y₂).length<=Zyk):vs.size<=Zyk:=by
 have:=h.length
 rw[Zyn,<-this,Zqo] at hs
 exact Zyi (ZyR _ _) hs
theorem Gf  {e:Zyc}{dep:Nat}{Zq elt:Zyc}  {J D:Zya}   {St:Nat->Zyp->Prop}
 (go:∀(I:Nat->Zym->Prop),Nu C A (notedBy C.M A F.env λe s'=>R (.error e) s') R Zq elt ifs (.ref J) (.ref D) F.env I->∀n s,I n s->codeAny C.M A (.compLoop e dep (.ref J) (.ref D) F.env) R s)
 (hf:F.env.scope.kind=.function) (hx:∀x∈Zc Zq,Yc F.env F.cs x) (ZO:Yw k A) (W:VZ C A Zq J fp wr ds.length Pt St) (cb:N=λb=>N₀ b∨b∈wr) (oC:∀b,N₀ b->b∉wr) (I:Inv C F N M U s.heap) (VN:∀b∈wr,N b) (Wa:∀b∈fp,b∈wr∨¬M b) (st:St 0 s.heap)
 (hD:N D) (V9:D∉wr) (CR:s.heap.PlainList D Rd) (pB:Zy (F.out M) s.heap y0 Rd.toList) (V8:∀x∈Zc Zq,U x=none)
 (hv:∀i vals,Pt i vals->∃d ps,ds[i]?=some d/\partsOf Zq d=some ps/\Zy (F.out M) s.heap ps vals)
 (hr:XE C k F.env U Zq ifs elt ds ys) (Yh:(y0++ys).length<=Zyk)
 (hR:∀s' vs,Xg s s'->s'.heap.PlainList D vs->Zy (F.out M) s'.heap (y0++ys) vs.toList->Inv C F N₀ (λb=>M b/\b∉wr) U s'.heap->(∀b o,b≠D->b∉wr->(¬M b∨N b)->s.heap.get? b=some o->s'.heap.get? b=some o)->R (.ok .next) s'):
 codeAny C.M A (.compLoop e dep (.ref J) (.ref D) F.env) R s:=
 have nW:∀b,¬M b->b∉wr:=λb nm m=>nm (I.pin b (VN b m))
 have nD:∀b,¬M b->b≠D:=λb nm q=>nm (q ▸ I.pin D hD)
 have DnW:∀b∈fp,b≠D:=λb hb q=>(Wa b hb).elim (λw=>V9 (q ▸ w)) λnm=>nD b nm q
 go (LK C k F N M D (λb=>b≠D/\b∉wr/\(¬M b∨N b)) s U St Zq elt ifs ds (y0++ys)) (λn s' K=>K.el λi vs y₁ y₂ en PW L hy Jk=>
  (Zvu PW).elim (λXz=>L.take W hf hx (λb n=>n.2) (λb n=>⟨nD b n,nW b n,.inl n⟩) VN Wa hD V9 hv Xz λs₁ d ps hd hp L₁=>
   XE.head (drop_cons hd ▸ Jk) λr y₃ ht dP Qk=>
    L₁.keep hp ht (W.frame (i+1)) ZO (λb n=>n.1) DnW hD (size_of L₁.rep (hy.symm ▸ Yh)) λX1 s₂ L₂=>
     LK.next en Xz (L₂.sub λx a e=>(Qn λm=>nS ((V8 x m).symm.trans e)).trans e) (by rw[ZyC,<-dP,hy]) Qk)
  (λWb=>by
   have e₂:y₂=[]:=by
    rw[Wb,ZvL] at Jk
    exact Jk
   rw[e₂,Zxh] at hy
   exact W.done s' _ _ (Wb ▸ L.st) λh₁ tk XX=>hR _ vs (L.same.trans ⟨h₁,tk,rfl⟩) (L.pl.at λo e=>XX D o V9 e) (hy ▸ L.rep.mono (λ_ _ _ p=>p) λa o p e=>XX a o (nW a p.2) e) (by subst cb;exact L.inv.AH (λb=>b∈wr) oC (λb o n e=>XX b o n e)) λb o n1 n2 n e=>XX b o n2 (L.hk b o ⟨n1,n2,n⟩ e)))
  ds.length _ ⟨0,Rd,y0,ys,rfl,ZyS _,⟨.refl,I,st,CR,pB,λ_ _ _ e=>e⟩,rfl,hr⟩
end
noncomputable def Kt(env:Env):List (Str × ZwR)->List (Str × Zya)->List (Str × Zya)
 |[],acc=>acc
 |(x,kd)::r,acc=>Kt env r (if kd==.free then (x,(env.cells.lookup x).getD 0)::acc else acc)
theorem Mq     :Kt env ((x,kd)::r) acc=Kt env r (if kd==.free then (x,(env.cells.lookup x).getD 0)::acc else acc):=rfl
theorem KS(env:Env)(f:Str × ZwR->List (Str × Zya)->Sem (ForInStep (List (Str × Zya))))
 (hf:∀n kd cs,f (n,kd) cs=if kd==.free then (do let c <-cellOf env n;pure (.yield ((n,c)::cs))) else pure (.yield cs)):∀(names:List (Str × ZwR)) (acc:List (Str × Zya)),(∀x∈names,x.2=.free->∃c,env.cells.lookup x.1=some c)->
 forIn names acc f=pure (Kt env names acc)
 |[],acc,_=>rfl
 | (x,kd)::r,acc,h=>by
   rw[Zwz,hf]
   rw[Mq]
   have hr:∀y∈r,y.2=.free->∃c,env.cells.lookup y.1=some c:=λy hy=>h y (ZwM _ hy)
   by_cases hk:(kd==Zw3)=true
   ·obtain⟨c,hc⟩:=h (x,kd) Zv9 (by simpa using hk)
    have Fn:env.cells.lookup x=some c:=hc
    rw[if_pos hk,if_pos hk]
    simp only[cellOf,Fn,Zvs]
    exact KS env f hf r _ hr
   ·rw[if_neg hk,if_neg hk]
    exact KS env f hf r _ hr
theorem AA   (h:∀x∈scope.names,x.2=.free->∃c,env.cells.lookup x.1=some c):closureFor scope env=pure (Kt env scope.names []):=by
 simp only[closureFor]
 rw[KS env _ (λn kd cs=>by cases hk:kd==Zw3<;>simp [hk]) scope.names [] h]
 rfl
theorem MN :∀{names:List (Str × ZwR)}{acc:List (Str × Zya)},(∀x∈names,x.2=.free->∃c,env.cells.lookup x.1=some c)->∀{y:Str}{c:Zya},(Kt env names acc).lookup y=some c->
 (env.cells.lookup y=some c/\(y,Zw3)∈names)∨acc.lookup y=some c
 |[],acc,_,y,c,e=>.inr e
 | (x,kd)::r,acc,h,y,c,e=>by
   rw[Mq] at e
   have hr:∀y∈r,y.2=.free->∃c,env.cells.lookup y.1=some c:=λy hy=>h y (ZwM _ hy)
   rcases MN hr e with e |e
   ·exact .inl ⟨e.1,ZwM _ e.2⟩
   ·by_cases hk:(kd==Zw3)=true
    ·rw[if_pos hk] at e
     obtain⟨c',hc⟩:=h (x,kd) Zv9 (by simpa using hk)
     have Fn:env.cells.lookup x=some c':=hc
     rw[Zwq] at e
     cases hb:y==x with
     | true=>
       rw[hb] at e
       rw[Fn] at e
       have ot:kd=.free:=by simpa using hk
       rw[beq_iff_eq.mp hb,Fn,ot]
       exact .inl ⟨by simpa using e,Zv9⟩
     |false=>rw[hb] at e;exact .inr e
    ·rw[if_neg hk] at e;exact .inr e
theorem ML :∀{names:List (Str × ZwR)}{acc:List (Str × Zya)}{y:Str}{c:Zya},(∀x∈names,x.2=.free->∃c,env.cells.lookup x.1=some c)->env.cells.lookup y=some c->(y,Zw3)∈names∨acc.lookup y=some c->
 (Kt env names acc).lookup y=some c
 |[],acc,y,c,_,_,m=>by rcases m with m |m;cases m;exact m
 | (x,kd)::r,acc,y,c,h,e,m=>by
   have hr:∀y∈r,y.2=.free->∃c,env.cells.lookup y.1=some c:=λy hy=>h y (ZwM _ hy)
   rw[Mq]
   refine ML hr e ?_
   rcases m with m |m
   ·rcases ZyT.mp m with m |m
    ·cases m
     refine .inr ?_
     simp [e]
    ·exact .inl m
   ·refine .inr ?_
    by_cases hk:(kd==Zw3)=true
    ·rw[if_pos hk,Zwq]
     cases hb:y==x with
     |true=>rw[<-beq_iff_eq.mp hb,e];rfl
     |false=>exact m
    ·rw[if_neg hk];exact m
theorem UX   :(relabel scope env).names.lookup y=(scope.names.lookup y).map λkd=>if (kd==.free&&env.scope.kind==.function&&env.kindOf y==some .cell) then .cell else kd:=by
 show (scope.names.map _).lookup y=_
 generalize scope.names=names
 induction names with
 |nil=>rfl
 | cons x r ih=>
   obtain⟨n,kd⟩:=x
   show List.lookup y ((if (kd==Zw3&&env.scope.kind==.function&&env.kindOf n==some .cell)=true then (n,Zvx) else (n,kd))::_)=_
   cases hb:y==n with
   | true=>
     have:=beq_iff_eq.mp hb
     subst this
     by_cases hc:(kd==Zw3&&env.scope.kind==.function&&env.kindOf y==some .cell)=true
     ·rw[if_pos hc];simp only[Zwq,hb,Zv4];rw[if_pos hc]
     ·rw[if_neg hc];simp only[Zwq,hb,Zv4];rw[if_neg hc]
   | false=>
     by_cases hc:(kd==Zw3&&env.scope.kind==.function&&env.kindOf n==some .cell)=true
     ·rw[if_pos hc];simp only[Zwq,hb];exact ih
     ·rw[if_neg hc];simp only[Zwq,hb];exact ih
structure WM(scope:Zy6)(Zq:Zyc):Prop where
 kind:scope.kind=.function
 loc:∀x∈scope.names,x.2=.local->scope.names.lookup x.1=some .local
 Zq:∀x∈Zc Zq,scope.names.lookup x=some .local∨(x,Zvx)∈scope.names
 free:∀x∈scope.names,x.2=.free->scope.names.lookup x.1=some .free
 cell:∀x∈scope.names,x.2=.cell->scope.names.lookup x.1=some .cell
theorem V0  :x∈ZY names<->(x,Zvx)∈names:=by
 unfold ZY
 rw[Zvq]
 constructor
 ·rintro⟨⟨y,kd⟩,hm,he⟩
  by_cases hk:(kd==Zvx)=true
  ·simp only[hk,if_true] at he;cases he
   have:kd=.cell:=by simpa using hk
   rw[<-this];exact hm
  ·simp only[hk] at he;cases he
 ·intro hm;exact⟨_,hm,by simp⟩
section
variable {C:Cx}{k:Nat}{F:Y7}{N M:Zya->Prop}{U σ₁ σ₂:Zx}{s s' s₁:Zym}{af:Z9}{h h':Zyp}{env:Env}
structure InComp(scope:Zy6)(env YT:Env):Prop where
 scope:YT.scope=relabel scope env
 globals:YT.globals=env.globals
 builtins:YT.builtins=env.builtins
theorem InComp.Z6{scope:Zy6}  (x:InComp scope env YT)(hk:scope.kind=.function)(hf:Zp env):Zp YT:=⟨by rw[x.scope];exact hk,by rw[x.globals];exact hf.globals,by rw[x.builtins];exact hf.builtins⟩
theorem Loc.cellOf   (l:Loc env h y v)(hk:env.kindOf y=some .cell∨env.kindOf y=some .free):∃c,env.cells.lookup y=some c/\h.IsCell c (some v):=
 l.elim (λa=>hk.elim (λhk=>Zqc (Zyb (hk.symm.trans a.1))) λhk=>Zqc (Zyb (hk.symm.trans a.1))) λb=>b.2
def Uw(scope:Zy6)(env:Env)(h:Zyp):Prop:=∀x∈scope.names,x.2=.free->∃v,Loc env h x.1 v/\(env.kindOf x.1=some .cell∨env.kindOf x.1=some .free)
def Ja(scope:Zy6)(env:Env)(h:Zyp)(Pc:Zya->Prop)(σc:Zx):Prop:=∀y a,σc y=some a->∃d v,a=.val d/\scope.names.lookup y=some .free/\Loc env h y v/\Rep Pc h d v
theorem Uw.cells  (f:Uw scope env h):∀x∈scope.names,x.2=.free->∃c,env.cells.lookup x.1=some c:=λx hx hk=>
 (f x hx hk).elim λ_ l=>(l.1.cellOf l.2).elim λc e=>⟨c,e.1⟩
theorem Uw.lives  (f:Uw scope env h)   (e:(Kt env scope.names []).lookup y=some c):∃o,h.get? c=some o:=
 (MN f.cells e).elim (λb=>(f _ b.2 rfl).elim λ_ l=>(l.1.cellOf l.2).elim λ_ q=>q.2.elim λo r=>⟨o,Zyb (q.1.symm.trans b.1) ▸ r.1⟩) nS
theorem Ja.off     (hS:WM scope Zq)(hσ:Ja scope env h Pc σc)  (hx:x∈Zc Zq):σc x=none:=by
 cases e:σc x with
 |none=>rfl
 | some a=>
   obtain⟨_,_,_,hl,_⟩:=hσ x a e
   rcases hS.Zq x hx with ht |ht
   ·cases ht.symm.trans hl
   ·cases (hS.cell _ ht rfl).symm.trans hl
structure X5(scope:Zy6)(env:Env)(h h₂ h₄:Zyp)(L D:Zya)(wr:List Zya)(cells:List (Str × Zya)):Prop where
 free:Uw scope env h
 BG:ZT h h₂
 BI:ZT h₂ h₄
 FJ:h₂.get? L=none
 newD:h₂.get? D=none
 ne:D≠L
 qc:h₄.Ns L λ_=>none
 TP:h₄.PlainList D #[]
 yB:∀b∈wr,h.get? b=none
 NB:∀b∈wr,∃o,h₂.get? b=some o
 cell:∀x∈ZY scope.names,∃c,cells.lookup x=some c/\h₄.IsCell c none/\h₂.get? c=none/\c≠L/\c≠D
 old:∀x,x∉ZY scope.names->cells.lookup x=(Kt env scope.names []).lookup x
 apart:∀x y c,x∈ZY scope.names->cells.lookup x=some c->cells.lookup y=some c->x=y
def K6(scope:Zy6)(L D:Zya)(wr:List Zya)(cells:List (Str × Zya))(b:Zya):Prop:=b=L∨b=D∨(∃x,x∈ZY scope.names/\cells.lookup x=some b)∨b∈wr
def xJ(D:Zya)(wr:List Zya)(b:Zya):Prop:=b=D∨b∈wr
def JM(scope:Zy6)(env:Env)(h:Zyp)(Pc:Zya->Prop)(L:Zya)(cells:List (Str × Zya)):Y7:=
 ⟨{ scope:=relabel scope env,locals:=L,globals:=env.globals,cells:=cells,qual:=env.qual,func:=none,code:=env.code,frame:=env.frame,builtins:=env.builtins },h,Pc,ZY scope.names⟩
section
variable {scope:Zy6}{h₂ h₄:Zyp}{L D b:Zya}{wr fp:List Zya}{cells:List (Str × Zya)}{Zq:Zyc}{Pc:Zya->Prop}{σc:Zx}
theorem X5.cell'(X:X5 scope env h h₂ h₄ L D wr cells)  (hx:x∈ZY scope.names)(hc:cells.lookup x=some b):h₄.IsCell b none/\h₂.get? b=none/\b≠L/\b≠D:=
 (X.cell x hx).elim λ_ q=>Zyb (q.1.symm.trans hc) ▸ q.2
theorem X5.el{P:Prop}(X:X5 scope env h h₂ h₄ L D wr cells)(m:K6 scope L D wr cells b)(q:h₂.get? b=none->P)(q2:b∈wr->P):P:=
 m.elim (λe=>q (e ▸ X.FJ)) λm=>m.elim (λe=>q (e ▸ X.newD)) λm=>m.elim (λm=>m.elim λ_ m=>q (X.cell' m.1 m.2).2.1) q2
theorem X5.new(X:X5 scope env h h₂ h₄ L D wr cells)(m:K6 scope L D wr cells b):h.get? b=none:=X.el m (Yd X.BG) (X.yB b)
theorem X5.ki(X:X5 scope env h h₂ h₄ L D wr cells)  (e:h.get? b=some o):¬K6 scope L D wr cells b:=λm=>nS ((X.new m).symm.trans e)
theorem X5.live(X:X5 scope env h h₂ h₄ L D wr cells)(m:K6 scope L D wr cells b):∃o,h₄.get? b=some o:=
 m.elim (λe=>e ▸ X.qc.elim λo r=>⟨o,r.elim λ_ r=>r.elim λ_ r=>r.1⟩) λm=>m.elim (λe=>e ▸ X.TP.elim λ_ r=>⟨_,r⟩) λm=>m.elim (λm=>m.elim λ_ m=>(X.cell' m.1 m.2).1.elim λo r=>⟨o,r.1⟩) λm=>(X.NB b m).elim λo r=>⟨o,X.BI b o r⟩
theorem X5.TS(X:X5 scope env h h₂ h₄ L D wr cells)(e:h₂.get? b=none):b∉wr:=λm=>(X.NB b m).elim λ_ r=>nS (e.symm.trans r)
theorem X5.oR(X:X5 scope env h h₂ h₄ L D wr cells)(N5:∀b∈fp,∃o,h₂.get? b=some o):∀b∈fp,b∈wr∨¬K6 scope L D wr cells b:=λb hb=>
 (Zvf (b∈wr)).elim .inl λhw=>.inr λm=>X.el m (λe=>(N5 b hb).elim λ_ r=>nS (e.symm.trans r)) hw
theorem X5.loc(X:X5 scope env h h₂ h₄ L D wr cells)(hS:WM scope Zq)   (Nr:scope.names.lookup y=some .free)(l:Loc env h y v):Loc (JM scope env h Pc L cells).env h₄ y v:=by
 have FC:=mem_of_lookup Nr
 have hy:y∉ZY scope.names:=λm=>by cases (hS.cell _ (V0.mp m) rfl).symm.trans Nr
 obtain⟨_,l',hk⟩:=X.free _ FC rfl
 obtain⟨c,hc,oW⟩:=l.cellOf hk
 refine .inr ⟨?_,c,(X.old y hy).trans (ML X.free.cells hc (.inl FC)),oW.keeps λb o e=>X.BI b o (X.BG b o e)⟩
 have e:(relabel scope env).names.lookup y=_:=UX
 rw[Nr] at e
 show (relabel scope env).names.lookup y=_∨(relabel scope env).names.lookup y=_
 rw[e]
 exact Y4 (c:=_=true) rfl (λ_ e=>.inl (congrArg some e.symm)) λ_ e=>.inr (congrArg some e.symm)
theorem X5.mw(_:X5 scope env h h₂ h₄ L D wr cells)(hS:WM scope Zq)  (hx:x∈Zc Zq):Yc (JM scope env h Pc L cells).env (JM scope env h Pc L cells).cs x:=
 (hS.Zq x hx).elim (λht=>.inl (UX.trans (by rw[ht];rfl))) λht=>.inr (V0.mpr ht)
theorem X5.inv(X:X5 scope env h h₂ h₄ L D wr cells)(hS:WM scope Zq)(hσ:Ja scope env h Pc σc)(hg:C.G h)(DJ:ZD Pc h):Inv C (JM scope env h Pc L cells) (xJ D wr) (K6 scope L D wr cells) σc h₄ where
 Q9:=hg
 live:=DJ
 ext:=λb o e=>X.BI b o (X.BG b o e)
 fresh:=λ_ m=>X.new m
 alive:=λ_ m=>X.live m
 Un:=.inl rfl
 V7:=λn=>n.elim (λq=>X.ne q.symm) (X.TS X.FJ)
 pin:=λ_ n=>n.elim (λq=>.inr (.inl q)) λm=>.inr (.inr (.inr m))
 ns:=⟨_,X.qc⟩
 cell:=λx hx=>⟨UX.trans (by rw[hS.cell _ (V0.mp hx) rfl];rfl),(X.cell x hx).elim λc q=>⟨c,none,q.1,q.2.1,.inr (.inr (.inl ⟨x,hx,q.1⟩)),λn=>n.elim q.2.2.2.2 (X.TS q.2.2.1)⟩⟩
 apart:=X.apart
 outer:=λy _ e=>(Zvf (y∈ZY scope.names)).elim .inl λhy=>.inr (X.free.lives ((X.old y hy).symm.trans e))
 val:=λy d e=>by
  obtain⟨d',v,e1,Nr,l,r⟩:=hσ y _ e
  cases e1
  exact⟨v,X.loc hS Nr l,r.mono (λ_ _ eb p=>⟨p,X.ki eb⟩) λb o _ eb=>X.BI b o (X.BG b o eb)⟩
 own:=⟨λ_=>[],λx a e i=>(hσ x a e).elim λ_ q=>q.elim λ_ q=>(by rw[q.1] at i;cases i),λx _ a _ _ e i=>(hσ x a e).elim λ_ q=>q.elim λ_ q=>(by rw[q.1] at i;cases i)⟩
end
theorem C8{A:Zxd}
 (hf:Zp env) (hS:WM scope Zq) (ZO:Yw k A) (hg:C.G s.heap) (hh:X7 P env U s.heap) (hb:ZD P s.heap) (DJ:ZD Pc s.heap) (R6:∀a,P a->Pc a)
 (K1:Uw scope env s.heap) (hσ:Ja scope env s.heap Pc σc)
 (hi:YV C k env U false Zq iter ds) (hs:∀x,Zxs iter env x=pure x)
 (loop:∀(F:Y7) (M:Zya->Prop) (J D:Zya) (fp wr:List Zya) (Pt:Nat->List Zyd->Prop) (St:Nat->Zyp->Prop) (s':Zym) (R:Zqu->Zym->Prop),InComp scope env F.env->Zp F.env->(∀t,WM scope t->∀x∈Zc t,Yc F.env F.cs x)->VZ C A Zq J fp wr ds.length Pt St->D∉wr->
  Inv C F (xJ D wr) M σc s'.heap->(∀b∈fp,b∈wr∨¬M b)->St 0 s'.heap->s'.heap.PlainList D #[]->(∀i vals,Pt i vals->∃d ps,ds[i]?=some d/\partsOf Zq d=some ps/\Zy (F.out M) s'.heap ps vals)->
  (∀s₁ vs,Xg s' s₁->s₁.heap.PlainList D vs->Zy (F.out M) s₁.heap ys vs.toList->(∃m,s₁.heap.Ns F.env.locals m)->(∀b o,¬M b->s'.heap.get? b=some o->s₁.heap.get? b=some o)->R (.ok .next) s₁)->
  codeAny C.M A (.compLoop (.ListComp elt (⟨Zq,iter,ifs,0⟩::gs) scope pos) 0 (.ref J) (.ref D) F.env) R s')
 (post:∀s' D L vs n m,ZyA s s'->s.heap.get? D=none->s.heap.get? L=none->D≠L->s'.heap.get? D=some { cls:=.type "list",data:=.seq vs n }->
  Zy (λb=>Pc b/\b≠D/\b≠L) s'.heap ys vs.toList->s'.heap.Ns L m->compPost C.M A E use Q (.ref D) L (.ok .next) s'):
 wpAny C.M A (comprehension (.ListComp elt (⟨Zq,iter,ifs,0⟩::gs) scope pos) scope env p (newList []) false (eval iter env) use) Q E s:=by
 refine wpAny_comprehension_free (g:=⟨Zq,iter,ifs,0⟩) (gs:=gs) rfl hs (AA K1.cells) hS.kind hS.loc ?_
 refine hi A s _ _ P ZO hg hh hb λJ fp wr Pt St s₂ k₂ W yS N5 new _ hv=>?_
 refine wpAny_newObj_type ?_
 have k3:=YL s₂ { cls:=.type "list",dict:=none,data:=.seq ([]:List Zyd).toArray }
 have gD:(s₂.heap.push { cls:=.type "list",dict:=none,data:=.seq ([]:List Zyd).toArray }).get? s₂.heap.objs.size=_:=ZyX _ rfl
 have nD:=YN s₂.heap
 refine A6 λL cells s₄ k₄ FJ hL qJ=>?_
 have X:X5 scope env s.heap s₂.heap s₄.heap L s₂.heap.objs.size wr cells:={
  free:=K1
  BG:=Zw k₂
  BI:=λb o e=>Zw k₄ b o (Zw k3 b o e)
  FJ:=Yd (Zw k3) FJ
  newD:=nD
  ne:=λq=>nS (FJ.symm.trans (q ▸ gD))
  qc:=hL
  TP:=⟨0,Zw k₄ _ _ gD⟩
  yB:=new
  NB:=W.lives 0 _ yS
  cell:=λx hx=>(qJ.lR x hx).elim λc q=>⟨c,q.1,q.2.1,Yd (Zw k3) q.2.2.1,q.2.2.2,λe=>nS (q.2.2.1.symm.trans (e ▸ gD))⟩
  old:=qJ.old
  apart:=qJ.apart λy c e=>(K1.lives e).elim λo r=>⟨o,Zw k3 c o (Zw k₂ c o r)⟩ }
 have Np:InComp scope env (JM scope env s.heap Pc L cells).env:=⟨rfl,rfl,rfl⟩
 have yT:St 0 s₄.heap:=W.frame _ _ _ yS λb _ o e=>X.BI b o e
 have lp:=loop (JM scope env s.heap Pc L cells) (K6 scope L _ wr cells) J _ fp wr Pt St s₄ (compPost C.M A E use Q (.ref _) L) Np (Np.Z6 hS.kind hf) (λt ht x hx=>X.mw ht hx) W (X.TS nD) (X.inv hS hσ hg DJ) (X.oR N5) yT X.TP
  (λi vals pv=>(hv i vals pv).elim λd q=>q.elim λps q=>⟨d,ps,q.1,q.2.1,q.2.2.mono (λb o e p=>⟨R6 b p.1,λm=>X.el m (λe'=>nS (e'.symm.trans e)) p.2⟩) λb o _ e=>X.BI b o e⟩)
  λs' vs cw hl WE Rr hk=>Rr.elim λm hm=>hl.elim λn hn=>post s' _ L vs n m (((((Xg.of_keeps k₂).trans (.of_keeps k3)).trans (.of_keeps k₄)).trans cw).keeps λb o e=>hk b o (X.ki e) (X.BI b o (X.BG b o e))) (Yd X.BG nD) (Yd X.BG X.FJ) X.ne hn (WE.mono (λb o e p=>⟨p.1,λq=>p.2 (.inr (.inl q)),λq=>p.2 (.inl q)⟩) λ_ _ _ e=>e) hm
 exact codeAny_compStart_list lp (W.self 0 _ _ _ yT lp)
theorem A4
 (hf:Zp env) (hS:WM scope Zq) (ZO:Yw k A) (hg:C.G s.heap) (hh:X7 P env U s.heap) (hb:ZD P s.heap) (DJ:ZD Pc s.heap) (R6:∀a,P a->Pc a)
 (K1:Uw scope env s.heap) (hσ:Ja scope env s.heap Pc σc)
 (hi:YV C k env U false Zq iter ds) (Yh:ds.length<=Zyk)
 (hr:∀YT,InComp scope env YT->XE C k YT σc Zq ifs elt ds ys)
 (hs:∀x,Zxs iter env x=pure x)
 (post:∀s' D L vs n m,ZyA s s'->s.heap.get? D=none->s.heap.get? L=none->D≠L->s'.heap.get? D=some { cls:=.type "list",data:=.seq vs n }->
  Zy (λb=>Pc b/\b≠D/\b≠L) s'.heap ys vs.toList->s'.heap.Ns L m->compPost C.M A E use Q (.ref D) L (.ok .next) s'):
 wpAny C.M A (comprehension (.ListComp elt [⟨Zq,iter,ifs,0⟩] scope pos) scope env p (newList []) false (eval iter env) use) Q E s:=
 C8 hf hS ZO hg hh hb DJ R6 K1 hσ hi hs (λF M J D fp wr Pt St s' R Np qH Y6 W V9 I Wa st hl hv hR=>
  Gf (N₀:=λb=>b=D) (y0:=[]) (Rd:=#[]) (λI turn n s h=>BJ I turn n h) qH.kind (Y6 Zq hS) ZO W rfl (λb e=>e ▸ V9) I (λb m=>.inr m) Wa st (.inl rfl) V9 hl Zy.nil (λx hx=>hσ.off hS hx) hv (hr _ Np) (Zyi (hr _ Np).len Yh)
   λs₁ vs pS hl WE hI hk=>hR s₁ vs pS hl WE hI.ns λb o n e=>hk b o (λq=>n (q ▸ I.pin D (.inl rfl))) (λm=>n (I.pin b (.inr m))) (.inl n) e) post
end
noncomputable def U1(scope:Zy6)(U:Zx):Zx:=λy=>if scope.names.lookup y=some .free then (U y).bind λa=>@AV.casesOn (λ_=>Option AV) a (λd=>some (.val d)) (λ_=>none) λ_ _=>none else none
def VT(scope:Zy6)(U:Zx):Zx:=λy=>if scope.names.lookup y=some .free then (U y).map λa=>.val a.pv else none
def G3(scope:Zy6)(env:Env)(U:Zx):Prop:=∀x∈scope.names,x.2=.free->(∃a,U x.1=some a)/\(env.kindOf x.1=some .cell∨env.kindOf x.1=some .free)
section
variable {C:Cx}{k:Nat}{F:Y7}{N M:Zya->Prop}{U σ₁ σ₂:Zx}{s s' s₁:Zym}{af:Z9}{h h':Zyp}{env:Env}
theorem U3.loc    (H:U3 P env h x a):∃v,Loc env h x v:=by
 cases a with
 |val d=>obtain⟨v,l,_⟩:=H;exact⟨v,l⟩
 |own ds=>obtain⟨b,_,_,l,_⟩:=H;exact⟨_,l⟩
 |tab c ds=>obtain⟨b,_,_,_,l,_⟩:=H;exact⟨_,l⟩
theorem G3.free   (ht:G3 scope env U)(hh:X7 P env U h):Uw scope env h:=λx hx hk=>
 (ht x hx hk).1.elim λ_ e=>(hh _ _ e).loc.elim λv l=>⟨v,l,(ht x hx hk).2⟩
theorem uF   (hh:X7 P env U h):Ja scope env h P (U1 scope U):=λy a e=>Zl e λhl e=>Zj e λb e1 e=>by
 cases b with
 | val d=>
   cases e
   exact (hh _ _ e1).elim λv q=>⟨d,v,rfl,hl,q⟩
 |own _=>exact nS e
 |tab _ _=>exact nS e
theorem U3.any    (H:U3 P env h x a):∃v,Loc env h x v/\Rep (λ_=>True) h a.pv v:=by
 cases a with
 |val d=>exact H.elim λv q=>⟨v,q.1,q.2.mono (λ_ _ _ _=>trivial) λ_ _ _ e=>e⟩
 |own ds=>obtain⟨b,vs,n,l,g,r⟩:=H;exact⟨_,l,YD.pv (a:=.own ds) ⟨b,vs,n,rfl,g,r⟩⟩
 |tab c ds=>obtain⟨a,d,b,vs,l,T,r⟩:=H;exact⟨_,l,YD.pv (a:=.tab c ds) ⟨a,d,b,vs,rfl,T,r⟩⟩
theorem HE   (hh:X7 P env U h):Ja scope env h (λ_=>True) (VT scope U):=λy a e=>Zl e λhl e=>YQ e λb e1 e=>
 (hh _ _ e1).any.elim λv q=>⟨_,v,e,hl,q⟩
def Ut(C:Cx)(k:Nat)(env:Env)(U:Zx)(e:Zyc)(scope:Zy6)(p:Pos)(iter:Zyc)(ys:List PV):Prop:=
 ∀A s Q E P use,Yw k A->C.G s.heap->X7 P env U s.heap->ZD P s.heap->
  (∀s' D L vs n m,ZyA s s'->s.heap.get? D=none->s.heap.get? L=none->D≠L->s'.heap.get? D=some { cls:=.type "list",data:=.seq vs n }->
   Zy (λb=>P b/\b≠D/\b≠L) s'.heap ys vs.toList->s'.heap.Ns L m->compPost C.M A E use Q (.ref D) L (.ok .next) s')->
  wpAny C.M A (comprehension e scope env p (newList []) false (eval iter env) use) Q E s
theorem Ut.val      (hf:Zp env)(hS:WM scope Zq)(ht:G3 scope env U)(hi:YV C k env U false Zq iter ds)(Yh:ds.length<=Zyk)
 (hr:∀YT,InComp scope env YT->XE C k YT (U1 scope U) Zq ifs elt ds ys) (hs:∀x,Zxs iter env x=pure x):
 Ut C k env U (.ListComp elt [⟨Zq,iter,ifs,0⟩] scope pos) scope p iter ys:=λA s Q E P use ZO hg hh hb post=>
 A4 hf hS ZO hg hh hb hb (λ_ p=>p) (ht.free hh) (uF hh) hi Yh hr hs post
theorem Ut.flat      (hf:Zp env)(hS:WM scope Zq)(ht:G3 scope env U)(hi:YV C k env U false Zq iter ds)(Yh:ds.length<=Zyk)
 (hr:∀YT,InComp scope env YT->XE C k YT (VT scope U) Zq ifs elt ds ys) (hy:ys.all Yv=true) (hs:∀x,Zxs iter env x=pure x):
 Ut C k env U (.ListComp elt [⟨Zq,iter,ifs,0⟩] scope pos) scope p iter ys:=λA s Q E P use ZO hg hh hb post=>
 A4 hf hS ZO hg hh hb (λ_ n=>absurd trivial n) (λ_ _=>trivial) (ht.free hh) (HE hh) hi Yh hr hs
  λs' D L vs n m ks nD nL I0 hD WE hL=>post s' D L vs n m ks nD nL I0 hD (JV hy WE) hL
theorem Ut.new      (h:Ut C k env U (.ListComp elt [⟨Zq,iter,ifs,0⟩] scope pos) scope (firstIterPos [⟨Zq,iter,ifs,0⟩] pos) iter ys):
 Ww C k env U (.ListComp elt [⟨Zq,iter,ifs,0⟩] scope pos) (.own ys):=⟨rfl,λA s Q E P ZO hg hh hb q=>by
 rw[eval_ListComp]
 refine h A s Q E P none ZO hg hh hb λs' D L vs n m ks nD nL I0 hD WE hL=>⟨m,hL,λh' Q6=>?_⟩
 have K0:∀b o,b≠L->s'.heap.get? b=some o->h'.get? b=some o:=λb o n e=>(Q6.2 b n).trans e
 refine q (.ref D) [D] _ ?_ (λb hb=>by simp at hb;rw[hb];exact nD) ⟨D,rfl,rfl,vs,n,K0 D _ I0 hD,WE.mono (λb o e p=>⟨p.1,by simpa using p.2.1⟩) λb o p e=>K0 b o p.2.2 e⟩
 obtain⟨h1,t1,rfl,hk⟩:=ks
 exact⟨h',t1,rfl,λb o e=>K0 b o (λq=>by rw[q,nL] at e;cases e) (hk b o e)⟩⟩
theorem Ww.ev   (h:Ww C k env U e (.own ds)):Ev C k env U e (.lst ds):=λA s Q E P hr hg hh hb q=>
 h.2 A s Q E P hr hg hh hb λv ow s' ks new T=>by
  obtain⟨a,rfl,rfl,vs,n,e0,r⟩:=T
  refine q _ s' ks (ZP.mpr ⟨a,vs,n,rfl,ZyO λnp=>?_,e0,r.mono (λ_ _ _ p=>p.1) λ_ _ _ e=>e⟩)
  obtain⟨o,e⟩:=hb a np
  rw[new a (by simp)] at e;cases e
theorem Ww.list    (h:ZW C k env U es (ds.map .val))(Yh:ds.length<=Zyk):Ww C k env U (.List es pos) (.own ds):=⟨rfl,λA s Q E P hr hg hh hb q=>by
 refine wpAny_List (h.spliced hr hg hh hb λvs s₁ k₁ r₁=>?_)
 have rv:=r₁.vals
 have nn:s₁.heap.get? s₁.heap.objs.size=none:=by
  cases e:s₁.heap.get? s₁.heap.objs.size with
  |none=>rfl
  |some o=>exact absurd (Zxf e) (Zx7 _)
 refine⟨by rw[rv.length];exact Yh,q _ [s₁.heap.objs.size] _ (Zu k₁ (YL s₁ _)) (λb m=>?_) ⟨_,rfl,rfl,vs.toArray,0,ZyX _ rfl,rv.mono (λb o e p=>⟨p,λm=>?_⟩) λ_ _ _ e=>Zyo _ e⟩⟩
 ·simp at m;subst m
  cases e:s.heap.get? s₁.heap.objs.size with
  |none=>rfl
  |some o=>rw[Zw k₁ _ o e] at nn;cases nn
 ·simp at m;subst m;rw[nn] at e;cases e⟩
theorem Ax         (hs:swapsWith (.ListComp elt [⟨Zq,iter,ifs,0⟩] scope Yj) (some (.Name x p)) pos.line env=pure true)
 (h:wpAny C.M A (comprehension (.ListComp elt [⟨Zq,iter,ifs,0⟩] scope Yj) scope env (firstIterPos [⟨Zq,iter,ifs,0⟩] Yj) (newList []) false (eval iter env) (some (ZwX (.Name x p) env))) (λ_ s'=>Q .next s') E s):
 wpAny C.M A (exec (.Assign [.Name x p] (.ListComp elt [⟨Zq,iter,ifs,0⟩] scope Yj) pos) env) Q E s:=by
 rw[exec_Assign_Name_used _ _ _ _ hs]
 refine Zyf (Zx3 (Zyf ?_))
 show wpAny _ A (do let _ <-comprehension (.ListComp elt [⟨Zq,iter,ifs,0⟩] scope Yj) scope env _ (newList []) false (eval iter env) (some (ZwX (.Name x p) env))) _ _ s
 exact Zyf (ZyB h (λ_ s' hq=>Zys (Zys hq)) λ_ _ e=>e)
theorem Ma   (I:Inv C F N M U s.heap)(ks:ZyA s s')(nL:s.heap.get? L=none)(new:∀b,M₁ b->M b∨s.heap.get? b=none)(kN:∀b,N b->N₁ b)(I₂:Inv C F (λb=>N b∨b=L) M₁ σ₁ s₁.heap)(ok:Z5 N₁ M₁ s' M₁ s₁)(hs:Zwu L s₁.heap h'):
 Inv C F N (λb=>M₁ b/\¬b=L) σ₁ h'/\Z5 N M s (λb=>M₁ b/\¬b=L) { s₁ with heap:=h' }:=
 have x7:∀b o,¬b=L->s₁.heap.get? b=some o->h'.get? b=some o:=λb o n e=>(hs.2 b n).trans e
 ⟨I₂.AH (λb=>b=L) (λb n q=>(I.alive b (I.pin b n)).elim λo e=>nS (nL.symm.trans (q ▸ e))) x7,((Xg.of_keeps ks).trans ok.same).trans ⟨h',s₁.toks,rfl⟩,
  λb o n e=>x7 b o (λq=>nS (nL.symm.trans (q ▸ e))) (ok.kept b o (n.elim (λn=>.inl λm=>(new b m).elim n λq=>nS (q.symm.trans e)) λn=>.inr (kN b n)) (Zw ks b o e)),λb m=>new b m.1⟩
theorem Di   (h:h'.Ns L m):∃o,h'.get? L=some o:=h.elim λo t=>t.elim λ_ t=>t.elim λ_ t=>⟨o,t.1⟩
theorem Ex.uN       (hf:Zp F.env)(hx:Yc F.env F.cs x)
 (h:Ut C k F.env U (.ListComp elt [⟨Zq,iter,ifs,0⟩] scope Yj) scope (firstIterPos [⟨Zq,iter,ifs,0⟩] Yj) iter ys)
 (hs:swapsWith (.ListComp elt [⟨Zq,iter,ifs,0⟩] scope Yj) (some (.Name x p)) pos.line F.env=pure true):
 Ex C k F U (exec (.Assign [.Name x p] (.ListComp elt [⟨Zq,iter,ifs,0⟩] scope Yj) pos) F.env) .Z4 (U.set x (.val (.lst ys))):=λN M A s Q E hr I q=>
 Ax hs (h A s _ E _ _ hr I.G I.has I.YB λs' D L vs n m ks nD nL I0 hD WE hL=>
  have pk:¬M D:=λm=>(I.alive D m).elim λo e=>nS (nD.symm.trans e)
  have pD:F.P D:=ZyO λnp=>(I.YB D λp=>np p.1).elim λo e=>nS (nD.symm.trans e)
  wpAny_assign_Name (W4 (ow:=[]) (N₂:=λb=>N b∨b=L) hf.kind hx (I.Qp (λb=>b=L) (Zw ks) (λb (q:b=L)=>q ▸ nL) λb (q:b=L)=>q ▸ Di hL) (λ_ n=>n) (λ_ m=>nomatch m)
   (.inl ⟨.lst ys,rfl,rfl,ZP.mpr ⟨D,vs,n,rfl,⟨pD,λm=>m.elim pk I0⟩,hD,WE.mono (λb o e p=>⟨p.1.1,λm=>m.elim p.1.2 p.2.2⟩) λ_ _ _ e=>e⟩⟩) λqk I₂ ok _=>
   ⟨m,hL.at' λo e=>ok.kept L o (.inr (.inr rfl)) e,λh' Q6=>
    have f:=Ma I ks nL (λb (m:M b∨b=L)=>m.imp id λ(q:b=L)=>q ▸ nL) (λb n=>.inl n) I₂ ok Q6
    q .next _ _ trivial f.1 f.2⟩))
theorem Ex.yk       (hf:Zp F.env)(hx:Yc F.env F.cs x)
 (h:Ut C k F.env U.flat (.ListComp elt [⟨Zq,iter,ifs,0⟩] scope Yj) scope (firstIterPos [⟨Zq,iter,ifs,0⟩] Yj) iter ys)
 (hs:swapsWith (.ListComp elt [⟨Zq,iter,ifs,0⟩] scope Yj) (some (.Name x p)) pos.line F.env=pure true):
 Ex C k F U (exec (.Assign [.Name x p] (.ListComp elt [⟨Zq,iter,ifs,0⟩] scope Yj) pos) F.env) .Z4 (U.set x (.own ys)):=λN M A s Q E hr I q=>
 Ax hs (h A s _ E _ _ hr I.G I.VU I.W7 λs' D L vs n m ks nD nL I0 hD WE hL=>
  have oF:∀b,N b->¬b=D:=λb n q=>(I.alive b (I.pin b n)).elim λo e=>nS (nD.symm.trans (q ▸ e))
  have nw:∀b,b=L∨b=D->s.heap.get? b=none:=λb q=>q.elim (λq=>q ▸ nL) λq=>q ▸ nD
  wpAny_assign_Name (W4 (a:=.own ys) (ow:=[D]) (N₂:=λb=>N b∨b=L) hf.kind hx (I.Qp (λb=>b=L∨b=D) (Zw ks) nw λb q=>q.elim (λq=>q ▸ Di hL) λq=>⟨_,q ▸ hD⟩) (λ_ n=>n.imp id .inl)
   (λb m=>have e:b=D:=Zx0.mp m;⟨.inr (.inr e),λn=>n.elim (λn=>oF b n e) λq=>I0 (e.symm.trans q)⟩) (.inr ⟨rfl,D,rfl,rfl,vs,n,hD,WE.mono (λb o e p=>⟨λm=>m.elim p.1.1 λm=>m.elim p.2.2 p.2.1,p.1.2⟩) λ_ _ _ e=>e⟩) λqk I₂ ok _=>
   ⟨m,hL.at' λo e=>ok.kept L o (.inr (.inr (.inl rfl))) e,λh' Q6=>
    have f:=Ma I ks nL (λb m=>m.imp id (nw b)) (λb n=>.inl n) I₂ ok Q6
    q .next _ _ trivial f.1 f.2⟩))
end
section
variable {C:Cx}{A:Zxd}{I:Zya}{fp wr:List Zya}{n:Nat}{P:Nat->Zyd->Prop}{St:Nat->Zyp->Prop}
theorem VZ.one   (W:Walks C.prog C.w A I fp wr n P St)(lv:∀i h,St i h->∀b∈wr,∃o,h.get? b=some o):VZ C A (.Name x p) I fp wr n (λi vals=>∃v,vals=[v]/\P i v) St where
 sub:=W.sub
 frame:=W.frame
 lives:=lv
 item:=λenv i s Q E hi st hQ=>by
  refine W.item i s _ E hi st λv h' tk pv qy hk=>?_
  refine wpAny_of_eq (a:=()) rfl ?_
  exact wpAny_assign_Name (hQ [v] h' tk ⟨v,rfl,pv⟩ qy hk)
 done:=W.done
 self:=W.self
theorem Walks.bound(W:Walks C.prog C.w A I fp wr n P St):Walks C.prog C.w A I fp wr n (λi v=>i<n/\P i v) St where
 sub:=W.sub
 frame:=W.frame
 item:=λi s Q E hi st hQ=>W.item i s Q E hi st λv h' tk hP qy hk=>hQ v h' tk ⟨hi,hP⟩ qy hk
 done:=W.done
 self:=W.self
theorem dh{vals:Array Zyd}(h:vals.size=2):∃v u,vals=#[v,u]:=by
 obtain⟨l⟩:=vals
 exact UL (P:=λl=>∃v u,(⟨l⟩:Array Zyd)=#[v,u]) h λv u=>⟨v,u,rfl⟩
theorem VZ.two    (hh:A.handled=none)   (W:WalksU C.prog C.w A I fp wr n Pt St Mid)(lv:∀i h,St i h->∀b∈wr,∃o,h.get? b=some o)
 (h2:∀i vals,Pt i vals->vals.size=2):VZ C A (.Tuple [.Name x p1,.Name y p2] k p) I fp wr n (λi vals=>∃vs,Pt i vs/\vals=vs.toList) St where
 sub:=W.sub
 frame:=W.frame
 lives:=lv
 item:=λenv i s Q E hi st hQ=>by
  refine W.item i s _ E hi st λT vals h' tk pv hT hm hk=>?_
  refine W.go _ _ _ i T _ _ E hm λBP mi IZ=>?_
  have tD:BP.IsTuple T vals:=hT.at λo e=>IZ T o (W.apart _ _ _ hm) e
  obtain⟨v,u,rfl⟩:=dh (h2 i vals pv)
  refine wpAny_assign_Tuple hh tD rfl rfl λh₃ dO=>?_
  have ext:∀b o,BP.get? b=some o->h₃.get? b=some o:=λb o e=>dO b o (Zwd (Zxf e)) e
  have:=hQ [v,u] h₃ tk ⟨_,pv,rfl⟩ (W.frame _ _ _ mi λb _ o e=>ext b o e) λb o n e=>ext b o (IZ b o n (hk b o n e))
  show wpAny _ A (do holding [u] (ZwX (.Name x p1) env v);do holding [] (ZwX (.Name y p2) env u);pure ()) _ _ _
  exact Zyf (ZyP (wpAny_assign_Name (ZyB this (λ_ s₁ h₁=>Zyf (ZyP (wpAny_assign_Name (ZyB h₁ (λ_ _ q=>Zys q) λ_ _ e=>e)))) λ_ _ e=>e)))
 done:=W.done
 self:=W.self
end
section
variable {C:Cx}{k:Nat}{env:Env}{U:Zx}{s:Zym}
theorem WX{p:Zya->Prop}:∀b∈([]:List Zya),p b:=λ_ h=>absurd h ZxY
theorem ZI{p:Zya->Prop}   (h:p a)(t:∀b∈l,p b):∀b∈a::l,p b:=λb hb=>(ZyT.mp hb).elim (λe=>e ▸ h) (t b)
theorem KV    {vs:Array Zyd}{wr:List Zya}(hr:Zy P h ds vs.toList)(hk:ZT h h')(new:∀b∈wr,h.get? b=none){i:Nat}  (hv:vs[i]?=some v):
 ∃d,ds[i]?=some d/\Rep (λa=>P a/\a∉wr) h' d v:=by
 have hl:=hr.length
 have hi:i<vs.size:=(ZwI.mp hv).1
 have hd:i<ds.length:=by simp at hl;lia
 obtain⟨u,hu,r⟩:=hr.get (gE hd)
 rw[ZxW] at hu
 rw[hv] at hu;cases hu
 refine⟨_,gE hd,r.mono (λa o e p=>⟨p,λm=>?_⟩) λa o _ e=>hk a o e⟩
 rw[new a m] at e;cases e
theorem YV.Hm{x:Str}   {ds:List PV}{strict:Bool}
 (h:∀A s Q E P,Yw k A->C.G s.heap->X7 P env U s.heap->ZD P s.heap->
  (∀a vs n s',ZyA s s'->(strict=true->P a)->s'.heap.get? a=some { cls:=.type "list",data:=.seq vs n }->Zy P s'.heap ds vs.toList->Q (.ref a) s')->wpAny C.M A (eval iter env) Q E s):
 YV C k env U strict (.Name x p) iter ds:=λA s Q E P ZO hg hh hb q=>by
 refine h A s _ E P ZO hg hh hb λa vs n s₁ k₁ qV hl hr=>?_
 have hL:s₁.heap.IsList a vs:=Yu hl
 have Xz:a<s₁.heap.objs.size:=Zxf hl
 have XA:a≠s₁.heap.objs.size:=Zwd Xz
 refine wpAny_pyIter_list hL ?_
 have len:vs.size=ds.length:=by have:=hr.length;simpa using this
 have k₂:=YL s₁ { cls:=.type "list_iterator",data:=.fields #[.ref a,.int 0 0] }
 have W:=Walks.list (prog:=C.prog) (w:=C.w) (A:=A) ZO.handled s₁.heap.objs.size a XA vs
 rw[len] at W
 refine q s₁.heap.objs.size [s₁.heap.objs.size,a] [s₁.heap.objs.size] _ _ _ (Zu k₁ k₂) (VZ.one W λi h st=>ZI (st.1.elim λo e=>⟨o,e.1⟩) WX) ⟨⟨_,ZyX _ rfl,rfl,rfl⟩,hL.push _⟩ (ZI ⟨_,ZyX _ rfl⟩ (ZI ⟨_,Zw k₂ _ _ hl⟩ WX))
  (ZI (Yd (Zw k₁) (YN _)) WX) (λhs=>ZI (.inl (.head _)) (ZI (.inr (qV hs)) WX)) λi vals hp=>?_
 ·obtain⟨v,rfl,hv⟩:=hp
  obtain⟨d,hd,r⟩:=KV (wr:=[s₁.heap.objs.size]) hr (Zw k₂) (ZI (YN _) WX) hv
  exact⟨d,[d],hd,rfl,Zy.one r⟩
theorem YV.nA      (h:Ev C k env U iter (.lst ds)):YV C k env U strict (.Name x p) iter ds:=
 YV.Hm λA s Q E P ZO hg hh hb q=>h A s Q E P ZO hg hh hb λv s₁ k₁ r₁=>by
  obtain⟨a,vs,n,rfl,pa,e,r⟩:=ZP.mp r₁
  exact q a vs n s₁ k₁ (λ_=>pa) e r
theorem YV.lD     (h:Qx C k env U iter ds):YV C k env U false (.Name x p) iter ds:=
 YV.Hm λA s Q E P ZO hg hh hb q=>h A s Q E P ZO hg hh hb λa vs n s₁ k₁ e r=>q a vs n s₁ k₁ (λh=>by cases h) e r
structure IM(P:Zya->Prop)(h:Zyp)(ds:List PV)(vs:Array Zyd)(T:Zya)(w:Array Zyd)(j:Nat):Prop where
 get:vs[j]?=some (.ref T)
 tup:h.IsTuple T w
 own:P T
 val:∃d1 d2,ds[j]?=some (.tup [d1,d2])/\Zy P h [d1,d2] w.toList
theorem IM.size       (x:IM P h ds vs T w j):w.size=2:=
 x.val.elim λ_ q=>q.elim λ_ q=>q.2.length
theorem Bc    (hr:Zy P s.heap ds vs.toList)(hd:∀d∈ds,∃a b,d=.tup [a,b]){j:Nat}(hj:j<vs.size):∃T w,IM P s.heap ds vs T w j:=by
 obtain⟨d,aH,r⟩:=KV (P:=P) (wr:=[]) hr (λ_ _ e=>e) WX (Zxt hj)
 obtain⟨d1,d2,rfl⟩:=hd d (ZyH aH)
 obtain⟨T,w,m,e,pT,eT,rr⟩:=Yt.mp r
 exact⟨T,w,by rw[Zxt hj,e],Xa (s:=s) eT,pT.1,d1,d2,aH,rr.mono (λ_ _ _ p=>p.1) λ_ _ _ e=>e⟩
theorem pairs_at    (hr:Zy P s.heap ds vs.toList)(hd:∀d∈ds,∃a b,d=.tup [a,b]):∃(Ts:Nat->Zya)(ws:Nat->Array Zyd),∀j,j<vs.size->IM P s.heap ds vs (Ts j) (ws j) j:=
 ⟨λj=>if hj:j<vs.size then (Bc hr hd hj).choose else 0,λj=>if hj:j<vs.size then (Bc hr hd hj).choose_spec.choose else #[],λj hj=>by
  show IM P s.heap ds vs (dite _ _ _) (dite _ _ _) j
  rw[dif_pos hj,dif_pos hj]
  exact (Bc hr hd hj).choose_spec.choose_spec⟩
theorem YV.O7{x y:Str}      (hd:∀d∈ds,∃a b,d=.tup [a,b])
 (h:∀A s Q E P,Yw k A->C.G s.heap->X7 P env U s.heap->ZD P s.heap->
  (∀a vs n s',ZyA s s'->(strict=true->P a)->s'.heap.get? a=some { cls:=.type "list",data:=.seq vs n }->Zy P s'.heap ds vs.toList->Q (.ref a) s')->wpAny C.M A (eval iter env) Q E s):
 YV C k env U strict (.Tuple [.Name x p1,.Name y p2] kk p) iter ds:=λA s Q E P ZO hg hh hb q=>by
 refine h A s _ E P ZO hg hh hb λa vs n s₁ k₁ qV hl hr=>?_
 have hL:s₁.heap.IsList a vs:=Yu hl
 have XA:a≠s₁.heap.objs.size:=Zwd (Zxf hl)
 have len:vs.size=ds.length:=by have:=hr.length;simpa using this
 obtain⟨Ts,ws,sp⟩:=pairs_at hr hd
 have TI:∀j,j<vs.size->Ts j≠s₁.heap.objs.size:=λj hj=>(sp j hj).tup.elim λo e=>Zwd (Zxf e.1)
 refine wpAny_pyIter_list hL ?_
 have k₂:=YL s₁ { cls:=.type "list_iterator",data:=.fields #[.ref a,.int 0 0] }
 have W:=WalksU.listOfTuples (prog:=C.prog) (w:=C.w) (A:=A) ZO.handled s₁.heap.objs.size a XA vs Ts ws (λj hj=>(sp j hj).get) TI
 have W':=W.bound
 rw[len] at W'
 have lt:∀{j},j∈Zxv ds.length->j<vs.size:=λm=>len.symm ▸ Zui.mp m
 refine q s₁.heap.objs.size _ [s₁.heap.objs.size] _ _ _ (Zu k₁ k₂) (VZ.two ZO.handled W' (λi h st=>ZI (st.1.elim λo e=>⟨o,e.1⟩) WX) (λi v hp=>hp.2 ▸ (sp i (len ▸ hp.1)).size)) ⟨⟨_,ZyX _ rfl,rfl,rfl⟩,hL.push _,λj hj=>(sp j (len ▸ hj)).tup.at λo e=>Zw k₂ _ o e⟩
  (ZI ⟨_,ZyX _ rfl⟩ (ZI ⟨_,Zw k₂ _ _ hl⟩ λb hb=>(Zye.mp hb).elim λj q=>q.2 ▸ (sp j (lt q.1)).tup.elim λo e=>⟨o,Zw k₂ _ _ e.1⟩))
  (ZI (Yd (Zw k₁) (YN _)) WX) (λhs=>ZI (.inl (.head _)) (ZI (.inr (qV hs)) λb hb=>(Zye.mp hb).elim λj q=>q.2 ▸ .inr (sp j (lt q.1)).own)) λi vals hp=>hp.elim λw hp=>?_
 obtain⟨d1,d2,oZ,rr⟩:=(sp i (len ▸ hp.1.1)).val
 rw[hp.2,hp.1.2]
 exact⟨_,[d1,d2],oZ,rfl,rr.mono (λb o e p=>⟨p,λm=>nS ((YN s₁.heap).symm.trans (Zx0.mp m ▸ e))⟩) λb o _ e=>Zw k₂ b o e⟩
theorem YV.nB       (hd:∀d∈ds,∃a b,d=.tup [a,b])(h:Ev C k env U iter (.lst ds)):YV C k env U strict (.Tuple [.Name x p1,.Name y p2] kk p) iter ds:=
 YV.O7 hd λA s Q E P ZO hg hh hb q=>h A s Q E P ZO hg hh hb λv s₁ k₁ r₁=>by
  obtain⟨a,vs,n,rfl,pa,e,r⟩:=ZP.mp r₁
  exact q a vs n s₁ k₁ (λ_=>pa) e r
theorem YV.str      (h:Ev C k env U iter (.str t)):YV C k env U strict (.Name x p) iter (t.cps.toList.map λc=>.str ⟨#[c]⟩):=λA s Q E P ZO hg hh hb q=>by
 refine h A s _ E P ZO hg hh hb λv s₁ k₁ r₁=>?_
 obtain⟨tk,rfl⟩:=Zt.mp r₁
 have key:∀(T:String) (o:Obj),o.isFreed=false->(Walks C.prog C.w A s₁.heap.objs.size [s₁.heap.objs.size] [s₁.heap.objs.size] t.cps.size (SignAt t) (λi h=>h.IsStrIter s₁.heap.objs.size T t tk i))->
  (s₁.heap.push o).IsStrIter s₁.heap.objs.size T t tk 0->Q (.ref s₁.heap.objs.size) { s₁ with heap:=s₁.heap.push o }:=λT o of W st=>by
  have k₂:=YL s₁ o
  have len:t.cps.size=(t.cps.toList.map λc=>PV.str ⟨#[c]⟩).length:=by simp
  rw[len] at W
  refine q s₁.heap.objs.size _ [s₁.heap.objs.size] _ _ _ (Zu k₁ k₂) (VZ.one W λi h st b hb=>?_) st (λb hb=>?_) (λb hb=>?_) (λhs b hb=>.inl hb) λi vals hp=>?_
  ·simp at hb;subst hb;obtain⟨o,e,_⟩:=st;exact⟨o,e⟩
  ·simp at hb;subst hb;obtain⟨o,e,_⟩:=st;exact⟨o,e⟩
  ·simp at hb;subst hb;exact Yd (Zw k₁) (YN _)
  ·obtain⟨v,rfl,c,u,hc,rfl⟩:=hp
   exact⟨.str ⟨#[c]⟩,[_],by simp [hc],rfl,Zy.one (Zt.mpr ⟨u,rfl⟩)⟩
 cases ha:t.cps.all (· < 128)
 ·exact wpAny_pyIter_wide ha (key _ _ rfl (Walks.strWide ZO.handled _ t tk) ⟨_,ZyX _ rfl,rfl,rfl⟩)
 ·exact wpAny_pyIter_ascii ha (key _ _ rfl (Walks.strAscii ZO.handled _ t tk) ⟨_,ZyX _ rfl,rfl,rfl⟩)
noncomputable def ZQ(a b:Int):List PV:=(Zxv (b-a).toNat).map λi:Nat=>PV.int (a+(i:Int))
theorem Cp          {P:Zya->Prop}  (ZO:Yw k A)(k₁:ZyA s s₁)(hr:IsRange s₁.heap r a b 1 t u v)
 (ha:-(2 ^ 62)<=a) (yo:a<2 ^ 62) (hb:-(2 ^ 62)<=b) (Ve:b<2 ^ 62)
 (q:∀I fp wr Pt St s',ZyA s s'->VZ C A (.Name x p) I fp wr (ZQ a b).length Pt St->St 0 s'.heap->(∀b∈fp,∃o,s'.heap.get? b=some o)->(∀b∈wr,s.heap.get? b=none)->
  (strict=true->∀b∈fp,b∈wr∨P b)->
  (∀i vals,Pt i vals->∃d ps,(ZQ a b)[i]?=some d/\partsOf (.Name x p) d=some ps/\Zy (λa=>P a/\a∉wr) s'.heap ps vals)->Q (.ref I) s'):wpAny C.M A (pyIter (.ref r)) Q E s₁:=by
 refine wpAny_pyIter_range hr (small_one ha yo hb Ve) ?_
 have k₂:=YL s₁ { cls:=.type "range_iterator",data:=.fields #[rawInt a,rawInt (Zvy a b 1),rawInt 1] }
 have W:=Walks.range (prog:=C.prog) (w:=C.w) (A:=A) ZO.handled s₁.heap.objs.size a 1 (b-a).toNat
 have len:(ZQ a b).length=(b-a).toNat:=by simp [ZQ]
 rw[<-len] at W
 have sz:Zvy a b 1=(((b-a).toNat:Nat):Int):=by rw[rangeSize_one];split<;>lia
 refine q s₁.heap.objs.size _ [s₁.heap.objs.size] _ _ _ (Zu k₁ k₂) (VZ.one (Walks.bound W) λi h st b hb=>?_) ?_ (λb hb=>?_) (λb hb=>?_) (λhs b hb=>.inl hb) λi vals hp=>?_
 ·simp at hb;subst hb;exact⟨_,st⟩
 ·show IsRangeIter _ _ _ _ _
  have e1:a+((0:Nat):Int)*1=a:=by lia
  have e2:((ZQ a b).length:Int)-((0:Nat):Int)=Zvy a b 1:=by rw[sz,len];lia
  rw[e1,e2]
  exact ZyX _ rfl
 ·simp at hb;subst hb;exact⟨_,ZyX _ rfl⟩
 ·simp at hb;subst hb;exact Yd (Zw k₁) (YN _)
 ·obtain⟨w,rfl,hi,t',rfl⟩:=hp
  refine⟨.int (a+i),[_],?_,rfl,Zy.one (Zf.mpr ⟨t',by simp⟩)⟩
  rw[len] at hi
  simp [ZQ,hi]
end
def Goes(C:Cx)(A:Zxd)(strict:Bool)(Zq:Zyc)(ds:List PV)(P:Zya->Prop)(s:Zym)(Q:Zyd->Zym->Prop):Prop:=
 ∀I fp wr Pt St s',ZyA s s'->VZ C A Zq I fp wr ds.length Pt St->St 0 s'.heap->(∀b∈fp,∃o,s'.heap.get? b=some o)->(∀b∈wr,s.heap.get? b=none)->
    (strict=true->∀b∈fp,b∈wr∨P b)->
    (∀i vals,Pt i vals->∃d ps,ds[i]?=some d/\partsOf Zq d=some ps/\Zy (λa=>P a/\a∉wr) s'.heap ps vals)->Q (.ref I) s'
section
variable {C:Cx}{k:Nat}{env:Env}{U:Zx}{s:Zym}
theorem Goes.after        (q:Goes C A strict Zq ds P s Q)(k₁:ZyA s s₁):Goes C A strict Zq ds P s₁ Q:=
 λI fp wr Pt St s' k₂ W st N5 new str hv=>q I fp wr Pt St s' (Zu k₁ k₂) W st N5 (λb m=>Yd (Zw k₁) (new b m)) str hv
theorem YV.call         (hf:Zp env)(b:Ul C env x (.type T))(ha:ZW C k env U args as)
 (h:∀A s Q E P vs,Yw k A->C.G s.heap->XF P s.heap as vs->ZD P s.heap->Goes C A strict Zq ds P s Q->wpAny C.M A (call (.type T) vs) (λv s₁=>wpAny C.M A (pyIter v) Q E s₁) E s)
 (hd:(x==("__debug__":Str))=false:=by decide):YV C k env U strict Zq (.Call (.Name x p) args [] pos) ds:=λA s Q E P hr hg hh hb q=>by
 rw[Xv]
 refine Zyf (name_B hf b hg ?_ hd)
 refine ZwO ha.plain (ha.args hr hg hh hb λvs s₁ k₁ r₁=>?_)
 have x₁:=Zw k₁
 exact h A s₁ _ _ P vs hr (C.ext hg x₁) r₁ (hb.ext x₁) (Goes.after q k₁)
theorem YV.JB      (hf:Zp env)(hB:Ul C env x (.type "range"))(ha:ZW C k env U args [.val (.int b)])(hb:-(2 ^ 62)<=b)(Ve:b<2 ^ 62)
 (hd:(x==("__debug__":Str))=false:=by decide):YV C k env U strict (.Name y py) (.Call (.Name x p) args [] pos) (ZQ 0 b):=
 YV.call hf hB ha (λA s Q E P vs hr hg r al q=>by
  obtain⟨v,rfl,rv⟩:=XG r
  obtain⟨t,rfl⟩:=Vq rv
  refine call_range_1 (Cp (P:=P) (strict:=strict) (s:=s) hr ⟨_,_,rfl,λ_ _ e=>Zyo _ e⟩ (ZyX _ rfl) (by decide) (by decide) hb Ve q)) hd
theorem YV.Cv      (hf:Zp env)(hB:Ul C env x (.type "range"))(ha:ZW C k env U args [.val (.int a),.val (.int b)])(hl:-(2 ^ 62)<=a)(Qz:a<2 ^ 62)(hb:-(2 ^ 62)<=b)(Ve:b<2 ^ 62)
 (hd:(x==("__debug__":Str))=false:=by decide):YV C k env U strict (.Name y py) (.Call (.Name x p) args [] pos) (ZQ a b):=
 YV.call hf hB ha (λA s Q E P vs hr hg r al q=>by
  obtain⟨v,u,rfl,rv,ru⟩:=VE r
  obtain⟨t,rfl⟩:=Vq rv
  obtain⟨t',rfl⟩:=Vq ru
  refine call_range_2 (Cp (P:=P) (strict:=strict) (s:=s) hr ⟨_,_,rfl,λ_ _ e=>Zyo _ e⟩ (ZyX _ rfl) hl Qz hb Ve q)) hd
noncomputable def listOf:AV->Option (List PV)
 |.val (.lst ds)=>some ds
 |.own ds=>some ds
 |_=>none
theorem Ab   {R:Prop}(h:listOf a=some ds)(l:a=.val (.lst ds)->R)(o:a=.own ds->R):R:=by
 cases a with
 |own es=>cases h;exact o rfl
 |tab c es=>exact nS h
 | val d=>cases d with
   |lst es=>cases h;exact l rfl
   |_=>exact nS h
theorem Vl   {a:AV}   (ha:listOf a=some ds)(r:YD P h a v):∃b vs n,v=.ref b/\(a=.val (.lst ds)->P b)/\h.get? b=some { cls:=.type "list",data:=.seq vs n }/\Zy P h ds vs.toList:=
 Ab ha (λe=>(ZP.mp (show Rep P h (.lst ds) v from (e ▸ r:YD P h (.val (.lst ds)) v))).imp λb=>ZyK λvs=>ZyK λn z=>⟨z.1,λ_=>z.2.1,z.2.2.1,z.2.2.2⟩)
  λe=>ZyK (λb=>ZyK λvs=>ZyK λn z=>⟨z.1,(λh=>AV.noConfusion (e.symm.trans h)),z.2.1,z.2.2⟩) (e ▸ r:YD P h (.own ds) v)
noncomputable def Qv(a b:List PV):List PV:=List.zipWith (λx y=>.tup [x,y]) a b
theorem Ej  (h1:@LT.lt Nat _ l1 n)(h2:@LT.lt Nat _ l2 n):ZipApart (n+4) (n+2) (n+3) n (n+1) l1 l2:=
 have c:∀i j:Nat,i≠j->n+i≠n+j:=λ_ _ h e=>h (Nat.add_left_cancel e)
 have u:∀(i:Nat) {l:Nat},l<n->l≠n+i:=λi l h e=>ZuJ (ZyR n i) (Zxo (Zxc e.symm) h)
 ⟨c 2 4 (by decide),c 3 4 (by decide),c 0 4 (by decide),c 1 4 (by decide),c 2 3 (by decide),c 2 0 (by decide),c 2 1 (by decide),c 3 0 (by decide),c 3 1 (by decide),c 0 1 (by decide),u 4 h1,u 3 h1,u 0 h1,u 1 h1,u 4 h2,u 3 h2,u 0 h2,u 1 h2⟩
theorem YV.zip        (hf:Zp env)(hB:Ul C env x (.type "zip"))(ha:ZW C k env U args [a,b])(od:listOf a=some da)(og:listOf b=some db)
 (Y6:strict=true->a=.val (.lst da)/\b=.val (.lst db)) (hd:(x==("__debug__":Str))=false:=by decide):YV C k env U strict (.Tuple [.Name y p1,.Name z p2] kk pt) (.Call (.Name x p) args [] pos) (Qv da db):=
 YV.call hf hB ha (λA s Q E P vs hr hg r al q=>by
  obtain⟨v,u,rfl,rv,ru⟩:=VE r
  obtain⟨l1,xs,n1,rfl,pz,g1,r1⟩:=Vl od rv
  obtain⟨l2,ys,n2,rfl,eO,g2,r2⟩:=Vl og ru
  have h1:l1<s.heap.objs.size:=Zxf g1
  have h2:l2<s.heap.objs.size:=Zxf g2
  refine call_zip_2 (Yu g1) (Yu g2) λh' hz aR aS aN BS Yh hk=>?_
  refine wpAny_pyIter_zip hz ?_
  have W:=(WalksT.zip2 (prog:=C.prog) (w:=C.w) (A:=A) hr.handled _ _ _ _ _ _ _ (Ej h1 h2) xs ys).toU.bound
  have Ka:xs.size=da.length:=by have:=r1.length;simpa using this
  have UL:ys.size=db.length:=by have:=r2.length;simpa using this
  have len:min xs.size ys.size=(Qv da db).length:=by simp [Qv,Ka,UL]
  rw[len] at W
  have new:∀b∈[s.heap.objs.size+4,s.heap.objs.size+3,s.heap.objs.size,s.heap.objs.size+1],s.heap.get? b=none:=ZI (W6 (ZyR _ 4)) (ZI (W6 (ZyR _ 3)) (ZI (W6 (Zy7 _)) (ZI (W6 (ZyR _ 1)) WX)))
  refine q _ _ _ _ _ { s with heap:=h' } ⟨h',s.toks,rfl,hk⟩ (VZ.two hr.handled W (λi h st=>?_) (λi vals hp=>hp.elim λ_ q=>q.elim λx q=>q.elim λy q=>q.2.2 ▸ rfl)) ⟨hz,aR,⟨_,_,aS⟩,aN,BS,(Yu g1).at λo e=>hk _ _ e,(Yu g2).at λo e=>hk _ _ e⟩
   (ZI ⟨_,hz⟩ (ZI ⟨_,aR⟩ (ZI ⟨_,aS⟩ (ZI (aN.elim λo e=>⟨o,e.1⟩) (ZI (BS.elim λo e=>⟨o,e.1⟩) (ZI ⟨_,hk _ _ g1⟩ (ZI ⟨_,hk _ _ g2⟩ WX)))))))
   new (λhs=>?_) λi vals hp=>?_
  ·exact ZI ⟨_,st.1⟩ (ZI (st.2.2.1.elim λ_ q=>q.elim λ_ e=>⟨_,e⟩) (ZI (st.2.2.2.1.elim λo e=>⟨o,e.1⟩) (ZI (st.2.2.2.2.1.elim λo e=>⟨o,e.1⟩) WX)))
  ·obtain⟨ea,eb⟩:=Y6 hs
   exact ZI (.inl (.head _)) (ZI (.inr (ZyO λnp=>(al _ np).elim λo e=>nS ((W6 (ZyR _ 2)).symm.trans e))) (ZI (.inl (.tail _ (.head _))) (ZI (.inl (.tail _ (.tail _ (.head _)))) (ZI (.inl (.tail _ (.tail _ (.tail _ (.head _))))) (ZI (.inr (pz ea)) (ZI (.inr (eO eb)) WX))))))
  ·obtain⟨w,⟨hi,x,y,hx,hy,rfl⟩,rfl⟩:=hp
   obtain⟨d1,e1,rI⟩:=KV r1 hk new hx
   obtain⟨d2,e2,rK⟩:=KV r2 hk new hy
   exact⟨.tup [d1,d2],[d1,d2],by simp [Qv,List.getElem?_zipWith,e1,e2],rfl,Zy.cons rI (Zy.one rK)⟩) hd
end
structure YO(C:Cx)(f:Zya)(fd:ZxI)(body:List ZyF):Prop where
 obj:∀h,C.G h->∃o,h.get? f=some o/\o.data=.func fd
 code:∀h,C.G h->h.CodeRec fd.code fd.qualname
 globals:fd.globals=mainGlobals
 builtins:fd.builtins=builtinsNs
 closure:fd.closure=[]
 body:fd.body=.stmts body
 co:fd.scope.isCoroutine=false
 gen:fd.scope.isGenerator=false
 kind:fd.scope.kind=.function
 cell:∀x∈fd.scope.names,x.2=.cell->fd.scope.names.lookup x.1=some .cell
structure G6(F:Y7)(fd:ZxI):Prop where
 scope:F.env.scope=fd.scope
 cs:F.cs=ZY fd.scope.names
 Z6:Zp F.env
section
variable {C:Cx}{k:Nat}{F:Y7}{N M:Zya->Prop}{U σ₁ σ₂:Zx}{s s' s₁:Zym}{af:Z9}{h h':Zyp}{env:Env}
theorem yq(hf:F.env.scope.kind=.function)   (f:Str × Zyd->PUnit->Sem (ForInStep PUnit))(qL:∀n v u,f (n,v) u=(do storeName F.env n v;pure (.yield ⟨⟩))) :
 ∀{ds:List PV}{vals:List Zyd}{U:Zx}{s:Zym}{Q:PUnit->Zym->Prop},(∀x∈xs,Yc F.env F.cs x)->xs.length=ds.length->Inv C F N M U s.heap->Zy (F.out M) s.heap ds vals->
 (∀s',Inv C F N M (Zi U xs ds) s'.heap->Z5 N M s M s'->Q ⟨⟩ s')->wpAny C.M A (forIn (xs.zip vals) ⟨⟩ f) Q E s:=by
 induction xs with
 | nil=>
   intro ds vals U s Q _ hl I r q
   rw[List.zip_nil_left,Zvd]
   cases ds with
   |nil=>exact Zys (q s I .refl)
   |cons _ _=>cases hl
 | cons x xs ih=>
   intro ds vals U s Q hx hl I r q
   cases ds with
   |nil=>cases hl
   | cons d ds=>
     refine Zxm r λv t=>t.elim λvs t=>?_
     rw[t.1,List.zip_cons_cons,Zwz,qL]
     exact Zyf (Zyf (Qa hf (hx x (.head _)) I t.2.1 t.2.2 λs₁ I₁ UQ r₂=>Zys (ih (λy hy=>hx y (.tail _ hy)) (ZvE hl) I₁ r₂ λs' I' Iq=>q s' I' (UQ.trans Iq))))
theorem gH    (hL:env.locals=h.objs.size)(hc:env.cells=Zx4 (h.objs.size+1) env.scope.names [])(K2:∀x∈env.scope.names,x.2=.cell->env.scope.names.lookup x.1=some .cell)(hg:C.G h)(hb:ZD P h):
 Inv C ⟨env,h,P,ZY env.scope.names⟩ (λ_=>False) (λb=>b=h.objs.size∨∃x,(Zx4 (h.objs.size+1) env.scope.names []).lookup x=some b) (λ_=>none) (CN "frame" h env.scope.names) where
 Q9:=hg
 live:=hb
 ext:=KW
 fresh:=λb m=>m.elim (λe=>e ▸ YN _) λm=>m.elim λx e=>(Vn (cls:="frame") e).1
 alive:=λb m=>m.elim (λe=>e ▸ Di Bb) λm=>m.elim λx e=>(Vn e).2.2.1.imp λo t=>t.1
 Un:=.inl hL
 V7:=λn=>n
 pin:=λa n=>n.elim
 ns:=⟨_,hL ▸ Bb⟩
 cell:=λx hx=>⟨K2 _ (V0.mp hx) rfl,(Ds hx).elim λc e=>⟨c,none,hc ▸ e,(Vn e).2.2.1,.inr ⟨x,e⟩,λn=>n⟩⟩
 apart:=λx y c hx e1 e2=>MS (hc ▸ e1) (hc ▸ e2)
 outer:=λy c e=>.inl (Vn (cls:="frame") (hc ▸ e)).2.2.2
 val:=λx d e=>nS e
 own:=⟨λ_=>[],λx a e=>nS e,λx y a b c e=>nS e⟩
theorem Ls      {code:Zyd}
 (hk:scope.kind=.function) (K2:∀x∈scope.names,x.2=.cell->scope.names.lookup x.1=some .cell) (hx:∀x∈xs,scope.names.lookup x=some .local∨x∈ZY scope.names) (hl:xs.length=ds.length)
 (hg:C.G s.heap) (hb:ZD P s.heap) (r:Zy P s.heap ds vals)
 (q:∀F M s',F.env.scope=scope->F.env.globals=mainGlobals->F.env.builtins=builtinsNs->F.cs=ZY scope.names->F.P=P->F.base=s.heap->(∀y c,F.env.cells.lookup y=some c->y∈F.cs)->Inv C F (λ_=>False) M (Zi (λ_=>none) xs ds) s'.heap->Z5 (λ_=>False) (λ_=>False) s M s'->Q F.env s'):
 wpAny C.M A (newFunctionEnv scope mainGlobals [] (xs.zip vals) qual (some f) code none builtinsNs) Q E s:=by
 simp only[newFunctionEnv,Option.isSome_none,Zwm,if_false]
 refine Zyf (wpAny_alloc ?_)
 refine Zyf (wpAny_layCells _ (λname kind cells=>by cases qD:kind==Zvx<;>simp [qD]) _ _ _ _ ?_)
 rw[show ({ s with heap:=s.heap.push { cls:=.type "frame",data:=.dict #[] } }:Zym).heap.objs.size=s.heap.objs.size+1 from Zw9 ..]
 have I:=gH (C:=C) (env:={ scope:=scope,locals:=s.heap.objs.size,globals:=mainGlobals,cells:=Zx4 (s.heap.objs.size+1) scope.names [],qual:=qual,func:=some f,code:=code,frame:=some s.heap.objs.size,builtins:=builtinsNs }) rfl rfl K2 hg hb
 refine Zyf (yq (C:=C) (N:=λ_=>False) (U:=λ_=>none) hk _ (λ_ _ _=>rfl) ?_ hl I (r.mono (λb o e p=>⟨p,λm=>nS ((I.fresh b m).symm.trans e)⟩) λb o _ e=>KW b o e) λs' I' Iq=>Zys
  (q _ _ s' rfl rfl rfl rfl rfl rfl (λy c e=>(Vn (cls:="frame") e).2.2.2) I' ⟨Xg.trans ⟨_,s.toks,rfl⟩ Iq.same,λb o _ e=>Iq.kept b o (.inl λm=>nS ((I.fresh b m).symm.trans e)) (KW b o e),λb m=>.inr (I.fresh b m)⟩))
 exact λx q8=>hx x q8
theorem Yw.deeper   (hr:Yw (k+1) A):Yw k (A.deeper env):=⟨hr.handled,by have:=hr.depth;simp [Around.deeper];lia,by have:=hr.units;simp;lia⟩
theorem IS  (hr:Yw (k+1) A):A.depth<recursionLimit:=Zxo (ZyR _ _) hr.depth
noncomputable def jv:Flow->Zyd
 |.ret v=>v
 |.next=>.none
 |.brk=>.none
 |.cont=>.none
theorem given    {Q:Zyd->Zym->Prop}  (DK:af=.ret d∨(af=.Z4/\d=.none))(XY:UN B h af fl)(q:∀v,Rep (λa=>B.get? a=none) h d v->Q v s'):Q (jv fl) s':=by
 cases DK with
 |inl e=>cases e;cases fl<;>first |exact XY.elim |exact q _ XY
 |inr e=>cases e.1;cases e.2;cases fl<;>first |exact XY.elim |exact q _ rfl
theorem gS  {Q:Zyd->Zym->Prop}  (h:Q (jv fl) s'):Q (match (generalizing:=false) fl with |.ret v=>v |_=>.none) s':=by cases fl<;>exact h
theorem Z5.keeps(h:Z5 (λ_=>False) (λ_=>False) s M s'):ZyA s s':=Xg.keeps h.same λb o e=>h.kept b o (.inl id) e
section
variable {A:Zxd}{E:Zyd->Zym->Prop}{Q:Zyd->Zym->Prop}{P:Zya->Prop}{f:Zya}{fd:ZxI}{body:List ZyF}{xs:List Str}{vals ws:List Zyd}{ks:List (Str × Zyd)}{ds:List PV}{d:PV}
theorem YO.enter(D:YO C f fd body)(hx:∀x∈xs,fd.scope.names.lookup x=some .local∨x∈ZY fd.scope.names)(hl:xs.length=ds.length)(hd:A.depth<recursionLimit)(hg:C.G s.heap)(hb:ZD P s.heap)(r:Zy P s.heap ds ws)(K3:ZxL s fd ⟨vals,ks⟩ (xs.zip ws))
 (q:∀F M s₁ E',G6 F fd->F.P=P->F.base=s.heap->(∀y c,F.env.cells.lookup y=some c->y∈F.cs)->Inv C F (λ_=>False) M (Zi (λ_=>none) xs ds) s₁.heap->Z5 (λ_=>False) (λ_=>False) s M s₁->wpAny C.M (A.deeper F.env) (execs body F.env) (λfl s'=>Q (jv fl) s') E' s₁):
 wpAny C.M A (call (.ref f) vals ks) Q E s:=
 (D.obj _ hg).elim λo t=>wpAny_call (codeAny_call_function hd t.1 t.2 D.co D.gen D.body (D.code _ hg) (K3 _ _ _ _ (by
  rw[D.globals,D.closure,D.builtins]
  exact Ls D.kind D.cell hx hl hg hb r λF M s₁ h1 h2 h3 h4 h5 h6 h7 I ok=>⟨I.G.nolimit,codeAny_func (ZyB (q F M s₁ _ ⟨h1,h4,⟨h1 ▸ D.kind,h2,h3⟩⟩ h5 h6 h7 I ok) (λfl s' h=>gS h) λ_ _ e=>e)⟩)))
theorem YO.gives(D:YO C f fd body)(hx:∀x∈xs,fd.scope.names.lookup x=some .local∨x∈ZY fd.scope.names)(hl:xs.length=ds.length)(hr:Yw (k+1) A)(hg:C.G s.heap)(hb:ZD P s.heap)(r:Zy (λ_=>True) s.heap ds ws)(K3:ZxL s fd ⟨vals,ks⟩ (xs.zip ws))
 (DK:af=.ret d∨(af=.Z4/\d=.none)) (hex:∀F,G6 F fd->∃σ',Ex C k F (Zi (λ_=>none) xs ds) (execs body F.env) af σ') (q:∀v s',ZyA s s'->Rep P s'.heap d v->Q v s'):wpAny C.M A (call (.ref f) vals ks) Q E s:=
 D.enter hx hl (IS hr) hg (λ_ n=>absurd trivial n) r K3 λF M s₁ E' FF _ h5 _ I ok=>(hex F FF).elim λσ' ex=>ex (λ_=>False) M _ s₁ _ _ hr.deeper I λfl M' s' XY I' Iq=>
  given DK (h5 ▸ XY) λv r'=>q v s' (ok.trans Iq).keeps (r'.mono (λa o _ e=>ZyO λnp=>(hb a np).elim λo' e'=>nS (e.symm.trans e')) λ_ _ _ e=>e)
end
theorem ZM.NH        (D:YO C f fd body)(hx:∀x∈xs,fd.scope.names.lookup x=some .local∨x∈ZY fd.scope.names)(hl:xs.length=as.length)
 (K3:∀s vals,C.G s.heap->vals.length=xs.length->ZxL s fd ⟨vals,[]⟩ (xs.zip vals)) (DK:af=.ret d∨(af=.Z4/\d=.none))
 (hex:∀F,G6 F fd->Ex C k F (Zi (λ_=>none) xs (as.map AV.pv)) (execs body F.env) af σ'):ZM C (k+1) (.ref f) as d:=λA s Q E P vs hr hg r hb q=>
 D.gives hx (hl.trans (Zyl _).symm) hr hg hb r.Nb (K3 s vs hg (r.Nb.length.trans ((Zyl _).trans hl.symm))) DK (λF FF=>⟨σ',hex F FF⟩) q
end
section
variable {C:Cx}{k:Nat}{F:Y7}{N M:Zya->Prop}{U σ₁ σ₂:Zx}{s s' s₁:Zym}{af:Z9}{h h':Zyp}
theorem Ex.j8       (hf:Zp F.env)(hx:∀x∈xs,Yc F.env F.cs x)(h0:0<xs.length)(h3:xs.length<=3)(hl:xs.length=ds.length)(h:Ev C k F.env U e (.tup ds))
 (hn:(assignEach elts F.env).length=xs.length) (AO:(assignEach elts F.env).findIdx? (·.1)=none)
 (Y6:∀A Q E vals s,Stores C A F.env Q E xs vals s->wpAny C.M A (assignInOrder ((assignEach elts F.env).map (·.2)) vals) Q E s)
 (hs:swapsWithSole [.Tuple elts n WS] e pos.line F.env=pure false) (hw:ZxV [.Tuple elts n WS] e F.env=pure none):
 Ex C k F U (exec (.Assign [.Tuple elts n WS] e pos) F.env) .Z4 (Zi U xs ds):=λN M A s Q E hr I q=>by
 refine Assign_Tuple (h A s _ _ _ hr I.G I.has I.YB λv s₁ k₁ r₁=>?_) hs hw
 obtain⟨T,vs,m,rfl,_,e0,rr⟩:=Yt.mp r₁
 have len:vs.size=ds.length:=by have:=rr.length;simpa using this
 refine wpAny_assign_Tuple hr.handled (Xa e0) (by rw[hn,hl,len]) AO λh' Ie=>Y6 _ _ _ _ _ ?_
 have k₂:ZyA s₁ { s₁ with heap:=h' }:=⟨h',s₁.toks,rfl,λb o e=>Ie b o (Zwd (Zxf e)) e⟩
 exact Jm hf.kind hx hl h0 h3 ((I.of_keeps k₁).of_keeps k₂) (rr.ext (Zw k₂)) λs' I' ok=>q _ M s' trivial I' ((ok.after k₂).after k₁)
theorem RA         (h:Stores C A env Q E [x,y] vals s):
 wpAny C.M A (assignInOrder ((assignEach [.Name x p1,.Name y p2] env).map (·.2)) vals) Q E s:=by
 rcases vals with _ |⟨v,_ |⟨u,_ |⟨_,_⟩⟩⟩
 ·exact h.elim
 ·exact h.elim
 ·show wpAny _ A (do holding [u] (ZwX (.Name x p1) env v);do holding [] (ZwX (.Name y p2) env u);pure ()) _ _ _
  exact Zyf (ZyP (wpAny_assign_Name (ZyB h (λ_ s₁ h₁=>Zyf (ZyP (wpAny_assign_Name (ZyB h₁ (λ_ _ q=>Zys q) λ_ _ e=>e)))) λ_ _ e=>e)))
 ·exact h.elim
theorem i5         (h:Stores C A env Q E [x,y,z] vals s):
 wpAny C.M A (assignInOrder ((assignEach [.Name x p1,.Name y p2,.Name z p3] env).map (·.2)) vals) Q E s:=by
 rcases vals with _ |⟨v,_ |⟨u,_ |⟨t,_ |⟨_,_⟩⟩⟩⟩
 ·exact h.elim
 ·exact h.elim
 ·exact h.elim
 ·show wpAny _ A (do holding [u,t] (ZwX (.Name x p1) env v);do holding [t] (ZwX (.Name y p2) env u);do holding [] (ZwX (.Name z p3) env t);pure ()) _ _ _
  exact Zyf (ZyP (wpAny_assign_Name (ZyB h (λ_ s₁ h₁=>Zyf (ZyP (wpAny_assign_Name (ZyB h₁ (λ_ s₂ h₂=>
   Zyf (ZyP (wpAny_assign_Name (ZyB h₂ (λ_ _ q=>Zys q) λ_ _ e=>e)))) λ_ _ e=>e)))) λ_ _ e=>e)))
 ·exact h.elim
theorem Ex.Tu     {d1 d2:PV}(hf:Zp F.env)(hx:Yc F.env F.cs x)(hy:Yc F.env F.cs y)(h:Ev C k F.env U e (.tup [d1,d2]))
 (hs:swapsWithSole [.Tuple [.Name x p1,.Name y p2] n WS] e pos.line F.env=pure false) (hw:ZxV [.Tuple [.Name x p1,.Name y p2] n WS] e F.env=pure none):
 Ex C k F U (exec (.Assign [.Tuple [.Name x p1,.Name y p2] n WS] e pos) F.env) .Z4 ((U.set x (.val d1)).set y (.val d2)):=
 Ex.j8 (xs:=[x,y]) (ds:=[d1,d2]) hf (λz hz=>by simp at hz;rcases hz with rfl |rfl<;>assumption) (by simp) (by simp) rfl h rfl rfl (λA Q E vals s=>RA) hs hw
theorem Ex.nT     {d1 d2 d3:PV}(hf:Zp F.env)(hx:Yc F.env F.cs x)(hy:Yc F.env F.cs y)(hz:Yc F.env F.cs z)(h:Ev C k F.env U e (.tup [d1,d2,d3]))
 (hs:swapsWithSole [.Tuple [.Name x p1,.Name y p2,.Name z p3] n WS] e pos.line F.env=pure false) (hw:ZxV [.Tuple [.Name x p1,.Name y p2,.Name z p3] n WS] e F.env=pure none):
 Ex C k F U (exec (.Assign [.Tuple [.Name x p1,.Name y p2,.Name z p3] n WS] e pos) F.env) .Z4 (((U.set x (.val d1)).set y (.val d2)).set z (.val d3)):=
 Ex.j8 (xs:=[x,y,z]) (ds:=[d1,d2,d3]) hf (λw hw=>by simp at hw;rcases hw with rfl |rfl |rfl<;>assumption) (by simp) (by simp) rfl h rfl rfl (λA Q E vals s=>i5) hs hw
theorem QL    (hn:x≠y):(U.set y b).set x a=(U.set x a).set y b:=by
 funext z;simp only[Zx.set]
 by_cases e:z=x
 ·rw[if_pos e];by_cases e':z=y
  ·exact absurd (e.symm.trans e') hn
  ·rw[if_neg e',if_pos e]
 ·rw[if_neg e];by_cases e':z=y
  ·rw[if_pos e',if_pos e']
  ·rw[if_neg e',if_neg e',if_neg e]
theorem Ex.tupS       (hf:Zp F.env)(hx:∀x∈xs,Yc F.env F.cs x)(h0:0<xs.length)(h3:xs.length<=3)(hl:xs.length=ds.length)(h:Ev C k F.env U e (.tup ds))
 (Y6:∀A Q E vals s,Stores C A F.env Q E xs.reverse vals s->wpAny C.M A (assignInOrder (xs.reverse.map λn=>bindName F.env n) vals) Q E s)
 (hs:swapsWithSole [.Tuple elts n WS] e pos.line F.env=pure false) (hw:ZxV [.Tuple elts n WS] e F.env=pure (some xs)):
 Ex C k F U (exec (.Assign [.Tuple elts n WS] e pos) F.env) .Z4 (Zi U xs.reverse ds.reverse):=λN M A s Q E hr I q=>by
 refine Zqa (h A s _ _ _ hr I.G I.has I.YB λv s₁ k₁ r₁=>?_) hs hw
 obtain⟨T,vs,m,rfl,_,e0,rr⟩:=Yt.mp r₁
 have len:vs.size=ds.length:=by have:=rr.length;simpa using this
 rw[show xs.length=vs.size by rw[hl,len]]
 refine wpAny_unpackItems_tuple hr.handled (Xa e0) λh' Ie=>Y6 _ _ _ _ _ ?_
 have k₂:ZyA s₁ { s₁ with heap:=h' }:=⟨h',s₁.toks,rfl,λb o e=>Ie b o (Zwd (Zxf e)) e⟩
 have rev:∀{ds:List PV}{vs:List Zyd},Zy (F.out M) h' ds vs->Zy (F.out M) h' ds.reverse vs.reverse:=λ{ds}=>by
  induction ds with
  |nil=>intro vs r;cases (r:vs=[]);exact Zy.nil
  | cons d ds ih=>
    intro vs r
    obtain⟨v,w,rfl,r1,r2⟩:=r
    rw[ZqH,ZqH]
    exact (ih r2).append (Zy.one r1)
 exact Jm hf.kind (λx q8=>hx x (by simpa using q8)) (by simpa using hl) (by simpa using h0) (by simpa using h3) ((I.of_keeps k₁).of_keeps k₂) (rev (rr.ext (Zw k₂))) λs' I' ok=>q _ M s' trivial I' ((ok.after k₂).after k₁)
theorem Ha        (h:Stores C A env Q E [x,y] vals s):
 wpAny C.M A (assignInOrder ([x,y].map λn=>bindName env n) vals) Q E s:=by
 rcases vals with _ |⟨v,_ |⟨u,_ |⟨_,_⟩⟩⟩
 ·exact h.elim
 ·exact h.elim
 ·show wpAny _ A (do holding [u] (bindName env x v);do holding [] (bindName env y u);pure ()) _ _ _
  exact Zyf (ZyP (wpAny_bindName (ZyB h (λ_ s₁ h₁=>Zyf (ZyP (wpAny_bindName (ZyB h₁ (λ_ _ q=>Zys q) λ_ _ e=>e)))) λ_ _ e=>e)))
 ·exact h.elim
theorem vz        (h:Stores C A env Q E [x,y,z] vals s):
 wpAny C.M A (assignInOrder ([x,y,z].map λn=>bindName env n) vals) Q E s:=by
 rcases vals with _ |⟨v,_ |⟨u,_ |⟨t,_ |⟨_,_⟩⟩⟩⟩
 ·exact h.elim
 ·exact h.elim
 ·exact h.elim
 ·show wpAny _ A (do holding [u,t] (bindName env x v);do holding [t] (bindName env y u);do holding [] (bindName env z t);pure ()) _ _ _
  exact Zyf (ZyP (wpAny_bindName (ZyB h (λ_ s₁ h₁=>Zyf (ZyP (wpAny_bindName (ZyB h₁ (λ_ s₂ h₂=>
   Zyf (ZyP (wpAny_bindName (ZyB h₂ (λ_ _ q=>Zys q) λ_ _ e=>e)))) λ_ _ e=>e)))) λ_ _ e=>e)))
 ·exact h.elim
theorem Ex.dg     {d1 d2:PV}(hf:Zp F.env)(hx:Yc F.env F.cs x)(hy:Yc F.env F.cs y)(hn:x≠y)(h:Ev C k F.env U e (.tup [d1,d2]))
 (hs:swapsWithSole [.Tuple [.Name x p1,.Name y p2] n WS] e pos.line F.env=pure false) (hw:ZxV [.Tuple [.Name x p1,.Name y p2] n WS] e F.env=pure (some [x,y])):
 Ex C k F U (exec (.Assign [.Tuple [.Name x p1,.Name y p2] n WS] e pos) F.env) .Z4 ((U.set x (.val d1)).set y (.val d2)):=by
 have:=Ex.tupS (elts:=[.Name x p1,.Name y p2]) (xs:=[x,y]) (ds:=[d1,d2]) hf (λz hz=>by simp at hz;rcases hz with rfl |rfl<;>assumption) (by simp) (by simp) rfl h (λA Q E vals s=>Ha) hs hw
 rw[<-QL hn];exact this
theorem Ex.di     {d1 d2 d3:PV}(hf:Zp F.env)(hx:Yc F.env F.cs x)(hy:Yc F.env F.cs y)(hz:Yc F.env F.cs z)(hn:x≠y)(yl:x≠z)(pP:y≠z)(h:Ev C k F.env U e (.tup [d1,d2,d3]))
 (hs:swapsWithSole [.Tuple [.Name x p1,.Name y p2,.Name z p3] n WS] e pos.line F.env=pure false) (hw:ZxV [.Tuple [.Name x p1,.Name y p2,.Name z p3] n WS] e F.env=pure (some [x,y,z])):
 Ex C k F U (exec (.Assign [.Tuple [.Name x p1,.Name y p2,.Name z p3] n WS] e pos) F.env) .Z4 (((U.set x (.val d1)).set y (.val d2)).set z (.val d3)):=by
 have:=Ex.tupS (elts:=[.Name x p1,.Name y p2,.Name z p3]) (xs:=[x,y,z]) (ds:=[d1,d2,d3]) hf (λw hw=>by simp at hw;rcases hw with rfl |rfl |rfl<;>assumption) (by simp) (by simp) rfl h (λA Q E vals s=>vz) hs hw
 have e:((U.set x (.val d1)).set y (.val d2)).set z (.val d3)=((U.set z (.val d3)).set y (.val d2)).set x (.val d1):=by
  rw[QL hn,QL yl,QL pP]
 rw[e];exact this
theorem A0{vs:Array Zyd}  (hm:m<vs.size):vs.toList.eraseIdx m=(vs.eraseIdxIfInBounds m).toList:=by simp [Array.eraseIdxIfInBounds,hm]
theorem Ex.del{x:Str}      (hf:Zp F.env)(hx:U x=some (.own ds))(h:Ev C k F.env U i (.int j))(hj:seqIndex? j ds.length=some m)(oy:m<ds.length)(tV:Zwb j=true)(Yh:ds.length<=Zyk)
 (hn:(x==("__classdict__":Str))=false) (hd:(x==("__debug__":Str))=false):
 Ex C k F U (exec (.Delete [.Subscript (.Name x p) i ZzW] pos) F.env) .Z4 (U.set x (.own (ds.eraseIdx m))):=λN M A s Q E hr I q=>by
 refine JA I hx λow a vs n f g e1 l e0 r len=>?_
 refine wpAny_Delete (wpAny_deleteEach_cons (wpAny_delete_Subscript (wpAny_Name (Xc hf.kind l hn ?_) hd)))
 refine h A s _ _ _ hr I.G I.has I.YB λiv s₁ k₁ r₁=>?_
 refine (Zf.mp r₁).elim λt z=>z ▸ ?_
 have x₁:=Zw k₁
 refine wpAny_delItem_plain ⟨n,x₁ _ _ e0⟩ tV (len ▸ hj) (λh' Qz Q6=>wpAny_deleteEach_nil ?_) (len ▸ Yh)
 have m:=(I.keeps x₁).Jp (Ic:=ds.eraseIdx m) (.of_keeps k₁) hx (f.keeps x₁) g (l.ext x₁) e1 Q6 Qz ((congrArg (Zy _ _ _) (A0 (len ▸ oy))).mp (r.ext x₁).erase)
 exact q _ M _ trivial m.1 m.2
end
end Mine.Internal
end
section
open PySem PySem.W PyProof.Rows
open Sem (wp)
open PySem.SeqAt
namespace Mine.Internal
mutual
/-- < on plain data of one make -/
noncomputable def Ju:PV->PV->Bool
 |.int a,.int b=>decide (a<b)
 |.str a,.str b=>decide (a.cps.toList<b.cps.toList)
 |.tup l,.tup m=>DL l m
 |_,_=>false
noncomputable def DL:List PV->List PV->Bool
 |a::l,b::m=>if eqv a b then DL l m else Ju a b
 |[],_::_=>true
 |_,_=>false
end
noncomputable def NW:PV->PV->Bool
 |.int _,.int _=>true
 |.str _,.str _=>true
 |_,_=>false
noncomputable def U8:List PV->List PV->Bool
 |a::l,b::m=>NW a b&&U8 l m
 |_,_=>true
theorem Bn  {R:Prop}(h:NW a b=true)(i:∀x y,a=.int x->b=.int y->R)(s:∀x y,a=.str x->b=.str y->R):R:=by
 cases a<;>first |exact Yr h |(cases b<;>first |exact Yr h |exact i _ _ rfl rfl |exact s _ _ rfl rfl)
def FO(A:Zxd)(s:Zym)(y x:Zyd)(b:Bool):Prop:=
 ∀(prog:Zuj) (w:Zyh) (E:Zyd->Zym->Prop) (Q:Zyd->Zym->Prop),Q (.bool b) s->wpAny (model prog w) A (richCompare .Lt y x) Q E s
noncomputable def Wc(e:Nat->Bool)(r:Nat->Bool)(dflt:Bool):List Nat->Bool
 |[]=>dflt
 |i::l=>if e i then Wc e r dflt l else r i
theorem Qm    :Wc e r d (i::l)=if e i then Wc e r d l else r i:=rfl
theorem Sl(l b:Zya)(items Ye:Array Zyd)(n n2:Nat)(dd jq:Option Zya)(sl qu:Array (Option Zyd))(e r:Nat->Bool):
 Meets (ZuW.«tuple.__lt__» ⟨[.ref l,.ref b],[]⟩)
  (λA R s=>s.heap.get? l=some { cls:=.type "tuple",dict:=dd,data:=.seq items n,slots:=sl }/\s.heap.get? b=some { cls:=.type "tuple",dict:=jq,data:=.seq Ye n2,slots:=qu }/\
   (∀j (h1:j<items.size) (h2:j<Ye.size),EqAt A.in1 s items[j] Ye[j] (e j))/\(∀j (h1:j<items.size) (h2:j<Ye.size),e j=false->FO A.in1 s items[j] Ye[j] (r j))/\
   R (.ok (.ret (.bool (Wc e r (decide (items.size<Ye.size)) (Zxv (min items.size Ye.size)))))) s):=
 .of_wp λprog w A R s h=>by
  obtain⟨hp,g,d,tk,os⟩:=s;obtain⟨hl,hb,he,t9,h⟩:=h
  have f2:=AutoSeq1.sub_tuple_tuple
  have hZ:(items.toList.zip Ye.toList).length=min items.size Ye.size:=by simp
  wp_walk using wpAny_loadPart' hl,wpAny_loadPart' hb,wpAny_forIn_list _ (λrest b s'=>b.1=none/\s'=⟨hp,g,d,tk,os⟩/\∃i,rest=(items.toList.zip Ye.toList).drop i/\
   R (.ok (.ret (.bool (Wc e r (decide (items.size<Ye.size)) ((Zxv (min items.size Ye.size)).drop i))))) ⟨hp,g,d,tk,os⟩) _
  case turn=>
   rintro⟨y,x⟩ rest b s' ⟨Ve,rfl,i,hz,hR⟩
   have Xz:i<(items.toList.zip Ye.toList).length:=by
    rcases Nat.lt_or_ge i (items.toList.zip Ye.toList).length with h' |h'
    ·exact h'
    ·rw[ZuP h'] at hz;cases hz
   have hm:i<min items.size Ye.size:=hZ ▸ Xz
   have h1:i<items.size:=ZxM hm (Zwp _ _)
   have h2:i<Ye.size:=ZxM hm (ZvN _ _)
   rw[ZwN Xz] at hz
   injection hz with LX Qk
   have hy:y=items[i]:=by have:=congrArg Prod.fst LX;simpa using this
   have hx:x=Ye[i]:=by have:=congrArg Prod.snd LX;simpa using this
   subst hy hx
   have hd:(Zxv (min items.size Ye.size)).drop i=i::(Zxv (min items.size Ye.size)).drop (i+1):=by simp [ZwN,hm]
   rw[hd,Qm] at hR
   refine Zyf (he i h1 h2 prog w _ _ ?_)
   cases hy:e i with
   | true=>
     rw[hy] at hR
     wp_walk
     exact⟨rfl,rfl,i+1,Qk,by simpa using hR⟩
   | false=>
     rw[hy] at hR
     simp only[ZjZ,if_true]
     refine Zyf (wpAny_rule (Zyf (t9 i h1 h2 hy prog w _ _ ?_)))
     wp_walk
     exact⟨_,rfl,by simpa using hR⟩
  case fin=>
   rintro⟨b1,b2⟩ s' ⟨Ve,rfl,i,hz,hR⟩
   simp only at Ve
   subst Ve
   have o3:min items.size Ye.size<=i:=by
    rcases Nat.lt_or_ge i (items.toList.zip Ye.toList).length with h' |h'
    ·rw[ZwN h'] at hz;cases hz
    ·exact hZ ▸ h'
   rw[ZuP (by simpa using o3)] at hR
   wp_walk
   exact⟨_,rfl,hR⟩
  case h=>
   exact⟨rfl,rfl,0,rfl,by simpa using h⟩
theorem FO.tuples      (hl:s.heap.IsTuple l items)(hb:s.heap.IsTuple b Ye)(hu:A.units<cLine)
 (he:∀j (h1:j<items.size) (h2:j<Ye.size),EqAt A.in1 s items[j] Ye[j] (e j)) (Xz:∀j (h1:j<items.size) (h2:j<Ye.size),e j=false->FO A.in1 s items[j] Ye[j] (r j)):
 FO A s (.ref l) (.ref b) (Wc e r (decide (items.size<Ye.size)) (Zxv (min items.size Ye.size))):=λprog w E Q h=>by
 obtain⟨⟨cls,dd,data,sl⟩,ho,hc,n,hd⟩:=id hl
 obtain⟨⟨ZzI,jq,data2,qu⟩,aK,Ik,n2,hd2⟩:=id hb
 simp only at hc hd Ik hd2
 subst hc hd Ik hd2
 exact richCompare_meets_room (op:=.Lt) ⟨_,ho,rfl⟩ ⟨_,aK,rfl⟩ PySem.F.slot_tuple_lt PySem.F.entry_tuple_lt (PySem.F.args_tuple_lt_2 _ _) (Sl l b items Ye n n2 dd jq sl qu e r)
  ⟨ho,aK,he,Xz,(⟨(λx=>nomatch x),h⟩:Value.bool _≠Value.notImplemented/\Q (.bool _) s)⟩ hu
def ltPair(l m:List PV)(j:Nat):Bool:=match l[j]?,m[j]? with
 |some a,some b=>Ju a b
 |_,_=>false
theorem Gi(e e' r r':Nat->Bool)(dflt:Bool)(f:Nat->Nat):∀l:List Nat,(∀i,e (f i)=e' i)->(∀i,r (f i)=r' i)->Wc e r dflt (l.map f)=Wc e' r' dflt l
 |[],_,_=>rfl
 |i::l,h1,h2=>by rw[ZyZ,Qm,Qm,h1,h2,Gi e e' r r' dflt f l h1 h2]
theorem F6:∀l m:List PV,Wc (pairAt l m) (ltPair l m) (decide (l.length<m.length)) (Zxv (min l.length m.length))=DL l m
 |[],[]=>rfl
 |[],b::m=>rfl
 |a::l,[]=>rfl
 | a::l,b::m=>by
   have ih:=F6 l m
   have e:min (a::l).length (b::m).length=min l.length m.length+1:=ZqM ..
   rw[e,ZvK,Qm]
   show (if eqv a b=true then Wc _ _ _ ((Zxv _).map Zjk) else Ju a b)=(if eqv a b=true then DL l m else Ju a b)
   rw[Gi _ (pairAt l m) _ (ltPair l m) _ Zjk _ (λi=>rfl) (λi=>rfl),<-ih]
   rw[show decide ((a::l).length<(b::m).length)=decide (l.length<m.length) from decide_eq_decide.mpr Nat.add_lt_add_iff_right]
section
variable {P P':Zya->Prop}{s:Zym}
theorem vN  {A:Zxd}  (x:Rep P s.heap a v)(y:Rep P' s.heap b w)(h:NW a b=true):FO A s v w (Ju a b):=
 Bn h (λi j ea eb=>by
  cases ea;cases eb
  exact (Zf.mp x).elim λt e=>(Zf.mp y).elim λu e'=>e ▸ e' ▸ λprog w E Q q=>richCompare_gives (op:=.Lt) (typeIs_int s _ t) (typeIs_int s _ u) PySem.F.slot_int_lt PySem.F.entry_int_lt (PySem.F.args_int_lt_2 _ _) (gives_int_lt _ _ t u) (λx=>nomatch x) q)
  λi j ea eb=>by
   cases ea;cases eb
   exact (Zt.mp x).elim λt e=>(Zt.mp y).elim λu e'=>e ▸ e' ▸ λprog w E Q q=>PyProof.Rows.lt_str q
theorem F4:∀{l m:List PV}{j:Nat}{a b:PV},U8 l m=true->l[j]?=some a->m[j]?=some b->NW a b=true
 |a::l,b::m,0,a',b',h,h1,h2=>Zyb h1 ▸ Zyb h2 ▸ (Yk h).1
 |a::l,b::m,j+1,a',b',h,h1,h2=>F4 (l:=l) (m:=m) (Yk h).2 h1 h2
 |[],m,j,a',b',h,h1,h2=>nS (Zu2.symm.trans h1)
 |a::l,[],j,a',b',h,h1,h2=>nS (Zu2.symm.trans h2)
theorem SV{a b:PV}(h:NW a b=true):alike a b=true:=Bn h (λx y ea eb=>by rw[ea,eb];rfl) λx y ea eb=>by rw[ea,eb];rfl
theorem Im:∀{l m:List PV},U8 l m=true->alikeAll l m=true
 |[],m,_=>by cases m<;>rfl
 |a::l,[],_=>rfl
 |a::l,b::m,h=>(ZyW _ _).mpr ⟨SV (Yk h).1,Im (Yk h).2⟩
theorem F5:∀{l m:List PV},U8 l m=true->l.length=m.length->WY l=0
 |[],m,_,_=>rfl
 |a::l,[],_,h=>nomatch h
 |a::l,b::m,h,hl=>(congrArg (λd=>max d (WY l)) (Bn (Yk h).1 (λx y ea eb=>by rw[ea];rfl) λx y ea eb=>by rw[ea];rfl:dep a=0)).trans ((Nat.zero_max _).trans (F5 (Yk h).2 (ZvE hl)))
theorem OQ    (x:Rep P s.heap (.tup l) v)(y:Rep P' s.heap (.tup m) w)(h:U8 l m=true)(hl:l.length=m.length)(hu:A.units+1<cLine):FO A s v w (DL l m):=by
 obtain⟨a,vs,n,rfl,_,h3,h4⟩:=Yt.mp x
 obtain⟨a',X1,n',rfl,_,k3,k4⟩:=Yt.mp y
 have n1:vs.size=l.length:=by simpa using Zy.length h4
 have n2:X1.size=m.length:=by simpa using Zy.length k4
 rw[<-F6,<-n1,<-n2]
 refine FO.tuples (Xa h3) (Xa k3) (by lia) (λj j1 j2=>?_) λj j1 j2 he=>?_
 ·have:=Wi (A:=A.in1) h4 k4 (Im h) (by simp [F5 h hl];lia) j (by simpa using j1) (by simpa using j2)
  simpa using this
 ·obtain⟨u,aJ,r1⟩:=h4.get (gE (by lia:j<l.length))
  obtain⟨u',aQ,r2⟩:=k4.get (gE (by lia:j<m.length))
  have e1:u=vs[j]:=by rw[ZxW,Zxt j1] at aJ;exact (Zyb aJ).symm
  have e2:u'=X1[j]:=by rw[ZxW,Zxt j2] at aQ;exact (Zyb aQ).symm
  subst e1 e2
  have aB:j<l.length:=by lia
  have DV:j<m.length:=by lia
  have:=vN (A:=A.in1) r1 r2 (F4 h (gE aB) (gE DV))
  rw[show ltPair l m j=Ju l[j] m[j] by simp [ltPair,aB,DV]]
  exact this
end
theorem AZ(l:Zya)(items:Array Zyd)(n:Nat)(x:Zyd)(e:Nat->Bool)(j:Nat)(hj:j<items.size)(hit:e j=true)(k:Nat)(ym:items.size<=Zyk):
 ∀i:Nat,j-i=k->i<=j->(∀m,m<items.size->i<=m->m<j->e m=false)->Meets (ZuW.«list.remove.loop» ⟨[.ref l,x,rawInt i],[]⟩)
  (λA R s=>s.heap.get? l=some { cls:=.type "list",dict:=none,data:=.seq items n,slots:=#[] }/\(∀j (h:j<items.size),EqAt A.in1 s items[j] x (e j))/\R (.ok (.ret .none)) { s with heap:=s.heap.update l (Zqn λxs=>xs.eraseIdxIfInBounds j) }):=by
 induction k with
 | zero=>
   intro i hk DU V8 prog w A R s h
   obtain⟨hp,g,d,tk,os⟩:=s;obtain⟨hl,he,h⟩:=h
   have tX:i=j:=by lia
   subst tX
   wp_walk using wpAny_loadPart' hl
   have hi:items[((i:Nat):Int).toNat]?=some items[i]:=by simp [hj]
   rw[hi]
   refine Zyf (he i hj prog w _ _ ?_)
   rw[hit]
   have Rm:(items.eraseIdxIfInBounds i).size<=Zyk+1:=Zyi (MeetsSeq.size_erased items _) (Zu4 ym)
   wp_walk using (wpAny_updateSeq hl rfl (hz:=ym) (_hz':=Rm)),wpAny_loadPart' hl
   simpa using h
 | succ k ih=>
   intro i hk DU V8 prog w A R s h
   obtain⟨hp,g,d,tk,os⟩:=s;obtain⟨hl,he,h⟩:=h
   have Xz:i<items.size:=by lia
   wp_walk using wpAny_loadPart' hl
   have hi:items[((i:Nat):Int).toNat]?=some items[i]:=by simp [Xz]
   have hc:((i:Int)+1)=((i+1:Nat):Int):=by push_cast;rfl
   rw[hi]
   refine Zyf (he i Xz prog w _ _ ?_)
   rw[V8 i Xz (Zy7 _) (by lia)]
   wp_walk
   rw[hc]
   exact⟨plainId_quiet ZwG _,codeAny_builtin Zur (by
    rw[ZwL ZwG _]
    exact ih (i+1) (by lia) (by lia) (λm hm h1 h2=>V8 m hm (by lia) h2) prog w A R _ ⟨hl,he,h⟩)⟩
theorem AY(l:Zya)(items:Array Zyd)(n:Nat)(x:Zyd)(e:Nat->Bool)(j:Nat)(hj:j<items.size)
 (hit:e j=true) (V8:∀m,m<items.size->m<j->e m=false) (ym:items.size<=Zyk):
 Meets (ZuW.«list.remove» ⟨[.ref l,x],[]⟩)
  (λA R s=>s.heap.get? l=some { cls:=.type "list",dict:=none,data:=.seq items n,slots:=#[] }/\(∀j (h:j<items.size),EqAt A.in1 s items[j] x (e j))/\R (.ok (.ret .none)) { s with heap:=s.heap.update l (Zqn λxs=>xs.eraseIdxIfInBounds j) }):=by
 intro prog w A R s h
 obtain⟨hp,g,d,tk,os⟩:=s;obtain⟨hl,he,h⟩:=h
 wp_walk using wpAny_loadPart' hl
 exact⟨plainId_quiet ZwG _,codeAny_builtin Zur (by
  rw[ZwL ZwG _]
  exact AZ l items n x e j hj hit _ ym 0 rfl (ZyS _) (λm hm _ h2=>V8 m hm h2) prog w A R _ ⟨hl,he,h⟩)⟩
noncomputable def WU(d:PV):List PV->Option Nat
 |[]=>none
 |a::l=>if eqv a d then some 0 else (WU d l).map (·+1)
theorem QP :∀{l:List PV}{j:Nat},WU d l=some j->j<l.length/\(∃a,l[j]?=some a/\eqv a d=true)/\∀m a,m<j->l[m]?=some a->eqv a d=false
 |[],j,h=>by cases h
 | a::l,j,h=>Y4 (h:(if eqv a d=true then some 0 else (WU d l).map (·+1))=some j) (λc h=>Zyb h ▸ ⟨Zvc _,⟨a,rfl,c⟩,λm a hm=>absurd hm (Zv2 _)⟩) λc h=>YQ h λi hi e=>by
   obtain⟨h1,⟨b,h2,h3⟩,h4⟩:=QP hi
   subst e
   refine⟨Nat.succ_lt_succ h1,⟨b,h2,h3⟩,λm a' hm e=>?_⟩
   cases m with
   |zero=>exact Zyb (e:some a=some a') ▸ ZwD.mpr c
   |succ m=>exact h4 m a' (ZvI hm) e
section
variable {C:Cx}{k:Nat}{F:Y7}{N M:Zya->Prop}{U σ₁ σ₂:Zx}{s s' s₁:Zym}{af:Z9}{h h':Zyp}{env:Env}
def ni(d:PV)(ds:List PV)(i:Nat):Bool:=(ds[i]?).elim false λb=>eqv b d
theorem Mv    (h:ds[i]?=some b):ni d ds i=eqv b d:=congrArg (λo=>o.elim false λb=>eqv b d) h
theorem fC{vs:Array Zyd}   (hi:i<vs.size)(hu:vs.toList[i]?=some u):u=vs[i]:=(Zyb (((Zxt hi).symm.trans ZxW.symm).trans hu)).symm
theorem Ee{A:Zxd}          (hj:WU d ds=some j)(Zo:∀a∈ds,alike a d=true)(NJ:∀a∈ds,dep a<=5)(Yh:ds.length<=Zyk)(rr:Zy P s.heap ds vs.toList)(rw:Rep P' s.heap d w)(len:vs.size=ds.length)
 (e0:s.heap.get? a=some { cls:=.type "list",data:=.seq vs n }) (hu:A.units+16*k+16<cLine) (q:Q .none { s with heap:=s.heap.update a (Zqn λxs=>xs.eraseIdxIfInBounds j) }):wpAny C.M A (call (.builtin "list.remove") [.ref a,w]) Q E s:=
 have j1:=QP hj
 call_meets ZuK ⟨_,e0,rfl⟩ PySem.F.entry_list_remove (PySem.F.args_list_remove_2 _ _) (AY a vs n w (ni d ds) j (len ▸ j1.1) (j1.2.1.elim λb t=>(Mv t.1).trans t.2)
  (λm hm ox=>(Mv (gE (len ▸ hm))).trans (j1.2.2 m _ ox (gE (len ▸ hm)))) (len ▸ Yh)) ⟨e0,λi hi=>by
  have yt:i<ds.length:=len ▸ hi
  have hm:=ZxG yt
  rw[Mv (gE yt)]
  exact (rr.get (gE yt)).elim λu t=>fC hi t.1 ▸ Br (A:=A.in1) t.2 rw (Zo _ hm) (Zxo (Zxa (Zy7 _) (NJ _ hm)) (by show A.units+1+5<cLine;lia)),q⟩
theorem Ex.remove       (hf:Zp F.env)(hx:U x=some (.own ds))(h:Ev C k F.env U e d)(hj:WU d ds=some j)(Zo:∀a∈ds,alike a d=true)(NJ:∀a∈ds,dep a<=5)(Yh:ds.length<=Zyk)
 (hn:(x==("__classdict__":Str))=false) (hd:(x==("__debug__":Str))=false) (hi:interactive F.env=false)
 (hs:swapsWith (.Call (.Attribute (.Name x p) "remove" apos) [e] [] Yj) none pos.line F.env=pure false)
 (YJ:attributeBase (.Name x p) "remove" F.env (eval (.Name x p) F.env)=eval (.Name x p) F.env) (ZC:(apos.endLine==Yj.line)=true)
 (he:Zxn [e] F.env=[(false,eval e F.env)]):
 Ex C k F U (exec (.Expr (.Call (.Attribute (.Name x p) "remove" apos) [e] [] Yj) pos) F.env) .Z4 (U.set x (.own (ds.eraseIdx j))):=λN M A s Q E hr I q=>by
 have EA:ZW C k F.env U [e] [.val d]:=⟨_,_,rfl,h,rfl,he⟩
 refine JA I hx λow a vs n f g e1 l e0 r len=>?_
 refine wpAny_Expr ?_ hi hs
 refine wpAny_Call_method YJ (EA.few (show 1<29 by decide)) ZC Zw4 ZuK PySem.F.type_list_remove ?_
 refine wpAny_Name (Xc hf.kind l hn ?_) hd
 refine⟨⟨_,e0,rfl⟩,λb e=>by cases e;exact⟨_,e0,rfl⟩,?_⟩
 refine ZxK EA.plain (EA.args hr I.G I.has I.YB λws s₁ k₁ r₁=>?_)
 refine (XG r₁).elim λw z=>z.1 ▸ ?_
 have x₁:=Zw k₁
 have j1:=(QP hj).1
 have m:=(I.keeps x₁).Jp (Ic:=ds.eraseIdx j) (.of_keeps k₁) hx (f.keeps x₁) g (l.ext x₁) e1 (Heap.SameBut.update s₁.heap a (Zqn λxs=>xs.eraseIdxIfInBounds j)) ⟨_,ZwU _ (x₁ _ _ e0) rfl⟩ ((congrArg (Zy _ _ _) (A0 (len ▸ j1))).mp (r.ext x₁).erase)
 exact Ee hj Zo NJ Yh (r.ext x₁) z.2.rep len (x₁ _ _ e0) hr.units (q _ M _ trivial m.1 m.2)
end
section
variable {P P':Zya->Prop}{h:Zyp}{b:PV}{a:Zya}
theorem zj(q:Yn b=true)(y:Rep P h b .none):b=.none:=by
 cases b with
 |none=>rfl
 |Xk _=>exact Yr q
 |box _ _ _=>exact Yr q
 |bool _=>cases Zr.mp y
 |int _=>obtain⟨_,e⟩:=Zf.mp y;cases e
 |str _=>obtain⟨_,e⟩:=Zt.mp y;cases e
 |tup _=>obtain⟨_,_,_,e,_⟩:=Yt.mp y;cases e
 |lst _=>obtain⟨_,_,_,e,_⟩:=ZP.mp y;cases e
theorem zk  (q:Yn b=true)(y:Rep P h b (.bool c)):b=.bool c:=by
 cases b with
 |none=>cases Y9.mp y
 |Xk _=>exact Yr q
 |box _ _ _=>exact Yr q
 |bool _=>cases Zr.mp y;rfl
 |int _=>obtain⟨_,e⟩:=Zf.mp y;cases e
 |str _=>obtain⟨_,e⟩:=Zt.mp y;cases e
 |tup _=>obtain⟨_,_,_,e,_⟩:=Yt.mp y;cases e
 |lst _=>obtain⟨_,_,_,e,_⟩:=ZP.mp y;cases e
theorem uj   (q:Yn b=true)(y:Rep P h b (.int c t)):b=.int c:=by
 cases b with
 |none=>cases Y9.mp y
 |Xk _=>exact Yr q
 |box _ _ _=>exact Yr q
 |bool _=>cases Zr.mp y
 |int _=>obtain⟨_,e⟩:=Zf.mp y;cases e;rfl
 |str _=>obtain⟨_,e⟩:=Zt.mp y;cases e
 |tup _=>obtain⟨_,_,_,e,_⟩:=Yt.mp y;cases e
 |lst _=>obtain⟨_,_,_,e,_⟩:=ZP.mp y;cases e
theorem uq   (q:Yn b=true)(y:Rep P h b (.str c t)):b=.str c:=by
 cases b with
 |none=>cases Y9.mp y
 |Xk _=>exact Yr q
 |box _ _ _=>exact Yr q
 |bool _=>cases Zr.mp y
 |int _=>obtain⟨_,e⟩:=Zf.mp y;cases e
 |str _=>obtain⟨_,e⟩:=Zt.mp y;cases e;rfl
 |tup _=>obtain⟨_,_,_,e,_⟩:=Yt.mp y;cases e
 |lst _=>obtain⟨_,_,_,e,_⟩:=ZP.mp y;cases e
theorem H7(q:Yn b=true)(y:Rep P h b (.ref a)):∃l vs n,(b=.tup l/\h.get? a=some { cls:=.type "tuple",data:=.seq vs n }∨b=.lst l/\h.get? a=some { cls:=.type "list",data:=.seq vs n })/\Zy P h l vs.toList/\plainAll l=true:=by
 cases b with
 |none=>cases Y9.mp y
 |Xk _=>exact Yr q
 |box _ _ _=>exact Yr q
 |bool _=>cases Zr.mp y
 |int _=>obtain⟨_,e⟩:=Zf.mp y;cases e
 |str _=>obtain⟨_,e⟩:=Zt.mp y;cases e
 |tup _=>obtain⟨_,vs,n,e,_,k,r⟩:=Yt.mp y;cases e;exact⟨_,vs,n,.inl ⟨rfl,k⟩,r,q⟩
 |lst _=>obtain⟨_,vs,n,e,_,k,r⟩:=ZP.mp y;cases e;exact⟨_,vs,n,.inr ⟨rfl,k⟩,r,q⟩
end
mutual
theorem Rep.same{P P':Zya->Prop}{h:Zyp}:∀{a b:PV}{v:Zyd},Yn a=true->Yn b=true->Rep P h a v->Rep P' h b v->a=b
 |.Xk _,b,v,p,_,x,y=>Yr p
 |.box ..,b,v,p,_,x,y=>Yr p
 |.none,b,v,p,q,x,y=>by cases Y9.mp x;exact (zj q y).symm
 |.bool c,b,v,p,q,x,y=>by cases Zr.mp x;exact (zk q y).symm
 |.int c,b,v,p,q,x,y=>by obtain⟨t,rfl⟩:=Zf.mp x;exact (uj q y).symm
 |.str c,b,v,p,q,x,y=>by obtain⟨t,rfl⟩:=Zt.mp x;exact (uq q y).symm
 | .tup l,b,v,p,q,x,y=>by
   obtain⟨a,vs,n,rfl,_,h3,h4⟩:=Yt.mp x
   obtain⟨m,ws,k,⟨rfl,e⟩ |⟨rfl,e⟩,k4,pm⟩:=H7 q y
   ·cases h3.symm.trans e;rw[Zy.same p pm h4 k4]
   ·injection congrArg Obj.cls (Zyb (h3.symm.trans e)) with q;exact absurd q (by decide)
 | .lst l,b,v,p,q,x,y=>by
   obtain⟨a,vs,n,rfl,_,h3,h4⟩:=ZP.mp x
   obtain⟨m,ws,k,⟨rfl,e⟩ |⟨rfl,e⟩,k4,pm⟩:=H7 q y
   ·injection congrArg Obj.cls (Zyb (h3.symm.trans e)) with q;exact absurd q (by decide)
   ·cases h3.symm.trans e;rw[Zy.same p pm h4 k4]
theorem Zy.same{P P':Zya->Prop}{h:Zyp}:∀{l m:List PV}{vs:List Zyd},plainAll l=true->plainAll m=true->Zy P h l vs->Zy P' h m vs->l=m
 | [],m,vs,p,q,x,y=>by
   cases m with
   |nil=>rfl
   |cons b m=>obtain⟨_,_,e,_⟩:=all_cons y;cases (all_nil x).symm.trans e
 | a::l,m,vs,p,q,x,y=>by
   obtain⟨v,r,e,h2,h3⟩:=all_cons x
   cases m with
   |nil=>cases (all_nil y).symm.trans e
   | cons b m=>
     obtain⟨v',r',e',k2,k3⟩:=all_cons y
     cases e.symm.trans e'
     rw[Rep.same (Yk p).1 (Yk q).1 h2 k2,Zy.same (Yk p).2 (Yk q).2 h3 k3]
end
section
variable {C:Cx}{k:Nat}{F:Y7}{N M:Zya->Prop}{U σ₁ σ₂:Zx}{s s' s₁:Zym}{af:Z9}{h h':Zyp}{env:Env}
theorem uL   {vs:Array Zyd}     (r:Zy P s.heap ds vs.toList)(rU:Rep P' s.heap d w)(Zo:∀a∈ds,alike a d=true/\Yn a=true)(NJ:∀a∈ds,A.units+dep a<cLine):
 ∃e:Zyd->Bool,(∀y,y∈vs->EqAt A s y w (e y))/\∀(i:Nat) (a:PV) (y:Zyd),ds[i]?=some a->vs[i]?=some y->e y=eqv a d:=by
 classical
 have key:∀(i:Nat) (a:PV) (y:Zyd),ds[i]?=some a->vs[i]?=some y->Rep P s.heap a y:=λi a y h1 h2=>by
  obtain⟨u,hu,ru⟩:=r.get h1
  have eu:u=y:=by rw[ZxW,h2] at hu;exact (Zyb hu).symm
  exact eu ▸ ru
 let e:Zyd->Bool:=λy=>if q:∃a,(∃i:Nat,ds[i]?=some a/\vs[i]?=some y) then eqv q.choose d else false
 have he:∀(i:Nat) (a:PV) (y:Zyd),ds[i]?=some a->vs[i]?=some y->e y=eqv a d:=λi a y h1 h2=>by
  have q:∃a,(∃i:Nat,ds[i]?=some a/\vs[i]?=some y):=⟨a,i,h1,h2⟩
  have e1:e y=eqv q.choose d:=dif_pos q
  obtain⟨j,j1,j2⟩:=q.choose_spec
  rw[e1,Rep.same (Zo _ (ZyH j1)).2 (Zo _ (ZyH h1)).2 (key j _ y j1 j2) (key i a y h1 h2)]
 refine⟨e,λy hy=>?_,he⟩
 obtain⟨i,hi,rfl⟩:=Array.mem_iff_getElem.mp hy
 have len:vs.size=ds.length:=by have:=r.length;simpa using this
 have h1:ds[i]?=some ds[i]:=gE (by lia)
 rw[he i _ _ h1 (Zxt hi)]
 exact Br (key i _ _ h1 (Zxt hi)) rU (Zo _ (ZyH h1)).1 (NJ _ (ZyH h1))
theorem Rj{ds:List PV}{vs:Array Zyd}   (len:vs.size=ds.length)(he:∀(i:Nat)(a:PV)(y:Zyd),ds[i]?=some a->vs[i]?=some y->e y=f a):vs.any e=ds.any f/\vs.toList.countP e=ds.countP f:=by
 have:vs.toList.map e=ds.map f:=by
  refine ZqT λi=>?_
  by_cases hi:i<ds.length
  ·rw[ZyQ,ZyQ,ZxW,Zxt (by lia),gE hi]
   simp only[Zv4]
   rw[he i _ _ (gE hi) (Zxt (by lia))]
  ·rw[Zvb (by simp;lia),Zvb (by simp;lia)]
 refine⟨?_,?_⟩
 ·rw[<-Array.any_toList]
  have a1:vs.toList.any e=(vs.toList.map e).any id:=by simp [ZvO]
  have a2:ds.any f=(ds.map f).any id:=by simp [ZvO]
  rw[a1,a2,this]
 ·have a1:vs.toList.countP e=(vs.toList.map e).countP id:=by simp [ZuH]
  have a2:ds.countP f=(ds.map f).countP id:=by simp [ZuH]
  rw[a1,a2,this]
theorem TK.core {l r:Zyc}{d:PV}{a:AV}  (hl:Ev C k env U l d) (hr:Z1 C k env U r a) (ha:listOf a=some ds) (Zo:∀a∈ds,alike a d=true/\Yn a=true/\dep a<=5)
        {G:Zyd->Zyd->Sem Zyd}  (ZO:Yw k A) (hg:C.G s.heap) (hh:X7 P env U s.heap) (hb:ZD P s.heap)
 (q:∀(w:Zyd) (b:Zya) (vs:Array Zyd) (e:Zyd->Bool) (s₂:Zym),ZyA s s₂->s₂.heap.IsList b vs->(∀y,y∈vs->EqAt A.in1 s₂ y w (e y))->vs.any e=ds.any (λx=>eqv x d)->wpAny C.M A (G w (.ref b)) Q E s₂):
 wpAny C.M A (eval l env) (λva s₁=>wpAny C.M A (eval r env) (λvb s₂=>wpAny C.M A (G va vb) Q E s₂) E s₁) E s:=by
 refine hl A s _ _ P ZO hg hh hb λw s₁ k₁ r₁=>?_
 have x₁:=Zw k₁
 refine hr A s₁ _ _ P ZO (C.ext hg x₁) (hh.ext x₁) (hb.ext x₁) λv s₂ k₂ r₂=>?_
 have x₂:=Zw k₂
 obtain⟨b,vs,n,rfl,_,g,rr⟩:=Vl ha r₂
 obtain⟨e,o9,o8⟩:=uL (A:=A.in1) rr (r₁.ext x₂) (λa m=>⟨(Zo a m).1,(Zo a m).2.1⟩) (λa m=>by have:=(Zo a m).2.2;have:=ZO.units;simp;lia)
 exact q w b vs e s₂ (Zu k₁ k₂) (Yu g) o9 (Rj (by have:=rr.length;simpa using this) o8).1
theorem YZ.NO      (hl:Ev C k env U l d)(hr:Z1 C k env U r a)(ha:listOf a=some ds)(Zo:∀a∈ds,alike a d=true/\Yn a=true/\dep a<=5)
 (hm:Zxx .In r=false):YZ C k env U (.Compare l [.In] [r] pos) (ds.any λx=>eqv x d):=λA s Q E P ZO hg hh hb q=>
 wpAny_isTrue_Compare1 (TK.core (G:=λa b=>compareOp .In a b) (Q:=λc s₃=>wpAny C.M A (truthy c) Q E s₃) hl hr ha Zo ZO hg hh hb λw b vs e s₂ k₂ hL he FL=>
  in_listAt e hL he (wpAny_truthy_bool (FL ▸ q s₂ k₂))) hm
theorem YZ.Gz      (hl:Ev C k env U l d)(hr:Z1 C k env U r a)(ha:listOf a=some ds)(Zo:∀a∈ds,alike a d=true/\Yn a=true/\dep a<=5)
 (hm:Zxx .NotIn r=false):YZ C k env U (.Compare l [.NotIn] [r] pos) (!ds.any λx=>eqv x d):=λA s Q E P ZO hg hh hb q=>
 wpAny_isTrue_Compare1 (TK.core (G:=λa b=>compareOp .NotIn a b) (Q:=λc s₃=>wpAny C.M A (truthy c) Q E s₃) hl hr ha Zo ZO hg hh hb λw b vs e s₂ k₂ hL he FL=>
  notIn_listAt e hL he (wpAny_truthy_bool (FL ▸ q s₂ k₂))) hm
theorem Ev.NO      (hl:Ev C k env U l d)(hr:Z1 C k env U r a)(ha:listOf a=some ds)(Zo:∀a∈ds,alike a d=true/\Yn a=true/\dep a<=5)
 (hm:Zxx .In r=false):Ev C k env U (.Compare l [.In] [r] pos) (.bool (ds.any λx=>eqv x d)):=λA s Q E P ZO hg hh hb q=>
 wpAny_Compare1 (TK.core (G:=λa b=>compareOp .In a b) (Q:=Q) hl hr ha Zo ZO hg hh hb λw b vs e s₂ k₂ hL he FL=>
  in_listAt e hL he (q _ s₂ k₂ (Zr.mpr (by rw[FL])))) hm
theorem Ev.Gz      (hl:Ev C k env U l d)(hr:Z1 C k env U r a)(ha:listOf a=some ds)(Zo:∀a∈ds,alike a d=true/\Yn a=true/\dep a<=5)
 (hm:Zxx .NotIn r=false):Ev C k env U (.Compare l [.NotIn] [r] pos) (.bool (!ds.any λx=>eqv x d)):=λA s Q E P ZO hg hh hb q=>
 wpAny_Compare1 (TK.core (G:=λa b=>compareOp .NotIn a b) (Q:=Q) hl hr ha Zo ZO hg hh hb λw b vs e s₂ k₂ hL he FL=>
  notIn_listAt e hL he (q _ s₂ k₂ (Zr.mpr (by rw[FL])))) hm
end
section
variable {prog:Zuj}{w:Zyh}{A:Zxd}{R:Zqu->Zym->Prop}{I:Zya}{fp wr:List Zya}{n:Nat}{P:Nat->Zyd->Prop}{St:Nat->Zyp->Prop}
def K7(wr:List Zya)(S:Zya)(h₀ h:Zyp):Prop:=∀b o,b∉wr->b≠S->h₀.get? b=some o->h.get? b=some o
theorem OW(W:Walks prog w A.in1 I fp wr n P St)(h₀:Zyp)(bt:Nat->Nat->Bool)(S:Zya)
 (PJ:∀i j vi vj (s:Zym) (Q:Zyd->Zym->Prop) (E:Zyd->Zym->Prop),P i vi->P j vj->K7 wr S h₀ s.heap->Q (.bool (bt i j)) s->wpAny (model prog w) A.in1 (richCompare .Lt vi vj) Q E s) (LJ:S∉fp):
 ∀(k j:Nat) (s:Zym) (vb:Zyd) (c:Nat),n-(j+1)=k->j+1<=n->St (j+1) s.heap->P (argBest bt j) vb->K7 wr S h₀ s.heap->
 s.heap.get? S=some { cls:=.type "list",dict:=none,data:=.seq #[vb,vb] c,slots:=#[] }->
 (∀v h' tk,P (argBest bt (n-1)) v->K7 wr S h₀ h'->R (.ok (.ret v)) { s with heap:=h',toks:=tk })->
 codeAny (model prog w) A (.builtin "min.loop" ⟨[.ref I,.none,.ref S],[]⟩) R s:=by
 have y6:S∉wr:=λh=>LJ (W.sub _ h)
 have Gs:(toString "min"++toString ".loop":String)="min.loop":=by decide
 intro k
 induction k with
 | zero=>
   intro j s vb c hk hj Y6 y8 DS hS hR
   have Wb:j+1=n:=by omega
   refine codeAny_builtin ZvG ?_
   rw[ZwL ZxE _]
   show wpAny _ A.in1 (seqItems? (.ref S)>>=_) _ _ s
   refine Zyf (wpAny_seqItems hS rfl ?_)
   show wpAny _ A.in1 (tryCatch (pyNext (.ref I)) _>>=_) _ _ s
   refine Zyf (wpAny_tryCatch (W.done s _ _ (Wb ▸ Y6) λh' tk Q8=>?_))
   have Io:=Q8 S _ y6 hS
   show wpAny _ A.in1 (updateSeq S (λ_=>#[])>>=_) _ _ _
   refine Zyf ?_
   refine wpAny_updateSeq Io rfl (Zyf (wpAny_letGo (Zys ?_)))
   exact hR vb _ tk (by rw[<-Wb];exact y8) λb o Fm Fl e=>(Zwc _ _ (Ne.symm Fl)).trans (Q8 b o Fm (DS b o Fm Fl e))
 | succ k ih=>
   intro j s vb c hk hj Y6 y8 DS hS hR
   have Xz:j+1<n:=by omega
   refine codeAny_builtin ZvG ?_
   rw[ZwL ZxE _]
   show wpAny _ A.in1 (seqItems? (.ref S)>>=_) _ _ s
   refine Zyf (wpAny_seqItems hS rfl ?_)
   show wpAny _ A.in1 (tryCatch (pyNext (.ref I)) _>>=_) _ _ s
   refine Zyf (wpAny_tryCatch (W.item (j+1) s _ _ Xz Y6 λv h' tk hP Tt Q8=>?_))
   have Io:=Q8 S _ y6 hS
   have Mz:K7 wr S h₀ h':=λb o Fm Fl e=>Q8 b o Fm (DS b o Fm Fl e)
   show wpAny _ A.in1 (tryCatch (holding [v,v] (richCompare .Lt v vb>>=_)) _>>=_) _ _ _
   refine Zyf (wpAny_tryCatch (ZyP (Zyf (PJ (j+1) (argBest bt j) v vb _ _ _ hP y8 Mz ?_))))
   refine Zyf (ZyP (wpAny_truthy_bool ?_))
   refine Zyf (wpAny_letGo (Zys ?_))
   cases hb:bt (j+1) (argBest bt j) with
   | true=>
     simp only[if_true]
     refine Zyf ?_
     refine wpAny_updateSeq Io rfl (Zyf (wpAny_letGo ?_))
     rw[Gs]
     refine Zys ⟨plainId_quiet ZxE _,ih (j+1) _ v _ (by omega) Xz (W.frame _ _ _ Tt λb qP o e=>?_) (by simp only[argBest,hb,if_true];exact hP) (λb o Fm Fl e=>?_) (ZwU _ Io rfl)
      λv' BP N9 R7 IZ=>hR v' BP N9 R7 IZ⟩
     ·exact (Zwc _ _ (λh:S=b=>LJ (by rw[h];exact qP))).trans e
     ·exact (Zwc _ _ (Ne.symm Fl)).trans (Mz b o Fm Fl e)
   | false=>
     simp only[Zwm,if_false]
     refine Zyf (wpAny_letGo ?_)
     rw[Gs]
     exact Zys ⟨plainId_quiet ZxE _,ih (j+1) _ vb c (by omega) Xz Tt (by simp only[argBest,hb,Zwm,if_false];exact y8) Mz Io λv' BP N9 R7 IZ=>hR v' BP N9 R7 IZ⟩
theorem SX(W:Walks prog w A.in1 I fp wr n P St)(h₀:Zyp)(bt:Nat->Nat->Bool)(S:Zya)
 (PJ:∀i j vi vj (s:Zym) (Q:Zyd->Zym->Prop) (E:Zyd->Zym->Prop),P i vi->P j vj->K7 wr S h₀ s.heap->Q (.bool (bt i j)) s->wpAny (model prog w) A.in1 (richCompare .Lt vi vj) Q E s) (LJ:S∉fp) (hn:0<n)
  (Y6:St 0 s.heap) (DS:K7 wr S h₀ s.heap)
 (hS:s.heap.get? S=some { cls:=.type "list",dict:=none,data:=.seq #[] c,slots:=#[] })
 (hR:∀v h' tk,P (argBest bt (n-1)) v->K7 wr S h₀ h'->R (.ok (.ret v)) { s with heap:=h',toks:=tk }):
 codeAny (model prog w) A (.builtin "min.loop" ⟨[.ref I,.none,.ref S],[]⟩) R s:=by
 have y6:S∉wr:=λh=>LJ (W.sub _ h)
 have Gs:(toString "min"++toString ".loop":String)="min.loop":=by decide
 refine codeAny_builtin ZvG ?_
 rw[ZwL ZxE _]
 show wpAny _ A.in1 (seqItems? (.ref S)>>=_) _ _ s
 refine Zyf (wpAny_seqItems hS rfl ?_)
 show wpAny _ A.in1 (tryCatch (pyNext (.ref I)) _>>=_) _ _ s
 refine Zyf (wpAny_tryCatch (W.item 0 s _ _ hn Y6 λv h' tk hP Tt Q8=>?_))
 have Io:=Q8 S _ y6 hS
 show wpAny _ A.in1 (updateSeq S (λ_=>#[v,v])>>=_) _ _ _
 refine Zyf ?_
 refine wpAny_updateSeq Io rfl ?_
 rw[Gs]
 refine Zys ⟨plainId_quiet ZxE _,OW W h₀ bt S PJ LJ _ 0 _ v _ rfl hn (W.frame _ _ _ Tt λb qP o e=>?_) hP (λb o Fm Fl e=>?_) (ZwU _ Io rfl) λv' BP N9 R7 IZ=>hR v' BP N9 R7 IZ⟩
 ·exact (Zwc _ _ (λh:S=b=>LJ (by rw[h];exact qP))).trans e
 ·exact (Zwc _ _ (Ne.symm Fl)).trans (Q8 b o Fm (DS b o Fm Fl e))
end
def bestAt(l:List PV):Nat->Nat:=argBest λi j=>match l[i]?,l[j]? with |some a,some b=>Ju a b |_,_=>false
section
variable {C:Cx}{k:Nat}{F:Y7}{N M:Zya->Prop}{U σ₁ σ₂:Zx}{s s' s₁:Zym}{af:Z9}{h h':Zyp}{env:Env}
theorem Ry  {ls:List (List PV)}  (ha:listOf a=some (ls.map .tup))(Wx:∀l∈ls,∀m∈ls,U8 l m=true/\l.length=m.length)(hr:(ls.map PV.tup)[bestAt (ls.map .tup) (ls.length-1)]?=some r):
 ZM C k (.builtin "min") [a] r:=λA s Q E P vs ZO hg rr hb q=>by
 obtain⟨v,rfl,rv⟩:=XG rr
 obtain⟨b,xs,n,rfl,_,g,rx⟩:=Vl ha rv
 have hL:s.heap.IsList b xs:=Yu g
 have len:xs.size=ls.length:=by have:=rx.length;simpa using this
 have CH:0<ls.length:=by
  rcases ls with _ |⟨_,_⟩
  ·simp at hr
  ·simp
 have XA:b≠s.heap.objs.size:=Zwd (Zxf g)
 have Gs:(toString "min"++toString ".loop":String)="min.loop":=by decide
 refine call_function_tree PySem.F.kind_min PySem.F.plain_min PySem.F.entry_min (PySem.F.args_min1 _) ?_
 show wpAny _ A.in1 (Zua "min" ["key","default"] 0 ⟨[],[]⟩>>=_) _ _ s
 refine Zyf (wpAny_of_eq (show Zua "min" ["key","default"] 0 ⟨[],[]⟩=pure [none,none] from rfl) ?_)
 refine Zyf (Zys ?_)
 refine Zyf (wpAny_pyIter_list hL ?_)
 refine Zyf (wpAny_newObj_type ?_)
 rw[Gs]
 have W:=Walks.list (prog:=C.prog) (w:=C.w) (A:=A.in1) (by simpa using ZO.handled) s.heap.objs.size b XA xs
 have aE:(s.heap.push { cls:=.type "list_iterator",data:=.fields #[.ref b,.int 0 0] }).objs.size=s.heap.objs.size+1:=Zw9 ..
 have Xz:b<s.heap.objs.size:=Zxf g
 refine Zys ⟨plainId_quiet ZxE _,SX W s.heap (λi j=>match (ls.map PV.tup)[i]?,(ls.map PV.tup)[j]? with |some a,some b=>Ju a b |_,_=>false) _ (λi j vi vj s₁ Q₁ E₁ hi hj Y6 hq=>?_) (λhm=>?_) (by omega) ⟨⟨_,Zyo _ (ZyX _ rfl),rfl,rfl⟩,(hL.push _).push _⟩
  (λc o _ _ e=>Zyo _ (Zyo _ e)) (ZyX _ rfl) λv' h' tk hP Y6=>?_⟩
 ·have qA:i<ls.length:=by have:=(ZwI.mp hi).1;omega
  have Fb:j<ls.length:=by have:=(ZwI.mp hj).1;omega
  have gi:(ls.map PV.tup)[i]?=some (.tup ls[i]):=by simp [qA]
  have gj:(ls.map PV.tup)[j]?=some (.tup ls[j]):=by simp [Fb]
  have ri:Rep P s.heap (.tup ls[i]) vi:=by
   obtain⟨u,hu,ru⟩:=rx.get gi
   have:u=vi:=by rw[ZxW,hi] at hu;exact (Zyb hu).symm
   exact this ▸ ru
  have rj:Rep P s.heap (.tup ls[j]) vj:=by
   obtain⟨u,hu,ru⟩:=rx.get gj
   have:u=vj:=by rw[ZxW,hj] at hu;exact (Zyb hu).symm
   exact this ▸ ru
  have old:ZT s.heap s₁.heap:=λc o e=>Y6 c o (λm=>by simp at m;have:=Zxf e;rw[m] at this;exact Zx7 _ this) (λm=>by have:=Zxf e;rw[m,aE] at this;exact Zx7 _ (ZqS this)) e
  have:=OQ (A:=A.in1) (ri.ext old) (rj.ext old) (Wx _ (ZxG qA) _ (ZxG Fb)).1 (Wx _ (ZxG qA) _ (ZxG Fb)).2 (by have:=ZO.units;simp;omega)
  refine this _ _ _ _ ?_
  simp only[gi,gj] at hq
  exact hq
 ·simp at hm
  have e':@Eq Nat (s.heap.objs.size+1) b:=hm
  have h2:@LT.lt Nat _ b s.heap.objs.size:=Xz
  omega
 ·have old:ZT s.heap h':=λc o e=>Y6 c o (λm=>by simp at m;have:=Zxf e;rw[m] at this;exact Zx7 _ this) (λm=>by have:=Zxf e;rw[m,aE] at this;exact Zx7 _ (ZqS this)) e
  have hv:xs[bestAt (ls.map .tup) (ls.length-1)]?=some v':=by rw[<-len];exact hP
  obtain⟨u,hu,ru⟩:=rx.get hr
  have:u=v':=by rw[ZxW,hv] at hu;exact (Zyb hu).symm
  exact q v' _ ⟨h',tk,rfl,old⟩ (this ▸ ru.ext old)
end
end Mine.Internal
end
section
open PySem PySem.W PyProof.Rows
open Sem (wp)
open PySem.SeqAt
open Builtin Builtin.Str
namespace Mine.Internal
section
variable {C:Cx}{k:Nat}{U:Zx}{s s' s₁:Zym}{h h':Zyp}{env:Env}
theorem El      (hy:(y.length==0)=false)(Yh:x.length<=Zyk)(PY:(partsBetween x (occurrences x y 0 x.length (x.length+1)) y.length).length<=Zyk)
 (q:∀(l:List (Str × Tok)) (tk:Nat),l.map (·.1)=ZyE x y->Q (.ref s.heap.objs.size) { s with toks:=tk,heap:=s.heap.push { cls:=.type "list",data:=.seq (strValues l).toArray } }):
 wpAny C.M A (call (.builtin "str.split") [.str x t,.str y u]) Q E s:=by
 cases h1:(decide (x.length<y.length)||decide (strKind x<strKind y))
 ·cases hf:(occurrences x y 0 x.length (x.length+1)).isEmpty
  ·refine call_meets Zvn (typeIs_str _ _ _) ZvQ (ZvZ _ _) (meets_str_split_sep x y t u h1 hy hf Yh PY) ?_
   show wants Q E _ { s with toks:=_,heap:=s.heap.push { cls:=.type "list",data:=.seq (strsFrom s.toks (partsBetween x (occurrences x y 0 x.length (x.length+1)) y.length)).toArray } }
   rw[strsFrom_eq]
   exact q (numbered s.toks _) _ ((numbered_texts _ _).trans ((if_neg (ne_true_of_eq_false h1)).trans (if_neg (ne_true_of_eq_false hf))).symm)
  ·exact call_meets Zvn (typeIs_str _ _ _) ZvQ (ZvZ _ _) (meets_str_split_not_found x y t u h1 hy hf)
    (q [(x,t)] s.toks ((if_neg (ne_true_of_eq_false h1)).trans (if_pos hf)).symm)
 ·exact call_meets Zvn (typeIs_str _ _ _) ZvQ (ZvZ _ _) (meets_str_split_cannot_occur x y t u h1)
   (q [(x,t)] s.toks (if_pos h1).symm)
theorem Ww.split     (ho:Ev C k env U o (.str x))(ha:ZW C k env U args [.val (.str y)])(hy:(y.length==0)=false)(Yh:x.length<=Zyk)
 (PY:(partsBetween x (occurrences x y 0 x.length (x.length+1)) y.length).length<=Zyk) (YJ:attributeBase o "split" env (eval o env)=eval o env) (ZC:(apos.endLine==pos.line)=true) (hl:args.length<29):
 Ww C k env U (.Call (.Attribute o "split" apos) args [] pos) (.own ((ZyE x y).map .str)):=⟨rfl,λA s Q E P hr hg hh hb q=>by
 refine wpAny_Call_method YJ (ha.few hl) ZC m_split.plain m_split.slot m_split.desc (ho A s _ _ P hr hg hh hb λv s₁ k₁ r₁=>?_)
 obtain⟨t,rfl⟩:=Zt.mp r₁
 have x₁:=Zw k₁
 refine⟨typeIs_str _ _ _,(λb e=>by cases e),?_⟩
 refine ZxK ha.plain (ha.args hr (C.ext hg x₁) (hh.ext x₁) (hb.ext x₁) λvs s₂ k₂ r₂=>?_)
 obtain⟨v,rfl,rv⟩:=XG r₂
 obtain⟨u,rfl⟩:=Y2 rv
 have x₂:=Zw k₂
 refine El hy Yh PY λl tk hl=>?_
 have k₃:ZyA s₂ { s₂ with toks:=tk,heap:=s₂.heap.push { cls:=.type "list",data:=.seq (strValues l).toArray } }:=⟨_,tk,rfl,λ_ _ e=>Zyo _ e⟩
 refine q _ [s₂.heap.objs.size] _ (Zu (Zu k₁ k₂) k₃) (λb m=>?_) ⟨_,rfl,rfl,_,_,ZyX _ rfl,?_⟩
 ·simp at m;subst m
  exact Yd x₁ (Yd x₂ (YN _))
 ·rw[<-hl]
  have:=F3 (P:=λb=>P b/\b∉[s₂.heap.objs.size]) (h:=s₂.heap.push { cls:=.type "list",data:=.seq (strValues l).toArray }) (l:=l)
  rw[ZyM]
  exact this⟩
theorem F7 :∀{is:List Int}{vs:List Zyd},Zy P h (is.map .int) vs->∃l:List (Int × Tok),vs=l.map (λp=>.int p.1 p.2)/\l.map (·.1)=is
 |[],vs,r=>⟨[],r,rfl⟩
 |i::is,vs,r=>Zxm r λv t=>t.elim λrr t=>(Zf.mp t.2.1).elim λu e=>(F7 t.2.2).elim λl z=>⟨(i,u)::l,t.1.trans (e.symm ▸ z.1.symm ▸ rfl),congrArg (i::·) z.2⟩
theorem ints_list     (ha:listOf a=some (is.map .int))(r:YD P h a v):∃b xs,v=.ref b/\h.IsList b (intItems xs)/\xs.toList.map (·.1)=is:=by
 obtain⟨b,vs,n,rfl,_,g,rr⟩:=Vl ha r
 obtain⟨l,e,e'⟩:=F7 rr
 refine⟨b,l.toArray,rfl,?_,by simpa using e'⟩
 have:vs=intItems l.toArray:=by
  apply Zj0
  rw[e];simp [intItems]
 exact this ▸ Yu g
theorem f7  {is:List Int}(ha:listOf a=some (is.map .int)):ZM C k (.builtin "sum") [a] (.int is.sum):=λA s Q E P vs hr hg rr hb q=>by
 obtain⟨v,rfl,rv⟩:=XG rr
 obtain⟨b,xs,rfl,hL,e⟩:=ints_list ha rv
 refine sum_intListG hr.handled hL λh' tk t' hk=>q _ _ ⟨h',tk,rfl,hk⟩ (Zf.mpr ⟨t',?_⟩)
 rw[preSum_eq,Zx6 (by simp),e]
noncomputable def maxOf:List Int->Int
 |[]=>0
 |a::l=>l.foldl max a
theorem FY(f:Nat->Int):∀n,f (argBest (λi j=>decide (f i > f j)) n)=((Zxv n).map λi=>f (i+1)).foldl max (f 0)
 |0=>rfl
 | n+1=>by
   have ih:=FY f n
   rw[ZuT,Zy9,ZqR,<-ih]
   simp only[argBest,ZyZ,Zwo,Zw0,List.foldl_nil]
   by_cases h:f (n+1) > f (argBest (λi j=>decide (f i > f j)) n)
   ·simp only[h,decide_true,if_true];rw[ZvB (Int.le_of_lt h)]
   ·simp only[h,decide_false];rw[Int.max_eq_left (Zqd.mp h)];rfl
theorem fZ   (ha:listOf a=some (is.map .int))(XA:is≠[]):ZM C k (.builtin "max") [a] (.int (maxOf is)):=λA s Q E P vs hr hg rr hb q=>by
 obtain⟨v,rfl,rv⟩:=XG rr
 obtain⟨b,xs,rfl,hL,e⟩:=ints_list ha rv
 have len:xs.size=is.length:=by rw[<-e];simp
 have CH:0<is.length:=Zvz.mpr XA
 refine max_intList hr.handled hL (by lia) λv h' tk hv hk=>?_
 obtain⟨t,rfl⟩:=intItems_at hv
 refine q _ _ ⟨h',tk,rfl,hk⟩ (Zf.mpr ⟨t,?_⟩)
 rw[FY (numAt xs)]
 have hn:∀i,numAt xs i=(is[i]?).getD 0:=λi=>by
  rw[<-e];simp [numAt]
 rcases is with _ |⟨i0,is⟩
 ·simp at CH
 ·show _=Zvj (is.foldl max i0) t
  have l1:xs.size-1=is.length:=by simp at len;lia
  rw[l1]
  have:(Zxv is.length).map (λi=>numAt xs (i+1))=is:=by
   refine ZqT λi=>?_
   by_cases hi:i<is.length
   ·rw[ZyQ,List.getElem?_range hi,gE hi]
    simp [hn,hi]
   ·rw[Zvb (by simpa using hi),Zvb (by simpa using hi)]
  rw[this,hn 0];simp
theorem vA:Vu "list" "count" "list.count":=⟨Zw4,ZuC,PySem.F.type_list_count⟩
theorem Ln  {ys:List Str}  (ha:listOf a=some (ys.map .str)):ZM C k (.builtin "list.count") [a,.val (.str x)] (.int (ys.count x:Nat)):=λA s Q E P vs hr hg rr hb q=>by
 obtain⟨v,u,rfl,rv,ru⟩:=VE rr
 obtain⟨t,rfl⟩:=Y2 ru
 obtain⟨b,xs,n,rfl,_,g,rx⟩:=Vl ha rv
 obtain⟨l,e1,e2⟩:=JW rx
 have hx:xs=(strValues l).toArray:=Zj0 (by simpa using e1)
 subst hx
 let e:Zyd->Bool:=λv=>match v with |.str z _=>z.cps.toList==x.cps.toList |_=>false
 refine call_meets ZuC ⟨_,g,rfl⟩ PySem.F.entry_list_count (PySem.F.args_list_count_2 _ _) (MeetsSeq.list_count b _ n (.str x t) e (λy hy=>?_)) ⟨g,?_⟩
 ·have:∀{l:List (Str × Tok)}{y:Zyd},y∈strValues l->∃z t,y=.str z t:=λ{l y} h=>by
   unfold strValues at h
   obtain⟨p,_,rfl⟩:=Zye.mp h
   exact⟨_,_,rfl⟩
  obtain⟨z,t',rfl⟩:=this (by simpa using hy)
  exact Ziq z x t' t
 ·have hc:(strValues l).toArray.toList.countP e=ys.count x:=by
   rw[<-e2]
   unfold strValues
   simp only[List.toList_toArray,ZuH,List.count]
   refine List.countP_congr λp _=>?_
   simp only[ZjB,e,beq_iff_eq]
   constructor
   ·intro h;cases hp:p.1;cases x;rw[hp] at h;simp at h;rw[h]
   ·intro h;rw[h]
  refine q _ _ (ZU s _) (Zf.mpr ⟨s.toks,?_⟩)
  rw[hc]
end
end Mine.Internal
end
section
open PySem PySem.W PyProof.Rows
open Sem (wp)
open PySem.SeqAt
namespace Mine.Internal
theorem Rq:typeLookup (.type "bool") "__index__"=pure (some (.builtin "int.__index__")):=by rw[Zx8,Zxw];kernel_rfl
section
variable {M:Model}{A:Zxd}{E:Zyd->Zym->Prop}{s:Zym}
theorem Gd   (h:Q (some (if b then 1 else 0)) s):wpAny M A (Zvm (.bool b)) Q E s:=by
 unfold Zvm
 refine Zyf (wpAny_specialOf (T:="bool") rfl Rq ?_)
 show wpAny M A (asIndex (.bool b)>>=_) Q E s
 refine Zyf (wpAny_of_eq (a:=if b then 1 else 0) rfl ?_)
 show wpAny M A (if (!Builtin.List.listFitsIndex (if b then 1 else 0))=true then _ else _) Q E s
 rw[if_neg (by cases b<;>decide)]
 exact Zys h
end
section
variable {prog:Zuj}{w:Zyh}{A:Zxd}{E:Zyd->Zym->Prop}{s:Zym}
theorem Fj      (hl:s.heap.IsList l items)
 (hx:items[if b then 1 else 0]?=some x) (h:Q x s):wpAny (model prog w) A (getItem (.ref l) (.bool b)) Q E s:=by
 obtain⟨o,ho,hc,ne,hd⟩:=id hl
 unfold getItem
 try with_reducible refine ZyP ?_
 first |refine Zyf (Zys ?_) |skip
 refine Zyf (wpAny_sequenceKey hl.typeIs (by decide) ?_)
 refine Zyf (wpAny_callSpecial?_slot (name:=ZxS "__getitem__") hl.typeIs slot_list_getitem
  (wpAny_call_entry slot_list_getitem hl.typeIs entry_list_getitem ?_ (args_list_getitem _ _)))
 show wpAny _ _ (Zvm (.bool b)>>=_) _ _ s
 refine Zyf (Gd ?_)
 cases b
 ·show wpAny _ _ ((seqItemAt l 0>>=λr=>pure (r.map (0,·)))>>=_) _ _ s
  refine Zyf (Zyf (wpAny_seqItemAt ho hd (Zys ?_)))
  have Ie:items[0]?=some x:=hx
  rw[Ie]
  first
   |exact Zyf (Zys (Zys ⟨x,rfl,Zys h⟩))
   |exact Zys ⟨x,rfl,Zys h⟩
 ·show wpAny _ _ ((seqItemAt l 1>>=λr=>pure (r.map (1,·)))>>=_) _ _ s
  refine Zyf (Zyf (wpAny_seqItemAt ho hd (Zys ?_)))
  have Ie:items[1]?=some x:=hx
  rw[Ie]
  first
   |exact Zyf (Zys (Zys ⟨x,rfl,Zys h⟩))
   |exact Zys ⟨x,rfl,Zys h⟩
end
section
variable {C:Cx}{k:Nat}{U:Zx}{s s' s₁:Zym}{h h':Zyp}{env:Env}
theorem Ev.EF      (ho:Qx C k env U o ds)(hi:Ev C k env U i (.bool b))(hd:ds[if b then 1 else 0]?=some d)
 (hs:∀a b,subscripted i false a b=operate [a,b] (getItem a b)):Ev C k env U (.Subscript o i pos) d:=λA s Q E P hr hg hh hb q=>by
 refine Zu8 (ho A s _ _ P hr hg hh hb λb' vs n s₁ k₁ g₁ r₁=>?_)
 have x₁:=Zw k₁
 refine hi A s₁ _ _ P hr (C.ext hg x₁) (hh.ext x₁) (hb.ext x₁) λv s₂ k₂ r₂=>?_
 rw[Zr] at r₂
 subst r₂
 have x₂:=Zw k₂
 obtain⟨v,hv,rv⟩:=(r₁.ext x₂).get hd
 have hl:=Yu (x₂ _ _ g₁)
 exact tail_any hl.typeIs slot_list_getitem.lookup (Fj hl (by simpa using hv) (q v s₂ (Zu k₁ k₂) rv)) (hs _ _)
theorem Ev.nH    (h:Ev C k env U x (.int i)):Ev C k env U (.UnaryOp .USub x pos) (.int (-i)):=λA s Q E P hr hg hh hb q=>by
 refine wpAny_UnaryOp (h A s _ _ P hr hg hh hb λv s₁ k₁ r₁=>?_)
 obtain⟨t,rfl⟩:=Zf.mp r₁
 exact PyProof.Rows.neg_int (q _ _ (Zu k₁ (ZU _ _)) (Zf.mpr ⟨_,rfl⟩))
theorem Ww.add_list    (h₁:Qx C k env U l a)(h₂:Qx C k env U r b)(Yh:a.length+b.length<=Zyk):Ww C k env U (.BinOp l .Add r pos) (.own (a++b)):=⟨rfl,λA s Q E P hr hg hh hb q=>by
 refine wpAny_BinOp (h₁ A s _ _ P hr hg hh hb λa1 v1 n1 s₁ k₁ g₁ r₁=>?_)
 have x₁:=Zw k₁
 refine h₂ A s₁ _ _ P hr (C.ext hg x₁) (hh.ext x₁) (hb.ext x₁) λa2 v2 n2 s₂ k₂ g₂ r₂=>?_
 have x₂:=Zw k₂
 have l1:v1.size=a.length:=by simpa using r₁.length
 have l2:v2.size=b.length:=by simpa using r₂.length
 refine PySem.P.add_list (x₂ _ _ g₁) g₂ (q _ [s₂.heap.objs.size] _ (Zu (Zu k₁ k₂) (YL _ _)) (λc m=>?_) ⟨_,rfl,rfl,_,_,ZyX _ rfl,?_⟩) (by lia)
 ·simp at m;subst m;exact Yd x₁ (Yd x₂ (YN _))
 ·rw[Array.toList_append]
  refine ((r₁.ext x₂).append r₂).mono (λc o e p=>⟨p,λm=>?_⟩) λc o _ e=>Zyo _ e
  simp at m;subst m;rw[YN] at e;cases e⟩
theorem Zy.of_get  :∀{ds:List PV}{vs:List Zyd},ds.length=vs.length->(∀(i:Nat)(d:PV)(v:Zyd),ds[i]?=some d->vs[i]?=some v->Rep P h d v)->Zy P h ds vs
 |[],[],_,_=>Zy.nil
 |[],_::_,e,_=>by simp at e
 |_::_,[],e,_=>by simp at e
 |d::ds,v::vs,e,H=>Zy.cons (H 0 d v rfl rfl) (Zy.of_get (by simpa using e) λi d' v' e1 e2=>H (i+1) d' v' (by simpa using e1) (by simpa using e2))
theorem Ww.list_range     (hf:Zp env)(hB:Ul C env x (.type "list"))(hR:Ul C env y (.type "range"))(ha:ZW C k env U args [.val (.int a),.val (.int b)])
 (hl:-(2 ^ 62)<=a) (Qz:a<2 ^ 62) (hb:-(2 ^ 62)<=b) (Ve:b<2 ^ 62) (X6:(b-a).toNat<=2 ^ 24) (hd:(x==("__debug__":Str))=false) (hd2:(y==("__debug__":Str))=false)
 (he:backTo NX (Zxn [.Call (.Name y p2) args [] pos] env)=[(false,eval (.Call (.Name y p2) args [] pos) env)]):
 Ww C k env U (.Call (.Name x p1) [.Call (.Name y p2) args [] pos] [] NX) (.own (ZQ a b)):=⟨rfl,λA s Q E P hr hg hh yp q=>by
 rw[Xv]
 refine Zyf (name_B hf hB hg ?_ hd)
 refine ZwO (by rw[he];rfl) ?_
 rw[he]
 refine Zvh (Calls.spliced_cons ?_)
 rw[Xv]
 refine Zyf (name_B hf hR hg ?_ hd2)
 refine ZwO ha.plain (ha.args hr hg hh yp λvs s₁ k₁ r₁=>?_)
 obtain⟨v,u,rfl,rv,ru⟩:=VE r₁
 obtain⟨t,rfl⟩:=Vq rv
 obtain⟨t',rfl⟩:=Vq ru
 refine call_range_2 (Calls.spliced_nil ?_)
 have k₂:ZyA s₁ { s₁ with heap:=s₁.heap.push { cls:=.type "range",data:=.fields #[.int a t,.int b t',.int 1 s₁.toks] },toks:=s₁.toks+1 }:=⟨_,_,rfl,λ_ _ e=>Zyo _ e⟩
 have sz:Zvy a b 1=(((b-a).toNat:Nat):Int):=by rw[rangeSize_one];split<;>lia
 refine call_list_range (n:=(b-a).toNat) hr.handled (ZyX _ rfl) (small_one hl Qz hb Ve) sz X6 λh' tk acc c' hk hS CR=>?_
 have x₁:=Zw k₁
 have x₂:=Zw k₂
 refine q _ [_] _ (Zu (Zu k₁ k₂) ⟨h',tk,rfl,hk⟩) (λc m=>?_) ⟨_,rfl,rfl,acc,c',hS,?_⟩
 ·simp at m;subst m;exact Yd x₁ (W6 (by lia))
 ·refine Zy.of_get (by simp [ZQ,CR.1]) λi d v e1 e2=>?_
  obtain⟨t,rfl⟩:=CR.2 i v (by simpa using e2)
  have hi:i<(b-a).toNat:=by have:=(ZxF.mp e1).1;simpa [ZQ] using this
  have e3:PV.int (a+(i:Int))=d:=by simpa [ZQ,hi] using e1
  rw[<-e3]
  exact Zf.mpr ⟨t,by simp⟩⟩
end
section
variable {C:Cx}{k:Nat}{U:Zx}{s s' s₁:Zym}{h h':Zyp}{env:Env}
def QF(C:Cx)(k:Nat)(env:Env)(U:Zx)(vs:List Zyc)(b:Bool):Prop:=
 ∀A s Q E P,Yw k A->C.G s.heap->X7 P env U s.heap->ZD P s.heap->(∀s',ZyA s s'->Q b s')->wpAny C.M A (allTrue .Or vs env) Q E s
theorem QF.nil:QF C k env U [] false:=λA s Q E P hr hg hh hb q=>wpAny_allTrue_Or_nil (q s (Z3 s))
theorem QF.cons    (ha:YZ C k env U e a)(hs:a=false->QF C k env U es b):QF C k env U (e::es) (a||b):=λA s Q E P hr hg hh hb q=>by
 refine wpAny_allTrue_Or_cons (ha A s _ _ P hr hg hh hb λs₁ k₁=>?_)
 have x₁:=Zw k₁
 cases a with
 |true=>exact q s₁ k₁
 |false=>exact hs rfl A s₁ _ _ P hr (C.ext hg x₁) (hh.ext x₁) (hb.ext x₁) λs' k'=>q s' (Zu k₁ k')
theorem YZ.or    (h:QF C k env U vs b):YZ C k env U (.BoolOp .Or vs pos) b:=λA s Q E P hr hg hh hb q=>wpAny_isTrue_BoolOp (h A s Q E P hr hg hh hb q)
def Vz(C:Cx)(k:Nat)(env:Env)(U:Zx)(op:ZuU)(vs:List Zyc)(b:Bool):Prop:=
 ∀A s Q E P pos,Yw k A->C.G s.heap->X7 P env U s.heap->ZD P s.heap->(∀s',ZyA s s'->Q (.bool b) s')->wpAny C.M A (boolOp pos op (evalEach vs env)) Q E s
theorem Vz.one    (h:Ev C k env U e (.bool b)):Vz C k env U op [e] b:=λA s Q E P pos hr hg hh hb q=>
 h A s Q E P hr hg hh hb λv s' ks r=>by rw[Zr] at r;subst r;exact q s' ks
theorem Vz.and    (ha:Ev C k env U e (.bool a))(hs:a=true->Vz C k env U .And (f::es) b):Vz C k env U .And (e::f::es) (a&&b):=λA s Q E P pos hr hg hh hb q=>by
 show wpAny C.M A (do
  let v <-eval e env
  standAt pos
  let t <-holding [v] (truthy v)
  match BoolOp.And,t with
  |.And,false |.Or,true=>pure v
  |_,_=>boolOp pos .And (evalEach (f::es) env)) Q E s
 refine Zyf (ha A s _ _ P hr hg hh hb λv s₁ k₁ r₁=>Zyf (Zx3 (Zyf (ZyP ?_))))
 rw[Zr] at r₁
 subst r₁
 have x₁:=Zw k₁
 refine wpAny_truthy_bool ?_
 cases a with
 |false=>exact Zys (q s₁ k₁)
 |true=>exact hs rfl A s₁ _ _ P pos hr (C.ext hg x₁) (hh.ext x₁) (hb.ext x₁) λs' k'=>q s' (Zu k₁ k')
theorem Vz.or    (ha:Ev C k env U e (.bool a))(hs:a=false->Vz C k env U .Or (f::es) b):Vz C k env U .Or (e::f::es) (a||b):=λA s Q E P pos hr hg hh hb q=>by
 show wpAny C.M A (do
  let v <-eval e env
  standAt pos
  let t <-holding [v] (truthy v)
  match BoolOp.Or,t with
  |.And,false |.Or,true=>pure v
  |_,_=>boolOp pos .Or (evalEach (f::es) env)) Q E s
 refine Zyf (ha A s _ _ P hr hg hh hb λv s₁ k₁ r₁=>Zyf (Zx3 (Zyf (ZyP ?_))))
 rw[Zr] at r₁
 subst r₁
 have x₁:=Zw k₁
 refine wpAny_truthy_bool ?_
 cases a with
 |true=>exact Zys (q s₁ k₁)
 |false=>exact hs rfl A s₁ _ _ P pos hr (C.ext hg x₁) (hh.ext x₁) (hb.ext x₁) λs' k'=>q s' (Zu k₁ k')
theorem Ev.bo     (h:Vz C k env U op vs b):Ev C k env U (.BoolOp op vs pos) (.bool b):=λA s Q E P hr hg hh hb q=>by
 rw[arm_eval_BoolOp]
 exact h A s Q E P pos hr hg hh hb λs' ks=>q _ s' ks (Zr.mpr rfl)
theorem TG   {G:Zyd->Zyd->Sem Zyd}      (h₁:Z1 C k env U l a)(h₂:Z1 C k env U r b)(hr:Yw k A)(hg:C.G s.heap)(hh:X7 P env U s.heap)(hb:ZD P s.heap)
 (q:∀va vb s₂,ZyA s s₂->Rep (λ_=>True) s₂.heap a.pv va->Rep (λ_=>True) s₂.heap b.pv vb->wpAny C.M A (G va vb) Q E s₂):
 wpAny C.M A (eval l env) (λva s₁=>wpAny C.M A (eval r env) (λvb s₂=>wpAny C.M A (G va vb) Q E s₂) E s₁) E s:=by
 refine h₁ A s _ _ P hr hg hh hb λva s₁ k₁ r₁=>?_
 have x₁:=Zw k₁
 refine h₂ A s₁ _ _ P hr (C.ext hg x₁) (hh.ext x₁) (hb.ext x₁) λvb s₂ k₂ r₂=>?_
 exact q va vb s₂ (Zu k₁ k₂) (r₁.pv.ext (Zw k₂)) r₂.pv
theorem YZ.ju   {a b:AV}(h₁:Z1 C k env U l a)(h₂:Z1 C k env U r b)(Zo:alike a.pv b.pv=true)(hd:dep a.pv<=8)(hm:Zxx .Eq r=false):YZ C k env U (.Compare l [.Eq] [r] pos) (eqv a.pv b.pv):=λA s Q E P hr hg hh hb q=>
 wpAny_isTrue_Compare1 (TG (G:=λa b=>compareOp .Eq a b) (Q:=λc s₃=>wpAny C.M A (truthy c) Q E s₃) h₁ h₂ hr hg hh hb λva vb s₂ k₂ ra rb=>
  Bg ra rb Zo (by have:=hr.units;lia) _ _ _ _ (wpAny_truthy_bool (q s₂ k₂))) hm
theorem YZ.qn   {a b:AV}(h₁:Z1 C k env U l a)(h₂:Z1 C k env U r b)(Zo:alike a.pv b.pv=true)(hd:dep a.pv<=8)(hm:Zxx .NotEq r=false):YZ C k env U (.Compare l [.NotEq] [r] pos) (!eqv a.pv b.pv):=λA s Q E P hr hg hh hb q=>
 wpAny_isTrue_Compare1 (TG (G:=λa b=>compareOp .NotEq a b) (Q:=λc s₃=>wpAny C.M A (truthy c) Q E s₃) h₁ h₂ hr hg hh hb λva vb s₂ k₂ ra rb=>
  IE ra rb Zo (by have:=hr.units;lia) _ _ _ _ (wpAny_truthy_bool (q s₂ k₂))) hm
theorem Ev.ju   {a b:AV}(h₁:Z1 C k env U l a)(h₂:Z1 C k env U r b)(Zo:alike a.pv b.pv=true)(hd:dep a.pv<=8)(hm:Zxx .Eq r=false):Ev C k env U (.Compare l [.Eq] [r] pos) (.bool (eqv a.pv b.pv)):=λA s Q E P hr hg hh hb q=>
 wpAny_Compare1 (TG (G:=λa b=>compareOp .Eq a b) (Q:=Q) h₁ h₂ hr hg hh hb λva vb s₂ k₂ ra rb=>
  Bg ra rb Zo (by have:=hr.units;lia) _ _ _ _ (q _ s₂ k₂ (Zr.mpr rfl))) hm
theorem Ev.qn   {a b:AV}(h₁:Z1 C k env U l a)(h₂:Z1 C k env U r b)(Zo:alike a.pv b.pv=true)(hd:dep a.pv<=8)(hm:Zxx .NotEq r=false):Ev C k env U (.Compare l [.NotEq] [r] pos) (.bool (!eqv a.pv b.pv)):=λA s Q E P hr hg hh hb q=>
 wpAny_Compare1 (TG (G:=λa b=>compareOp .NotEq a b) (Q:=Q) h₁ h₂ hr hg hh hb λva vb s₂ k₂ ra rb=>
  IE ra rb Zo (by have:=hr.units;lia) _ _ _ _ (q _ s₂ k₂ (Zr.mpr rfl))) hm
end
section
variable {C:Cx}{k:Nat}{U:Zx}{s s' s₁:Zym}{h h':Zyp}{env:Env}
theorem ZR.notIn_str :ZR C k (compareOp .NotIn) (.str b) (.str a) (.bool (!Txt.contains a b)):=λA s Q E P va vb hr hg ra rb hb q=>by
 obtain⟨t,rfl⟩:=Zt.mp ra;obtain⟨u,rfl⟩:=Zt.mp rb
 exact PyProof.Rows.notIn_str (q _ _ (Z3 s) (Zr.mpr rfl))
end
noncomputable def AV.ZF:AV->Option PV
 |.val d=>some d
 |_=>none
noncomputable def ZJ(lo hi:Int)(i:Int):Bool:=decide (lo<=i)&&decide (i<hi)
noncomputable def Wh(a:AV):Option Int:=match a with
 |.val d=>(match d with |.int i=>some i |_=>none)
 |_=>none
noncomputable def YS(a:AV):Option Str:=match a with
 |.val d=>(match d with |.str i=>some i |_=>none)
 |_=>none
noncomputable def Nx(a:AV):Option (List PV):=match a with
 |.val d=>(match d with |.tup i=>some i |_=>none)
 |_=>none
noncomputable def Nw(a:AV):Option (List PV):=match a with
 |.own l=>some l
 |_=>none
theorem Dr   (h:Nw a=some l):a=.own l:=by
 cases a with
 |own m=>exact congrArg AV.own (Zyb h)
 |_=>exact nS h
theorem YA{P:AV->Prop}   (h:Wh a=some i)(q:P (.val (.int i))):P a:=by
 cases a with
 | val d=>cases d with
   |int j=>exact Zyb h ▸ q
   |_=>exact nS h
 |_=>exact nS h
theorem V5{P:AV->Prop}   (h:YS a=some i)(q:P (.val (.str i))):P a:=by
 cases a with
 | val d=>cases d with
   |str j=>exact Zyb h ▸ q
   |_=>exact nS h
 |_=>exact nS h
theorem ME{P:AV->Prop}   (h:Nx a=some i)(q:P (.val (.tup i))):P a:=by
 cases a with
 | val d=>cases d with
   |tup j=>exact Zyb h ▸ q
   |_=>exact nS h
 |_=>exact nS h
theorem Xb{a:AV}  (h:YS a=some x):a=.val (.str x):=V5 (P:=λa=>a=.val (.str x)) h rfl
theorem De{P:AV->Prop}   (h:a.ZF=some d)(q:P (.val d)):P a:=by
 cases a with
 |val d=>exact Zyb h ▸ q
 |_=>exact nS h
def UK(a b:AV)(f:Int->Int->Option PV):Option PV:=(Wh a).bind λx=>(Wh b).bind λy=>f x y
def YC(op:Zjf)(a b:AV):Option PV:=match op with
 |.Add=>Ua (UK a b λx y=>some (.int (x+y))) (Ua ((YS a).bind λx=>(YS b).bind λy=>if x.length+y.length<=Zyk then some (.str (x++y)) else none)
  ((listOf a).bind λl=>(listOf b).bind λm=>if l.length+m.length<=Zyk then some (.lst (l++m)) else none))
 |.Sub=>UK a b λx y=>some (.int (x-y))
 |.Mult=>UK a b λx y=>if Zvo x<=64 then some (.int (x*y)) else none
 |.FloorDiv=>UK a b λx y=>if y≠0/\Zw7 x y=false then some (.int (x.fdiv y)) else none
 |.Mod=>UK a b λx y=>if y≠0 then some (.int (x.fmod y)) else none
 |.Pow=>UK a b λx y=>if 0<=y/\(Zvo x:Int)*y<=2 ^ 27 then some (.int (x ^ y.toNat)) else none
 |_=>none
def DH(a b:AV)(f:Int->Int->Bool):Option Bool:=(Wh a).bind λx=>(Wh b).map λy=>f x y
def qo(x y:PV)(f:Bool->Bool):Option Bool:=match y with
 |.none=>if Yn x then some (f (eqv x .none)) else none
 |.bool y=>(match x with |.bool x=>some (f (x==y)) |_=>none)
 |_=>none
def q0(a b:AV)(f:Bool->Bool):Option Bool:=Ua ((YS a).bind λx=>(YS b).map λy=>f (Zwt y x))
 (a.ZF.bind λd=>(listOf b).bind λds=>if ds.all (λa=>alike a d&&Yn a&&decide (dep a<=5)) then some (f (ds.any λx=>eqv x d)) else none)
def Ys(op:CmpOp)(a b:AV):Option Bool:=
 match op with
 |.Lt=>DH a b λx y=>decide (x<y)
 |.LtE=>DH a b λx y=>decide (x<=y)
 |.Gt=>DH a b λx y=>decide (y<x)
 |.GtE=>DH a b λx y=>decide (y<=x)
 |.Eq=>if alike a.pv b.pv=true/\dep a.pv<=8 then some (eqv a.pv b.pv) else none
 |.NotEq=>if alike a.pv b.pv=true/\dep a.pv<=8 then some (!eqv a.pv b.pv) else none
 |.Is=>a.ZF.bind λx=>b.ZF.bind λy=>qo x y id
 |.IsNot=>a.ZF.bind λx=>b.ZF.bind λy=>qo x y not
 |.In=>q0 a b id
 |.NotIn=>q0 a b not
noncomputable def oc{γ β:Type}(o:Option γ)(k:γ->β)(d:β):β:=@Zqw γ (λ_=>β) o d k
theorem Qu  {P:Prop}    (h:oc o k d=r)(q:∀a,o=some a->k a=r->P)(q2:d=r->P):P:=by
 cases o with
 |none=>exact q2 h
 |some a=>exact q a rfl h
def ZV(a:AV)(i:PV):Option PV:=
 match i with
 |.int j=>oc (Nx a) (λds=>if ZJ 0 (2 ^ 63) j then ds[j.toNat]? else none) (oc (YS a) (λx=>if ZJ (-(2 ^ 63)) (2 ^ 63) j then (seqIndex? j x.length).bind λm=>x.cps[m]?.map λc=>.str ⟨#[c]⟩ else none)
  ((listOf a).bind λds=>if ZJ 0 (2 ^ 63) j then ds[j.toNat]? else if ZJ (-(2 ^ 63)) 0 j&&decide (-(ds.length:Int)<=j) then ds[(j+ds.length).toNat]? else none))
 |.bool b=>(listOf a).bind λds=>ds[if b then 1 else 0]?
 |_=>none
def QC(a:AV)(lo hi:Option Int):Option PV:=oc (YS a) (λx=>if x.length<=Zyk then some (.str (Yg lo hi x)) else none)
 ((listOf a).bind λds=>if ds.length<=Zyk then some (.lst (ZZ lo hi ds)) else none)
noncomputable def Qj(strict:Bool)(a:AV):Option (List PV):=match a with
 |.val d=>(match d with |.lst ds=>some ds |.str t=>some (t.cps.toList.map λc=>.str ⟨#[c]⟩) |_=>none)
 |.own ds=>if strict then none else some ds
 |_=>none
structure Sg where
 cl:Str->List AV->Option PV
 mt:Str->AV->List AV->Option PV
 gv:Str->Option PV
 xe:Zy6->Zx->Zyc->Option AV
noncomputable def XK(f:PV->Option (Option PV)):List PV->Option (List PV)
 |[]=>some []
 |d::r=>(f d).bind λo=>o.elim (XK f r) λy=>(XK f r).map (y::·)
noncomputable def Wm(scope sc:Zy6):Zy6:={ scope with names:=scope.names.map λ(n,k)=>if (k==.free&&sc.kind==.function&&sc.names.lookup n==some .cell) then (n,.cell) else (n,k) }
def Vv(scope:Zy6)(Zq:Zyc):Bool:=
 scope.kind==.function&&scope.names.all (λx=>x.2 != .local||scope.names.lookup x.1==some .local)&&(Zc Zq).all (λx=>scope.names.lookup x==some .local||scope.names.contains (x,.cell))&&
  scope.names.all (λx=>x.2 != .free||scope.names.lookup x.1==some .free)&&scope.names.all (λx=>x.2 != .cell||scope.names.lookup x.1==some .cell)&&decide (Zc Zq≠[])
noncomputable def Vy(scope sc:Zy6)(U:Zx):Bool:=scope.names.all λx=>x.2 != .free||((U x.1).isSome&&(sc.names.lookup x.1==some .cell||sc.names.lookup x.1==some .free))
def Xe(e:Zyc):Bool:=tP e (λ_ _ _=>false) true
def KX(e:Zyc):Bool:=km e (λ_ _ _ _=>false) true
def isName(e:Zyc):Bool:=Wl e (λ_ _=>true) false
def notStar(e:Zyc):Bool:=cW e (λ_ _=>false) true
def V4(e:Zyc):Bool:=Gr e (λ_ _ _ _=>false) true
def Jh(e:Zyc):Bool:=dUn e (λop _ _=>match op with |.Not=>false |_=>true) (jj e (λ_ _ _=>false) (tO e (λ_ _ _ _=>false) (PM e (λ_ _ _ _=>false) true)))
def JC:PV->Option Bool
 |.str x=>if x.length<=Zyk then some (x.length != 0) else none
 |d=>wu d
noncomputable def Y0(x:Str):Bool:=!(x==("__debug__":Str))&&!(x==("__classdict__":Str))
noncomputable def Ym(sc:Zy6)(x:Str):Bool:=sc.names.lookup x==some .globalImplicit
def JB(as:List AV):Option (List PV):=oc (Vr as Wh) (λb=>if ZJ (-(2 ^ 62)) (2 ^ 62) b then some (ZQ 0 b) else none)
 (DX as λa b=>(Wh a).bind λa=>(Wh b).bind λb=>if ZJ (-(2 ^ 62)) (2 ^ 62) a&&ZJ (-(2 ^ 62)) (2 ^ 62) b then some (ZQ a b) else none)
def Cv(as:List AV):Option AV:=
 DX as λa b=>(Wh a).bind λa=>(Wh b).bind λb=>if ZJ (-(2 ^ 62)) (2 ^ 62) a&&ZJ (-(2 ^ 62)) (2 ^ 62) b&&decide ((b-a).toNat<=2 ^ 24) then some (.val (.lst (ZQ a b))) else none
def zip2(strict:Bool)(as:List AV):Option (List PV):=
 DX as λa b=>(listOf a).bind λl=>(listOf b).bind λm=>if strict&&(a.ZF.isNone||b.ZF.isNone) then none else some (Qv l m)
noncomputable def xb(d:PV):Bool:=(match d with |.tup l=>(match l with |[_,_]=>true |_=>false) |_=>false)
section
variable (S:Sg)(fe:Zy6->Zx->Zyc->Option AV)(fs:Zy6->Zx->List Zyc->Option (List AV))(fp:Zy6->Zx->Option Zyc->Option (Option Int))(fb:Zy6->Zx->Zyc->Option Bool)
 (fo:Zy6->Zx->ZuU->List Zyc->Option Bool) (ft:Zy6->Zx->Bool->Zyc->Zyc->Option (List PV)) (fu:Zy6->Zx->Zyc->List Zyc->Zyc->PV->Option (Option PV)) (sc:Zy6) (U:Zx)
def bJ(x:Str):Option AV:=if Y0 x then (if Ym sc x then (S.gv x).map .val else U x) else none
noncomputable def jl(c:Const)(d:Option AV):Option AV:=match c with
 |.int i=>some (.val (.int i))
 |.str x=>some (.val (.str x))
 |.none=>some (.val .none)
 |.bool b=>some (.val (.bool b))
 |_=>d
def nC(l:Zyc)(op:Zjf)(r:Zyc):Option AV:=(fe sc U l).bind λa=>(fe sc U r).bind λb=>(YC op a b).map .val
def bQ(op:UnaryOp)(x:Zyc)(d:Option AV):Option AV:=match op with
 |.USub=>(fe sc U x).bind λa=>(Wh a).map λi=>.val (.int (-i))
 |_=>d
def Tw(l:Zyc)(op:CmpOp)(r:Zyc):Option Bool:=if Zxx op r then none else (fe sc U l).bind λa=>(fe sc U r).bind λb=>Ys op a b
noncomputable def sT(t a b:Zyc):Option AV:=(fb sc U t).bind λc=>(fe sc U (if c then a else b)).bind λx=>x.ZF.map .val
def jm(o i:Zyc)(d:Option AV):Option AV:=km i (λlo hi st _=>oc st (λ_=>none) (if isName o then (fe sc U o).bind λa=>(fp sc U lo).bind λl=>(fp sc U hi).bind λu=>(QC a l u).map .val else d))
 ((fe sc U o).bind λa=>(fe sc U i).bind λj=>j.ZF.bind λj=>(ZV a j).map .val)
def Pn(f:List PV->PV)(es:List Zyc):Option AV:=(fs sc U es).bind λas=>(as.mapM AV.ZF).bind λds=>if ds.length<=Zyk then some (.val (f ds)) else none
def RY (x:Str) (args:List Zyc) (pl:Option AV):Option AV:=if Y0 x&&Ym sc x&&decide (args.length<29) then
    d1 args (λe=>LM e (λy b9=>if x==("list":Str)&&y==("range":Str)&&Ym sc y then (fs sc U b9).bind Cv else pl) pl) pl
 else none
def yC(f:Zyc)(args:List Zyc)(pos:Pos)(d:Option AV):Option AV:=Wl f (λx _=>RY fs sc U x args ((fs sc U args).bind λas=>(S.cl x as).map .val))
 (DP f (λo name apos=>if apos.endLine==pos.line&&decide (args.length<29)&&V4 o then (fe sc U o).bind λa=>(fs sc U args).bind λas=>(S.mt name a as).map .val else none) d)
def yD (elt Zq iter:Zyc) (ifs:List Zyc) (scope:Zy6):Option AV:=if Vv scope Zq&&Vy scope sc U&&Xe iter then
    (ft sc U false Zq iter).bind λds=>if ds.length<=Zyk then
     match XK (λd=>fu (Wm scope sc) (U1 scope U) Zq ifs elt d) ds with
     |some ys=>some (.val (.lst ys))
     |none=>(XK (λd=>fu (Wm scope sc) (VT scope U) Zq ifs elt d) ds).bind λys=>if ys.all Yv then some (.val (.lst ys)) else none
    else none
 else none
def sH(elt:Zyc)(gens:List ZwK)(scope:Zy6)(d:Option AV):Option AV:=d1 gens (λg=>if g.is_async=0 then yD ft fu sc U elt g.target g.iter g.ifs scope else d) d
def mq(e:Zyc):Option AV:=@Expr.casesOn (λ_=>Option AV) e (λop vs _=>(fo sc U op vs).map λb=>.val (.bool b)) (λ_ _ _=>(S.xe sc U e)) (λl op r _=>nC fe sc U l op r) (λop x _=>bQ fe sc U op x (S.xe sc U e)) (λ_ _ _ _=>(S.xe sc U e)) (λt a b _=>sT fe fb sc U t a b) (λ_ _ _=>(S.xe sc U e)) (λ_ _ _=>(S.xe sc U e)) (λelt gens scope _=>sH ft fu sc U elt gens scope (S.xe sc U e)) (λ_ _ _ _=>(S.xe sc U e)) (λ_ _ _ _ _=>(S.xe sc U e)) (λ_ _ _ _=>(S.xe sc U e)) (λ_ _=>(S.xe sc U e)) (λ_ _=>(S.xe sc U e)) (λ_ _=>(S.xe sc U e)) (λl ops rs _=>d1 ops (λop=>d1 rs (λr=>(Tw fe sc U l op r).map λc=>.val (.bool c)) (S.xe sc U e)) (S.xe sc U e)) (λf args LY pos=>d0 LY (yC S fe fs sc U f args pos (S.xe sc U e)) (S.xe sc U e)) (λ_ _ _ _=>(S.xe sc U e)) (λ_ _=>(S.xe sc U e)) (λc _ _=>jl c (S.xe sc U e)) (λ_ _ _=>(S.xe sc U e)) (λo i _=>jm fe fp sc U o i (S.xe sc U e)) (λ_ _=>(S.xe sc U e)) (λx _=>bJ S sc U x) (λes _=>Pn fs sc U .lst es) (λes _ _=>Pn fs sc U .tup es) (λ_ _ _ _=>(S.xe sc U e))
def jY(fa:Zy6->Zx->Bool->List Zyc->Option Bool)(e:Zyc):Option Bool:=
 PM e (λl ops rs _=>d1 ops (λop=>d1 rs (λr=>Tw fe sc U l op r) none) none) (jj e (λop vs _=>fa sc U (match op with |.And=>true |.Or=>false) vs)
  (if Jh e then (fe sc U e).bind λa=>a.ZF.bind JC else none))
def jZ (op:ZuU) (vs:List Zyc):Option Bool:=dc vs (λe r=>(fe sc U e).bind λa=>a.ZF.bind λd=>match d with
    |.bool b=>dc r (λ_ _=>if b=(match op with |.And=>true |.Or=>false) then fo sc U op r else some b) (some b)
    |_=>none) none
def j9(f1:Zy6->Zx->Bool->Zyc->Option (List PV))(f2:Zy6->Zx->Zyc->Option (List PV))(strict:Bool)(Zq e:Zyc):Option (List PV):=
 Wl Zq (λ_ _=>LM e (λx args=>if x==("range":Str) then (if Ym sc x then (fs sc U args).bind JB else none) else f1 sc U strict e) (f1 sc U strict e))
  (FT Zq (λes _ _=>LL es (λ_ _=>LM e (λx args=>if x==("zip":Str) then (if Ym sc x then (fs sc U args).bind (zip2 strict) else none) else f2 sc U e) (f2 sc U e)) none) none)
def RK(Zq:Zyc)(ifs:List Zyc)(elt:Zyc)(d:PV):Option (Option PV):=(partsOf Zq d).bind λps=>
 match ifs with
 |[]=>(fe sc (Zi U (Zc Zq) ps) elt).bind λy=>y.ZF.map some
 |[c]=>(fb sc (Zi U (Zc Zq) ps) c).bind λb=>if b then (fe sc (Zi U (Zc Zq) ps) elt).bind λy=>y.ZF.map some else some none
 |_=>none
end
mutual
noncomputable def ev(S:Sg):Nat->Zy6->Zx->Zyc->Option AV
 |0,_,_,_=>none
 |n+1,sc,U,e=>mq S (ev S n) (Xl S n) (Ft S n) (Yi S n) (V2 S n) (Y1 S n) (YH S n) sc U e
noncomputable def Xl(S:Sg):Nat->Zy6->Zx->List Zyc->Option (List AV)
 |0,_,_,_=>none
 | n+1,sc,U,es=>match es with
   |[]=>some []
   |e::r=>if notStar e then (ev S n sc U e).bind λa=>(Xl S n sc U r).map (a::·) else none
noncomputable def Ft(S:Sg):Nat->Zy6->Zx->Option Zyc->Option (Option Int)
 |0,_,_,_=>none
 | n+1,sc,U,e=>match e with
   |none=>some none
   |some e=>(ev S n sc U e).bind λa=>(Wh a).map some
noncomputable def Yi(S:Sg):Nat->Zy6->Zx->Zyc->Option Bool
 |0,_,_,_=>none
 |n+1,sc,U,e=>jY (ev S n) sc U (Wg S n) e
noncomputable def Wg(S:Sg):Nat->Zy6->Zx->Bool->List Zyc->Option Bool
 |0,_,_,_,_=>none
 | n+1,sc,U,all,vs=>match vs with
   |[]=>some all
   |e::r=>(Yi S n sc U e).bind λb=>if b==all then Wg S n sc U all r else some b
noncomputable def V2(S:Sg):Nat->Zy6->Zx->ZuU->List Zyc->Option Bool
 |0,_,_,_,_=>none
 |n+1,sc,U,op,vs=>jZ (ev S n) (V2 S n) sc U op vs
noncomputable def Y1(S:Sg):Nat->Zy6->Zx->Bool->Zyc->Zyc->Option (List PV)
 |0,_,_,_,_,_=>none
 |n+1,sc,U,strict,Zq,e=>j9 (Xl S n) sc U (Qg S n) (K4 S n) strict Zq e
noncomputable def Qg(S:Sg):Nat->Zy6->Zx->Bool->Zyc->Option (List PV)
 |0,_,_,_,_=>none
 |n+1,sc,U,strict,e=>(ev S n sc U e).bind (Qj strict)
noncomputable def K4(S:Sg):Nat->Zy6->Zx->Zyc->Option (List PV)
 |0,_,_,_=>none
 | n+1,sc,U,e=>(ev S n sc U e).bind λa=>a.ZF.bind λd=>match d with
   |.lst ds=>if ds.all xb then some ds else none
   |_=>none
noncomputable def YH(S:Sg):Nat->Zy6->Zx->Zyc->List Zyc->Zyc->PV->Option (Option PV)
 |0,_,_,_,_,_,_=>none
 |n+1,sc,U,Zq,ifs,elt,d=>RK (ev S n) (Yi S n) sc U Zq ifs elt d
end
structure X9(C:Cx)(k:Nat)(S:Sg):Prop where
 cl:∀x as d,S.cl x as=some d->∀env U p pos args,Zp env->env.kindOf x=some .globalImplicit->ZW C k env U args as->(x==("__debug__":Str))=false->args.length<29->Ev C k env U (.Call (.Name x p) args [] pos) d
 mt:∀name a as d,S.mt name a as=some d->∀env U o apos pos args,Z1 C k env U o a->ZW C k env U args as->attributeBase o name env (eval o env)=eval o env->(apos.endLine==pos.line)=true->args.length<29->
  Ev C k env U (.Call (.Attribute o name apos) args [] pos) d
 gv:∀x d,S.gv x=some d->∃v,C.mg x=some v/\∀P h,Rep P h d v
 xe:∀env U e a,Zp env->S.xe env.scope U e=some a->Z1 C k env U e a
 bi:∀x,x=("list":Str)∨x=("range":Str)∨x=("zip":Str)->C.mg x=none
 list:C.mb "list"=some (.type "list")
 range:C.mb "range"=some (.type "range")
 zip:C.mb "zip"=some (.type "zip")
section
variable {C:Cx}{k:Nat}{U:Zx}{s s' s₁:Zym}{h h':Zyp}{env:Env}
theorem Z1.name    (hf:Zp env)(hx:U x=some a)(hd:(x==("__debug__":Str))=false)(hn:(x==("__classdict__":Str))=false):Z1 C k env U (.Name x pos) a:=λA s Q E P hr hg hh hb q=>by
 have H:=hh x _ hx
 cases a with
 |val d=>obtain⟨v,l,r⟩:=H;exact wpAny_Name (Xc hf.kind l hn (q v s (Z3 s) r)) hd
 |own ds=>obtain⟨b,vs,n,l,e,r⟩:=H;exact wpAny_Name (Xc hf.kind l hn (q _ s (Z3 s) ⟨b,vs,n,rfl,e,r⟩)) hd
 |tab c ds=>obtain⟨a,d,b,vs,l,T,r⟩:=H;exact wpAny_Name (Xc hf.kind l hn (q _ s (Z3 s) ⟨a,d,b,vs,rfl,T,r⟩)) hd
theorem Yz  (h:Y0 x=true):(x==("__debug__":Str))=false/\(x==("__classdict__":Str))=false:=by
 simp only[Y0,ZyW,Zxg] at h;exact h
theorem Z1.ev    (h:Z1 C k env U e a)(hd:a.ZF=some d):Ev C k env U e d:=by
 cases a with
 |val _=>cases hd;exact h
 |own _=>exact nS hd
 |tab _ _=>exact nS hd
theorem Z1.l    (h:Z1 C k env U e a)(hd:listOf a=some ds):Qx C k env U e ds:=
 Ab hd (λq=>Qx.of (q ▸ h:Z1 C k env U e (.val (.lst ds)))) λq A s Q E P hr hg hh hb r=>(q ▸ h:Z1 C k env U e (.own ds)) A s Q E P hr hg hh hb λv s' ks z=>Zxm z λa z=>z.elim λvs z=>z.elim λn z=>z.1 ▸ r a vs n s' ks z.2.1 z.2.2
theorem Q0       (h₁:Z1 C k env U l a)(h₂:Z1 C k env U r b)(h:UK a b f=some c)(t:∀x y,f x y=some c->ZR C k (binaryOp op) (.int x) (.int y) c):Ev C k env U (.BinOp l op r pos) c:=
 Zj h λx e1 h=>Zj h λy e2 h=>Ev.binop (YA (P:=λa=>Z1 C k env U l a->Ev C k env U l (.int x)) e1 id h₁) (YA (P:=λb=>Z1 C k env U r b->Ev C k env U r (.int y)) e2 id h₂) (t x y h)
theorem yu      (h₁:Z1 C k env U l a)(h₂:Z1 C k env U r b)(h:YC op a b=some c):Ev C k env U (.BinOp l op r pos) c:=by
 cases op with
 | Add=>
   exact QA h (λh=>Q0 h₁ h₂ h λx y=>ZG ZR.add_int) λh=>QA h
    (λh=>Zj h λx e1 h=>Zj h λy e2 h=>Zl h λhc h=>Ev.binop (V5 (P:=λa=>Z1 C k env U l a->Ev C k env U l (.str x)) e1 id h₁) (V5 (P:=λb=>Z1 C k env U r b->Ev C k env U r (.str y)) e2 id h₂) (ZG (ZR.add_str hc) h))
    (λh=>Zj h λm e1 h=>Zj h λm' e2 h=>Zl h λhc h=>ZG (P:=λc=>Ev C k env U (.BinOp l .Add r pos) c) (Ww.add_list (h₁.l e1) (h₂.l e2) hc).ev h)
 |Sub=>exact Q0 h₁ h₂ h λx y=>ZG ZR.sub_int
 |Mult=>exact Q0 h₁ h₂ h λx y h=>Zl h λhc h=>ZG (ZR.mul_int (IntMulOk.of_left hc)) h
 |FloorDiv=>exact Q0 h₁ h₂ h λx y h=>Zl h λhc h=>ZG (ZR.uZ hc.1 hc.2) h
 |Mod=>exact Q0 h₁ h₂ h λx y h=>Zl h λhc h=>ZG (ZR.mod_int hc) h
 |Pow=>exact Q0 h₁ h₂ h λx y h=>Zl h λhc h=>ZG (ZR.pow_int hc.1 hc.2) h
 |_=>exact nS h
theorem fT  {ds:List PV}(h:ds.all (λa=>alike a d&&Yn a&&decide (dep a<=5))=true):∀x∈ds,alike x d=true/\Yn x=true/\dep x<=5:=λx hx=>
 Z0 (ZyV.mp h x hx) λh h3=>Z0 h λh1 h2=>⟨h1,h2,of_decide_eq_true h3⟩
section
variable {l r:Zyc}{op:CmpOp}{pos:Pos}{a b:AV}{c:Bool}
def QD(C:Cx)(k:Nat)(env:Env)(U:Zx)(l r:Zyc)(op:CmpOp)(pos:Pos)(c:Bool):Prop:=YZ C k env U (.Compare l [op] [r] pos) c/\Ev C k env U (.Compare l [op] [r] pos) (.bool c)
theorem QD.two  (h₁:Ev C k env U l x)(h₂:Ev C k env U r y)(t:ZR C k (compareOp op) x y (.bool c))(hm:Zxx op r=false):QD C k env U l r op pos c:=⟨YZ.cmp h₁ h₂ t hm,Ev.cmp h₁ h₂ t hm⟩
theorem QD.ints  (h₁:Z1 C k env U l a)(h₂:Z1 C k env U r b)(h:DH a b f=some c)(t:∀x y,ZR C k (compareOp op) (.int x) (.int y) (.bool (f x y)))(hm:Zxx op r=false):QD C k env U l r op pos c:=
 Zj h λx e1 h=>YQ h λy e2 e=>.two (YA (P:=λa=>Z1 C k env U l a->Ev C k env U l (.int x)) e1 id h₁) (YA (P:=λb=>Z1 C k env U r b->Ev C k env U r (.int y)) e2 id h₂) (e ▸ t x y) hm
theorem QD.is  (h₁:Z1 C k env U l a)(h₂:Z1 C k env U r b)(h:(a.ZF.bind λx=>b.ZF.bind λy=>qo x y f)=some c)(t1:∀x,Yn x=true->ZR C k (compareOp op) x .none (.bool (f (eqv x .none))))(t2:∀x y,ZR C k (compareOp op) (.bool x) (.bool y) (.bool (f (x==y))))(hm:Zxx op r=false):QD C k env U l r op pos c:=
 Zj h λx e1 h=>Zj h λy e2 h=>by
  have h₁:=h₁.ev e1;have h₂:=h₂.ev e2
  cases y with
  |none=>exact Zl h λhp h=>.two h₁ h₂ (Zyb h ▸ t1 x hp) hm
  | bool y=>cases x with
    |bool x=>exact .two h₁ h₂ (Zyb h ▸ t2 x y) hm
    |_=>exact nS h
  |_=>exact nS h
theorem QD.aW{f:Bool->Bool}(h₁:Z1 C k env U l a)(h₂:Z1 C k env U r b)(h:q0 a b f=some c)(t1:∀x y,ZR C k (compareOp op) (.str x) (.str y) (.bool (f (Zwt y x))))
 (t2:∀d ds,Ev C k env U l d->listOf b=some ds->(∀a∈ds,alike a d=true/\Yn a=true/\dep a<=5)->QD C k env U l r op pos (f (ds.any λx=>eqv x d))) (hm:Zxx op r=false):QD C k env U l r op pos c:=
 QA h (λh=>Zj h λx e1 h=>YQ h λy e2 e=>.two (V5 (P:=λa=>Z1 C k env U l a->Ev C k env U l (.str x)) e1 id h₁) (V5 (P:=λb=>Z1 C k env U r b->Ev C k env U r (.str y)) e2 id h₂) (e ▸ t1 x y) hm)
  λh=>Zj h λd e1 h=>Zj h λds e2 h=>Zl h λhc h=>Zyb h ▸ t2 d ds (h₁.ev e1) e2 (fT hc)
theorem fW(h₁:Z1 C k env U l a)(h₂:Z1 C k env U r b)(h:Ys op a b=some c)(hm:Zxx op r=false):QD C k env U l r op pos c:=by
 cases op with
 |Lt=>exact .ints h₁ h₂ h (λ_ _=>ZR.lt_int) hm
 |LtE=>exact .ints h₁ h₂ h (λ_ _=>ZR.le_int) hm
 |Gt=>exact .ints h₁ h₂ h (λ_ _=>ZR.gt_int) hm
 |GtE=>exact .ints h₁ h₂ h (λ_ _=>ZR.ge_int) hm
 |Eq=>exact Zl h λhc h=>Zyb h ▸ ⟨YZ.ju h₁ h₂ hc.1 hc.2 hm,Ev.ju h₁ h₂ hc.1 hc.2 hm⟩
 |NotEq=>exact Zl h λhc h=>Zyb h ▸ ⟨YZ.qn h₁ h₂ hc.1 hc.2 hm,Ev.qn h₁ h₂ hc.1 hc.2 hm⟩
 |Is=>exact .is h₁ h₂ h (λ_ hp=>ZR.is_none hp) (λ_ _=>ZR.is_bool) hm
 |IsNot=>exact .is h₁ h₂ h (λ_ hp=>ZR.isNot_none hp) (λ_ _=>ZR.SH) hm
 |In=>exact .aW h₁ h₂ h (λ_ _=>ZR.in_str) (λ_ _ h₁ e Zo=>⟨YZ.NO h₁ h₂ e Zo hm,Ev.NO h₁ h₂ e Zo hm⟩) hm
 |NotIn=>exact .aW h₁ h₂ h (λ_ _=>ZR.notIn_str) (λ_ _ h₁ e Zo=>⟨YZ.Gz h₁ h₂ e Zo hm,Ev.Gz h₁ h₂ e Zo hm⟩) hm
end
theorem in_of{lo hi j:Int}(h:ZJ lo hi j=true):lo<=j/\j<hi:=Z0 h λh1 h2=>⟨of_decide_eq_true h1,of_decide_eq_true h2⟩
theorem ux     (h₁:Z1 C k env U o a)(h₂:Ev C k env U i j)(h:ZV a j=some d)(hs:∀a b,subscripted i false a b=operate [a,b] (getItem a b)):Ev C k env U (.Subscript o i pos) d:=by
 cases j with
 | int j=>
   exact Qu h (λds e1 h=>Zl h λhc h=>Ev.item_tup (ME (P:=λa=>Z1 C k env U o a->Ev C k env U o (.tup ds)) e1 id h₁) h₂ (in_of hc).1 (in_of hc).2 h hs)
    λh=>Qu h (λx e1 h=>Zl h λhc h=>Zj h λm hm h=>YQ h λc Fn e=>e ▸ Ev.item_str (V5 (P:=λa=>Z1 C k env U o a->Ev C k env U o (.str x)) e1 id h₁) h₂ (in_of hc).1 (in_of hc).2 hm Fn hs)
    λh=>Zj h λds e1 h=>Y4 h (λhc h=>Ev.item (h₁.l e1) h₂ (in_of hc).1 (in_of hc).2 h hs)
    λ_ h=>Zl h λhc h=>Z0 hc λhc hd=>Ev.zu (h₁.l e1) h₂ (in_of hc).2 (of_decide_eq_true hd) (in_of hc).1 h hs
 |bool b=>exact Zj h λds e1 h=>Ev.EF (h₁.l e1) h₂ h hs
 |_=>exact nS h
theorem Oa  {lo hi:Option Zyc}     (ho:Z1 C k env U o a)(hl:Qy C k env U lo i)(hu:Qy C k env U hi j)(h:QC a i j=some d)
 (ht:∀a r,letTemporaryGo o a r=pure ()):Ev C k env U (.Subscript o (.Slice lo hi Zxz p) pos) d:=
 Qu h (λx e1 h=>Zl h λhc h=>Zyb h ▸ Ev.Eh (V5 (P:=λa=>Z1 C k env U o a->Ev C k env U o (.str x)) e1 id ho) hl hu hc ht)
  λh=>Zj h λds e1 h=>Zl h λhc h=>Zyb h ▸ Ev.slice_list (ho.l e1) hl hu hc ht
end
theorem UY   (h:Vv scope Zq=true):WM scope Zq:=by
 simp only[Vv,ZyW,ZyV,Zwy,beq_iff_eq,bne_iff_ne,decide_eq_true_eq,ZwQ] at h
 obtain⟨⟨⟨⟨⟨h1,h2⟩,h3⟩,h4⟩,h5⟩,h6⟩:=h
 exact⟨h1,λx hx e=>(h2 x hx).resolve_left (λn=>n e),λx hx=>h3 x hx,λx hx e=>(h4 x hx).resolve_left (λn=>n e),λx hx e=>(h5 x hx).resolve_left (λn=>n e)⟩
theorem Dy    (h:Vy scope env.scope U=true):G3 scope env U:=by
 intro x hx e
 simp only[Vy,ZyV,Zwy,ZyW,beq_iff_eq,bne_iff_ne] at h
 obtain⟨h1,h2⟩:=(h x hx).resolve_left (λn=>n e)
 exact⟨ZuI.mp h1,h2⟩
theorem IG   (h:Xe e=true):∀x,Zxs e env x=pure x:=by
 intro x;cases e<;>first |rfl |cases h
theorem Wy    (h:notStar e=true):Zxn (e::es) env=(false,eval e env)::Zxn es env:=by cases e<;>first |rfl |cases h
theorem HP     (h:V4 o=true):attributeBase o name env m=m:=by cases o<;>first |rfl |cases h
theorem M0   (h:Jh e=true):isTrue e env (eval e env)=(do let v <-eval e env;standAt e.pos;holding [v] (truthy v)):=by
 cases e<;>first |rfl |cases h |skip
 rename_i op x p
 cases op<;>first |rfl |cases h
theorem F0   (h:listOf a=some l)(hv:a.ZF.isNone=false):a=.val (.lst l):=by
 cases a with
 | val d=>cases d with
   |lst m=>cases h;rfl
   |_=>cases h
 |own ds=>cases hv
 |tab c ds=>cases h
theorem vU  (h:isName o=true):∀a r,letTemporaryGo o a r=pure ():=λa r=>
 Xy h (λx p e _=>by rw[e];rfl) (λh=>nomatch h)
theorem kR  (h:KX i=true):∀a b,subscripted i false a b=operate [a,b] (getItem a b):=by
 intro a b;cases i<;>first |rfl |cases h
theorem wH  (h:xb d=true):∃a b,d=.tup [a,b]:=by
 cases d with
 | tup l=>
   cases l with
   |nil=>cases h
   | cons a l=>cases l with
     |nil=>cases h
     | cons b l=>cases l with
       |nil=>exact⟨a,b,rfl⟩
       |cons _ _=>cases h
 |_=>cases h
structure Sound(C:Cx)(k:Nat)(S:Sg)(n:Nat):Prop where
 ev:∀env U e a,Zp env->Mine.Internal.ev S n env.scope U e=some a->Z1 C k env U e a
 Xl:∀env U es as,Zp env->Mine.Internal.Xl S n env.scope U es=some as->ZW C k env U es as
 Ft:∀env U e i,Zp env->Mine.Internal.Ft S n env.scope U e=some i->Qy C k env U e i
 Yi:∀env U e b,Zp env->Mine.Internal.Yi S n env.scope U e=some b->YZ C k env U e b
 Wg:∀env U es b,Zp env->Mine.Internal.Wg S n env.scope U true es=some b->Uy C k env U es b
 xV:∀env U es b,Zp env->Mine.Internal.Wg S n env.scope U false es=some b->QF C k env U es b
 V2:∀env U op es b,Zp env->Mine.Internal.V2 S n env.scope U op es=some b->Vz C k env U op es b
 Y1:∀env U strict Zq e ds,Zp env->Mine.Internal.Y1 S n env.scope U strict Zq e=some ds->YV C k env U strict Zq e ds
 Qg:∀env U strict x p e ds,Zp env->Mine.Internal.Qg S n env.scope U strict e=some ds->YV C k env U strict (.Name x p) e ds
 K4:∀env U strict x y p1 p2 kk p e ds,Zp env->Mine.Internal.K4 S n env.scope U e=some ds->YV C k env U strict (.Tuple [.Name x p1,.Name y p2] kk p) e ds
 turn:∀env U Zq ifs elt d r,Zp env->YH S n env.scope U Zq ifs elt d=some r->Jb C k env U Zq ifs elt d r
section
variable {C:Cx}{k:Nat}{S:Sg}
theorem Gv       (hf:∀d r,f d=some r->Jb C k env U Zq ifs elt d r)(ds:List PV):∀{ys:List PV},XK f ds=some ys->XE C k env U Zq ifs elt ds ys:=by
 induction ds with
 |nil=>exact λh=>(Zyb h).symm
 | cons d ds ih=>
   exact λh=>Zj h λo e h=>by
    cases o with
    |none=>exact⟨none,_,hf d _ e,rfl,ih h⟩
    |some y=>exact YQ h λzs h1 e2=>⟨some y,zs,hf d _ e,e2,ih h1⟩
theorem Ac :∀{ds:List PV},as.mapM AV.ZF=some ds->as=ds.map .val:=by
 induction as with
 |nil=>intro ds h;exact ZG (P:=λds=>[]=ds.map AV.val) rfl h
 | cons a as ih=>
   intro ds h
   rw[ZwH] at h
   exact Zj h λd h1 h=>Zj h λes h2 h=>ZG (P:=λds=>a::as=ds.map AV.val) (De (P:=λa=>a::as=(d::es).map AV.val) h1 (congrArg _ (ih h2))) h
theorem bY.ok         (h:Z1 C k env U e a)(hd:Qj strict a=some ds):YV C k env U strict (.Name x p) e ds:=by
 cases a with
 | val d=>
   cases d with
   |lst l=>exact ZG (YV.nA h) hd
   |str t=>exact ZG (YV.str h) hd
   |_=>exact nS hd
 | own es=>
   cases strict with
   |true=>exact nS hd
   |false=>exact ZG (YV.lD (h.l rfl)) hd
 |tab c es=>exact nS hd
section
variable {fe:Zy6->Zx->Zyc->Option AV}{fs:Zy6->Zx->List Zyc->Option (List AV)}{fp:Zy6->Zx->Option Zyc->Option (Option Int)}{fb:Zy6->Zx->Zyc->Option Bool}
 {fo:Zy6->Zx->ZuU->List Zyc->Option Bool}{ft:Zy6->Zx->Bool->Zyc->Zyc->Option (List PV)}{fu:Zy6->Zx->Zyc->List Zyc->Zyc->PV->Option (Option PV)}{env:Env}{U:Zx}{a:AV}{pos:Pos}
theorem N4  (h:Ym env.scope x=true):env.kindOf x=some .globalImplicit:=eq_of_beq h
theorem kF(H:X9 C k S)(hf:Zp env)  (h:bJ S env.scope U x=some a):Z1 C k env U (.Name x pos) a:=
 Zl h λhn h=>Y4 h (λhg h=>YQ h λd h1 e=>by
  rw[e]
  obtain⟨v,e1,e2⟩:=H.gv _ _ h1
  exact λA s Q E P hr o4 hh hb q=>JN hf ⟨e1,N4 hg⟩ o4 (q v s (Z3 s) (e2 _ _)) (Yz hn).1) λ_ h=>Z1.name hf h (Yz hn).1 (Yz hn).2
theorem wi    (h:jl c d=some a)(q:d=some a->Z1 C k env U (.Constant c n pos) a):Z1 C k env U (.Constant c n pos) a:=by
 cases c with
 |int i=>exact ZG (P:=Z1 C k env U _) (a:=.val (.int i)) Ev.int h
 |str x=>exact ZG (P:=Z1 C k env U _) (a:=.val (.str x)) Ev.str h
 |none=>exact ZG (P:=Z1 C k env U _) (a:=.val .none) Ev.none h
 |bool b=>exact ZG (P:=Z1 C k env U _) (a:=.val (.bool b)) Ev.bool h
 |_=>exact q h
section
variable (he:∀env U e a,Zp env->fe env.scope U e=some a->Z1 C k env U e a)(hf:Zp env)
include he hf
theorem kG    (h:bQ fe env.scope U op x d=some a)(q:d=some a->Z1 C k env U (.UnaryOp op x pos) a):Z1 C k env U (.UnaryOp op x pos) a:=by
 cases op with
 |USub=>exact Zj h λy h1 h=>YQ h λi h2 e=>e ▸ Ev.nH (YA (P:=λy=>Z1 C k env U x y->Ev C k env U x (.int i)) h2 id (he _ _ _ _ hf h1))
 |_=>exact q h
theorem Hy    (h:Tw fe env.scope U l op r=some c):QD C k env U l r op pos c:=
 RE h λhm h=>Zj h λx h1 h=>Zj h λy h2 h=>fW (he _ _ _ _ hf h1) (he _ _ _ _ hf h2) h (eq_false_of_ne_true hm)
theorem wk(hp:∀env U e i,Zp env->fp env.scope U e=some i->Qy C k env U e i)   (h:jm fe fp env.scope U o i d=some a)(q:d=some a->Z1 C k env U (.Subscript o i pos) a):Z1 C k env U (.Subscript o i pos) a:=by
 have pl:KX i=true->((fe env.scope U o).bind λa=>(fe env.scope U i).bind λj=>j.ZF.bind λj=>(ZV a j).map .val)=some a->Z1 C k env U (.Subscript o i pos) a:=λhs h=>
  Zj h λx h1 h=>Zj h λj h2 h=>Zj h λj' h3 h=>YQ h λd h4 e=>e ▸ ux (he _ _ _ _ hf h1) ((he _ _ _ _ hf h2).ev h3) h4 (kR hs)
 cases i with
 | Slice lo hi st p2=>
   cases st with
   |none=>exact Y4 h (λhn h=>Zj h λx h1 h=>Zj h λl h2 h=>Zj h λu h3 h=>YQ h λd h4 e=>e ▸ Oa (he _ _ _ _ hf h1) (hp _ _ _ _ hf h2) (hp _ _ _ _ hf h3) h4 (vU hn)) λ_ h=>q h
   |some _=>exact nS h
 |_=>exact pl rfl h
end
theorem Hz{P:Prop}   (h:Pn fs env.scope U f es=some a)(q:∀ds,fs env.scope U es=some (ds.map .val)->ds.length<=Zyk->a=.val (f ds)->P):P:=
 Zj h λas h1 h=>Zj h λds h2 h=>Zl h λhz h=>q ds (Ac h2 ▸ h1) hz (Zyb h).symm
section
variable (hs:∀env U es as,Zp env->fs env.scope U es=some as->ZW C k env U es as)(hf:Zp env)
include hs hf
theorem dK(H:X9 C k S)    (hx:Y0 x=true)(hg:Ym env.scope x=true)(hl:args.length<29)(h:((fs env.scope U args).bind λas=>(S.cl x as).map .val)=some a):Z1 C k env U (.Call (.Name x p) args [] pos) a:=
 Zj h λas h1 h=>YQ h λd h4 e=>e ▸ H.cl _ _ _ h4 env U _ _ _ hf (N4 hg) (hs _ _ _ _ hf h1) (Yz hx).1 hl
theorem Ek(H:X9 C k S)    (h:RY fs env.scope U x args ((fs env.scope U args).bind λas=>(S.cl x as).map .val)=some a):Z1 C k env U (.Call (.Name x p) args [] pos) a:=
 Zl h λhc h=>Z0 hc λhc hl=>Z0 hc λhx hg=>by
  have pl:=dK (a:=a) (U:=U) (pos:=pos) (p:=p) hs hf H hx hg (of_decide_eq_true hl)
  refine WA h (λe e1 h=>Cd h (λy p2 as2 p3 e2 h=>Y4 h (λhc h=>Z0 hc λhc yr=>Z0 hc λhx hy=>Zj h λas h1 h=>?_) λ_ h=>pl h) pl) pl
  have ex:=eq_of_beq hx
  have ey:=eq_of_beq hy
  rw[e1,e2]
  refine UA h λb1 b2 e3 h=>Zj h λi1 e4 h=>Zj h λi2 e5 h=>Zl h λhr h=>Z0 hr λhr hz=>Z0 hr λFh nv=>?_
  have ha:as=[.val (.int i1),.val (.int i2)]:=by rw[e3];exact YA (P:=λb1=>[b1,b2]=_) e4 (YA (P:=λb2=>[AV.val (.int i1),b2]=_) e5 rfl)
  rw[ex] at hg ⊢
  rw[ey] at yr ⊢
  rw[ha] at h1
  exact ZG (P:=Z1 C k env U _) (a:=.val (.lst (ZQ i1 i2))) (Ww.list_range hf ⟨H.bi _ (.inl rfl),H.list,N4 hg⟩ ⟨H.bi _ (.inr (.inl rfl)),H.range,N4 yr⟩ (hs _ _ _ _ hf h1) (in_of Fh).1 (in_of Fh).2 (in_of nv).1 (in_of nv).2 (of_decide_eq_true hz) (by decide) (by decide) rfl).ev h
theorem Oz(H:X9 C k S)(he:∀env U e a,Zp env->fe env.scope U e=some a->Z1 C k env U e a)    (h:yC S fe fs env.scope U f args pos d=some a)(q:d=some a->Z1 C k env U (.Call f args [] pos) a):Z1 C k env U (.Call f args [] pos) a:=
 Xy h (λx p e h=>e ▸ Ek hs hf H h) λh=>KI h (λo m p e h=>e ▸ Zl h λhc h=>Z0 hc λhc Tb=>Z0 hc λZC hlen=>Zj h λx h1 h=>Zj h λas h2 h=>YQ h λd h4 e=>e ▸
  H.mt _ _ _ _ h4 env U _ _ _ _ (he _ _ _ _ hf h1) (hs _ _ _ _ hf h2) (HP Tb) ZC (of_decide_eq_true hlen)) q
end
theorem Mc(ht:∀env U strict Zq e ds,Zp env->ft env.scope U strict Zq e=some ds->YV C k env U strict Zq e ds)(hu:∀env U Zq ifs elt d r,Zp env->fu env.scope U Zq ifs elt d=some r->Jb C k env U Zq ifs elt d r)
 (hf:Zp env)    (h:yD ft fu env.scope U elt Zq iter ifs scope=some a):∃ys,a=.val (.lst ys)/\∀p,Ut C k env U (.ListComp elt [⟨Zq,iter,ifs,0⟩] scope pos) scope p iter ys:=by
 refine Zl h λhc h=>Z0 hc λhc FD=>Z0 hc λhS hT=>Zj h λds h1 h=>Zl h λhz h=>?_
 have it:=ht _ _ _ _ _ _ hf h1
 have turns:∀{YT:Env}{σ':Zx},InComp scope env YT->∀d r,fu (Wm scope env.scope) σ' Zq ifs elt d=some r->Jb C k YT σ' Zq ifs elt d r:=
  λ{YT σ'} ic d r hr=>hu YT σ' _ _ _ d r (ic.Z6 (UY hS).kind hf) (by rw[ic.scope];exact hr)
 revert h
 cases hy:XK (λd=>fu (Wm scope env.scope) (U1 scope U) Zq ifs elt d) ds with
 |some ys=>exact λh=>⟨ys,(Zyb h).symm,λp=>Ut.val hf (UY hS) (Dy hT) it hz (λYT ic=>Gv (turns ic) ds hy) (IG FD)⟩
 |none=>exact λh=>Zj h λys hy h=>Zl h λXY h=>⟨ys,(Zyb h).symm,λp=>Ut.flat hf (UY hS) (Dy hT) it hz (λYT ic=>Gv (turns ic) ds hy) XY (IG FD)⟩
theorem wU(he:∀env U e a,Zp env->fe env.scope U e=some a->Z1 C k env U e a)(ho:∀env U op es b,Zp env->fo env.scope U op es=some b->Vz C k env U op es b)(hf:Zp env)    (h:jZ fe fo env.scope U op vs=some b):Vz C k env U op vs b:=
 DE h (λe r e1 h=>Zj h λv h1 h=>Zj h λd h2 h=>by
  have hv:=(he _ _ _ _ hf h1).ev h2
  rw[e1]
  cases d with
  | bool c=>
    cases r with
    |nil=>exact ZG (Vz.one hv) h
    | cons f r=>
      cases op with
      | And=>cases c with
        |true=>exact Vz.and hv λ_=>ho _ _ _ _ _ hf h
        |false=>exact ZG (Vz.and (b:=true) hv (λe=>nomatch e)) h
      | Or=>cases c with
        |true=>exact ZG (Vz.or (b:=true) hv (λe=>nomatch e)) h
        |false=>exact Vz.or hv λ_=>ho _ _ _ _ _ hf h
  |_=>exact nS h) nS
theorem wQ  (he:∀env U e a,Zp env->fe env.scope U e=some a->Z1 C k env U e a)(h1:∀env U es b,Zp env->fa env.scope U true es=some b->Uy C k env U es b)(h2:∀env U es b,Zp env->fa env.scope U false es=some b->QF C k env U es b)
 (hf:Zp env)   (h:jY fe env.scope U fa e=some b):YZ C k env U e b:=
 uV h (λl ops rs p e1 h=>WA h (λop e2 h=>WA h (λr e3 h=>by rw[e1,e2,e3];exact (Hy he hf h).1) nS) nS) λh=>f5 h (λop vs p e1 h=>by
  rw[e1]
  cases op with
  |And=>exact YZ.and (h1 _ _ _ _ hf h)
  |Or=>exact YZ.or (h2 _ _ _ _ hf h)) λh=>Zl h λhp h=>Zj h λa h1 h=>Zj h λd h2 h=>by
  have hv:=(he _ _ _ _ hf h1).ev h2
  cases d with
  |str x=>exact Zl h λhz h=>YZ.value hv h (λy e=>by cases e;exact hz) (M0 hp)
  |_=>exact YZ.value hv h (λy e=>nomatch e) (M0 hp)
theorem Eo{P:List AV->Prop}   (h:JB as=some ds)(q1:∀b,ZJ (-(2 ^ 62)) (2 ^ 62) b=true->ds=ZQ 0 b->P [.val (.int b)])
 (q2:∀a b,ZJ (-(2 ^ 62)) (2 ^ 62) a=true->ZJ (-(2 ^ 62)) (2 ^ 62) b=true->ds=ZQ a b->P [.val (.int a),.val (.int b)]):P as:=
 Qu h (λb e h=>Xd e λx e1 e2=>Zl h λhc h=>e1 ▸ YA (P:=λx=>P [x]) e2 (q1 b hc (Zyb h).symm))
  λh=>UA h λx y e1 h=>Zj h λa e2 h=>Zj h λb e3 h=>Zl h λhc h=>Z0 hc λh1 h2=>e1 ▸ YA (P:=λx=>P [x,y]) e2 (YA (P:=λy=>P [.val (.int a),y]) e3 (q2 a b h1 h2 (Zyb h).symm))
theorem wV{f1:Zy6->Zx->Bool->Zyc->Option (List PV)}  (H:X9 C k S)(hs:∀env U es as,Zp env->fs env.scope U es=some as->ZW C k env U es as)
 (h1:∀env U strict x p e ds,Zp env->f1 env.scope U strict e=some ds->YV C k env U strict (.Name x p) e ds) (h2:∀env U strict x y p1 p2 kk p e ds,Zp env->f2 env.scope U e=some ds->YV C k env U strict (.Tuple [.Name x p1,.Name y p2] kk p) e ds)
 (hf:Zp env)    (h:j9 fs env.scope U f1 f2 strict Zq e=some ds):YV C k env U strict Zq e ds:=
 Xy h (λx p e1 h=>e1 ▸ Cd h (λy py as pos e2 h=>Y4 h (λhy h=>Zl h λhg h=>Zj h λvs h3 h=>by
  have ey:=eq_of_beq hy
  rw[ey] at hg e2
  rw[e2]
  exact Eo (P:=λvs=>fs env.scope U as=some vs->YV C k env U strict (.Name x p) (.Call (.Name "range" py) as [] pos) ds) h (λb hb e h3=>e ▸ YV.JB hf ⟨H.bi _ (.inr (.inl rfl)),H.range,N4 hg⟩ (hs _ _ _ _ hf h3) (in_of hb).1 (in_of hb).2)
   (λa b ha hb e h3=>e ▸ YV.Cv hf ⟨H.bi _ (.inr (.inl rfl)),H.range,N4 hg⟩ (hs _ _ _ _ hf h3) (in_of ha).1 (in_of ha).2 (in_of hb).1 (in_of hb).2) h3)
  λ_ h=>h1 _ _ _ _ _ _ _ hf h) λh=>h1 _ _ _ _ _ _ _ hf h)
  λh=>Fx h (λes kk pt e1 h=>Cc h (λx p1 y p2 e2 h=>by
   rw[e1,e2]
   exact Cd h (λz py as pos e3 h=>Y4 h (λhz h=>Zl h λhg h=>Zj h λvs h3 h=>by
    have ez:=eq_of_beq hz
    rw[ez] at hg e3
    rw[e3]
    refine UA h λa b e4 h=>Zj h λl e5 h=>Zj h λm e6 h=>RE h λhn h=>?_
    rw[e4] at h3
    exact ZG (YV.zip hf ⟨H.bi _ (.inr (.inr rfl)),H.zip,N4 hg⟩ (hs _ _ _ _ hf h3) e5 e6 λest=>by
     rw[est] at hn
     have hn:=eq_false_of_ne_true hn
     have hn:=ZwA.mp hn
     exact⟨F0 e5 hn.1,F0 e6 hn.2⟩) h)
    λ_ h=>h2 _ _ _ _ _ _ _ _ _ _ _ hf h) λh=>h2 _ _ _ _ _ _ _ _ _ _ _ hf h) nS) nS
theorem Eb(he:∀env U e a,Zp env->fe env.scope U e=some a->Z1 C k env U e a)(hb:∀env U e b,Zp env->fb env.scope U e=some b->YZ C k env U e b)(hf:Zp env)
 (h:RK fe fb env.scope U Zq ifs elt d=some r):Jb C k env U Zq ifs elt d r:=by
 refine Zj h λps h1 h=>?_
 cases ifs with
 |nil=>exact Zj h λy h2 h=>YQ h λz h3 e=>e ▸ ⟨ps,true,h1,rfl,.inl ⟨rfl,z,rfl,(he _ _ _ _ hf h2).ev h3⟩⟩
 | cons c ifs=>
   cases ifs with
   |nil=>exact Zj h λb h2 h=>Y4 h (λhc h=>Zj h λy h4 h=>YQ h λz h3 e=>e ▸ ⟨ps,true,h1,hb _ _ _ _ hf (hc ▸ h2),.inl ⟨rfl,z,rfl,(he _ _ _ _ hf h4).ev h3⟩⟩) λhc h=>ZG ⟨ps,false,h1,hb _ _ _ _ hf (eq_false_of_ne_true hc ▸ h2),.inr ⟨rfl,rfl⟩⟩ h
   |cons _ _=>exact nS h
end
theorem sound(H:X9 C k S)(n:Nat):Sound C k S n:=by
 induction n with
 |zero=>exact⟨λ_ _ _ _ _ h=>nS h,λ_ _ _ _ _ h=>nS h,λ_ _ _ _ _ h=>nS h,λ_ _ _ _ _ h=>nS h,λ_ _ _ _ _ h=>nS h,λ_ _ _ _ _ h=>nS h,λ_ _ _ _ _ _ h=>nS h,λ_ _ _ _ _ _ _ h=>nS h,λ_ _ _ _ _ _ _ _ h=>nS h,λ_ _ _ _ _ _ _ _ _ _ _ _ h=>nS h,λ_ _ _ _ _ _ _ _ h=>nS h⟩
 | succ n ih=>
   refine⟨?_,?_,?_,?_,?_,?_,?_,?_,?_,?_,?_⟩
   ·intro env U e a hf h
    have xe:=λh=>H.xe env U e a hf h
    cases e with
    |Name x p=>exact kF H hf h
    |Constant c k p=>exact wi h xe
    |BinOp l op r p=>exact Zj h λx h1 h=>Zj h λy h2 h=>YQ h λz h3 e=>e ▸ yu (ih.ev _ _ _ _ hf h1) (ih.ev _ _ _ _ hf h2) h3
    |UnaryOp op x p=>exact kG ih.ev hf h xe
    |Compare l ops rs p=>exact WA h (λop e1 h=>WA h (λr e2 h=>YQ h λc h3 e=>e ▸ e1 ▸ e2 ▸ (Hy ih.ev hf h3).2) xe) xe
    |BoolOp op vs p=>exact YQ h λz h3 e=>e ▸ Ev.bo (ih.V2 _ _ _ _ _ hf h3)
    | IfExp t x y p=>
      exact Zj h λc h1 h=>Zj h λx h2 h=>YQ h λd h3 e=>e ▸ Ev.x8 (ih.Yi _ _ _ _ hf h1) (λe=>(ih.ev _ _ _ _ hf ((if_pos e ▸ h2 :))).ev h3) (λe=>(ih.ev _ _ _ _ hf ((if_neg (ne_true_of_eq_false e) ▸ h2 :))).ev h3)
    |Subscript o i p=>exact wk ih.ev hf ih.Ft h xe
    |Tuple es k p=>exact Hz h λds h1 hz e=>e ▸ Ev.tuple (ih.Xl _ _ _ _ hf h1) hz
    |List es p=>exact Hz h λds h1 hz e=>e ▸ Ev.list (ih.Xl _ _ _ _ hf h1) hz
    |Call f args LY p=>exact Ge h (λe h=>by subst e;exact Oz ih.Xl hf H ih.ev h xe) xe
    | ListComp elt gens scope p=>
      exact WA h (λg e1 h=>Y4 h (λhz h=>by
       obtain⟨Zq,iter,ifs,z⟩:=g
       have hz:z=0:=hz
       rw[e1,hz]
       obtain⟨ys,e,hc⟩:=Mc (pos:=p) ih.Y1 ih.turn hf h
       rw[e]
       exact (hc _).new.ev) λ_ h=>xe h) xe
    |_=>exact xe h
   ·intro env U es as hf h
    cases es with
    |nil=>exact ZG ZW.nil h
    |cons e es=>exact Zl h λhs h=>Zj h λa h1 h=>YQ h λr h2 e=>e ▸ ZW.cons (ih.ev _ _ _ _ hf h1) (ih.Xl _ _ _ _ hf h2) (Wy hs)
   ·intro env U e i hf h
    cases e with
    |none=>exact ZG Qy.none h
    |some e=>exact Zj h λa h1 h=>YQ h λj h2 e2=>e2 ▸ Qy.some (YA (P:=λa=>Z1 C k env U e a->Ev C k env U e (.int j)) h2 id (ih.ev _ _ _ _ hf h1))
   ·exact λenv U e b hf h=>wQ ih.ev ih.Wg ih.xV hf h
   ·intro env U es b hf h
    cases es with
    |nil=>exact ZG Uy.nil h
    | cons e es=>
      refine Zj h λc h1 h=>?_
      cases c with
      |true=>exact Uy.cons (ih.Yi _ _ _ _ hf h1) λ_=>ih.Wg _ _ _ _ hf h
      |false=>exact ZG (Uy.cons (b:=true) (ih.Yi _ _ _ _ hf h1) (λe=>nomatch e)) h
   ·intro env U es b hf h
    cases es with
    |nil=>exact ZG QF.nil h
    | cons e es=>
      refine Zj h λc h1 h=>?_
      cases c with
      |true=>exact ZG (QF.cons (b:=true) (ih.Yi _ _ _ _ hf h1) (λe=>nomatch e)) h
      |false=>exact QF.cons (ih.Yi _ _ _ _ hf h1) λ_=>ih.xV _ _ _ _ hf h
   ·exact λenv U op es b hf h=>wU ih.ev ih.V2 hf h
   ·exact λenv U strict Zq e ds hf h=>wV H ih.Xl ih.Qg ih.K4 hf h
   ·exact λenv U strict x p e ds hf h=>Zj h λa h1 h=>bY.ok (ih.ev _ _ _ _ hf h1) h
   ·intro env U strict x y p1 p2 kk p e ds hf h
    refine Zj h λa h1 h=>Zj h λd h2 h=>?_
    have hv:=(ih.ev _ _ _ _ hf h1).ev h2
    cases d with
    |lst l=>exact Zl h λhc h=>ZG (YV.nB (λd hd=>wH (ZyV.mp hc d hd)) hv) h
    |_=>exact nS h
   ·exact λenv U Zq ifs elt d r hf h=>Eb ih.ev ih.Yi hf h
end
def NG(op:Zjf)(a b:PV):Option PV:=match op with
 |.Add=>Ua (UK (.val a) (.val b) λx y=>some (.int (x+y))) ((YS (.val a)).bind λx=>(YS (.val b)).bind λy=>if x.length+y.length<=Zyk then some (.str (x++y)) else none)
 |.Sub=>UK (.val a) (.val b) λx y=>some (.int (x-y))
 |_=>none
def Vb(e:Zyc):Bool:=yY e (λ_ _ _ _=>false) (dSC e (λ_ _ _ _=>false) (dDC e (λ_ _ _ _ _=>false) true))
def Va(e:Zyc):Bool:=yY e (λ_ gs _ _=>d1 gs (λg=>decide (g.is_async=0)) false) false
def YW(sc:Zy6)(x:Str):Bool:=sc.names.lookup x==some .local||(ZY sc.names).contains x
def Dz(es:List Zyc):Option (List Str):=LL es (λx y=>some [x,y]) (nf es (λx y z=>some [x,y,z]) none)
def U7(ts:List Zyc)(e:Zyc):Bool:=FT e (λvs _ _=>!(vs.all (constantsAlone 8))||vs.all (foldedForSure 8)) true
noncomputable def IA(xs:List Str):Bool:=match xs with
 |[]=>false
 | x::r=>(match r with
   |[]=>false
   | y::r=>(match r with
     |[]=>!(x==y)
     | z::r=>(match r with
       |[]=>!(x==y)&&!(x==z)&&!(y==z)
       |_::_=>false)))
structure St where
 sg:Sg
 ow:List Str
 sp:Zx->ZyF->Option (Z9 × Zx)
 wf:Nat
def QY(sc:Zy6)(S:Sg)(n:Nat)(U:Zx)(e:Zyc):Option PV:=
 oc ((ev S n sc U e).bind AV.ZF) (λd=>if Yv d then some d else (ev S n sc U.last e).bind AV.ZF) ((ev S n sc U.last e).bind AV.ZF)
def kP(a:AV)(as:List AV):Option (List PV):=Vr as λb=>(YS a).bind λx=>(YS b).bind λy=>
 if y.length≠0/\x.length<=Zyk/\(ZyD x (Zy8 x y 0 x.length (x.length+1)) y.length).length<=Zyk then some ((ZyE x y).map .str) else none
def FV(S:Sg)(n:Nat)(sc:Zy6)(U:Zx)(e:Zyc):Option (List PV):=
 PB e (λes _=>(Xl S n sc U.flat es).bind λas=>(as.mapM AV.ZF).bind λds=>if ds.length<=Zyk then some ds else none)
  (Gr e (λf args ks pos=>d0 ks (DP f (λo name apos=>if name==("split":Str)&&apos.endLine==pos.line&&decide (args.length<29)&&V4 o then
      (ev S n sc U.flat o).bind λa=>(Xl S n sc U.flat args).bind (kP a) else none) none) none)
  (if Va e then (ev S n sc U.flat e).bind λa=>listOf a else none))
noncomputable def J5(t:Zx->Option Bool)(f:Zx->Option (Z9 × Zx)):Nat->Zx->Option (Z9 × Zx)
 |0,_=>none
 |m + 1,U=>(t U).bind λb=>if b then (f U).bind λp=>match p.1 with
    |.Z4=>J5 t f m p.2
    |.cnt=>J5 t f m p.2
    |.brk=>some (.Z4,p.2)
    |.ret d=>some (.ret d,p.2)
  else some (.Z4,U)
noncomputable def QK(f:Zx->PV->Option (Z9 × Zx)):List PV->Zx->Option (Z9 × Zx)
 |[],U=>some (.Z4,U)
 |d :: r,U=>(f U d).bind λp=>match p.1 with
    |.Z4=>QK f r p.2
    |.cnt=>QK f r p.2
    |.brk=>some (.Z4,p.2)
    |.ret d=>some (.ret d,p.2)
section
variable (T:St)(fe:Zy6->Zx->Zyc->Option AV)(fb:Zy6->Zx->Zyc->Option Bool)(ft:Zy6->Zx->Bool->Zyc->Zyc->Option (List PV))(fo:Zy6->Zx->Zyc->Option (List PV))(fr:Zy6->Zx->Zyc->Option PV)
 (fx:Zy6->Zx->List ZyF->Option (Z9 × Zx)) (sc:Zy6) (U:Zx)
def P1 (x:Str) (e:Zyc):Option (Z9 × Zx):=if YW sc x then
    if T.ow.contains x then (fo sc U e).map λds=>(.Z4,U.set x (.own ds))
    else if Vb e||Va e then (fe sc U e).bind λa=>a.ZF.map λd=>(.Z4,U.set x (.val d)) else none
 else none
def Pp (ts:List Zyc) (e:Zyc):Option (Z9 × Zx):=if U7 ts e&&Vb e then (Dz ts).bind λxs=>if xs.all (YW sc)&&IA xs then (fe sc U e).bind λa=>(Nx a).bind λds=>
    if ds.length=xs.length then some (.Z4,Zi U xs ds) else none
 else none else none
def P0(x:Str)(op:Zjf)(e:Zyc):Option (Z9 × Zx):=if YW sc x&&Y0 x then (U x).bind λv=>v.ZF.bind λa=>(fe sc U e).bind λb=>b.ZF.bind λb=>(NG op a b).map λd=>(.Z4,U.set x (.val d)) else none
def Jg(iter:Zyc):Zx:=Wl iter (λx _=>match U x with |some v=>(match v with |.own ds=>U.set x (.val (.lst ds)) |_=>U) |none=>U) U
def jA (Zq iter:Zyc) (body:List ZyF):Option (Z9 × Zx):=if (Zc Zq).all (YW sc)&&Xe iter then
    (ft sc (Jg U iter) true Zq iter).bind λes=>QK (λU d=>(partsOf Zq d).bind λps=>fx sc (Zi U (Zc Zq) ps) body) es (Jg U iter) else none
def Po (x:Str) (i:Zyc):Option (Z9 × Zx):=if Y0 x then (U x).bind λv=>(Nw v).bind λds=>(fe sc U i).bind λj=>(Wh j).bind λj=>
    (seqIndex? j ds.length).bind λm=>if m<ds.length/\Zwb j=true/\ds.length<=Zyk then some (.Z4,U.set x (.own (ds.eraseIdx m))) else none
 else none
def TN (x m:Str) (e:Zyc) (apos Yj:Pos):Option (Z9 × Zx):=if Y0 x&&apos.endLine==Yj.line&&notStar e then (U x).bind λv=>(Nw v).bind λds=>
    if m==("append":Str) then (fe sc U.flat e).bind λa=>a.ZF.bind λd=>if ds.length<=Zyk then some (.Z4,U.set x (.own (ds++[d]))) else none
    else if m==("remove":Str) then (fe sc U e).bind λa=>a.ZF.bind λd=>(WU d ds).bind λj=>
     if ds.all (λa=>alike a d&&decide (dep a<=5))&&decide (ds.length<=Zyk) then some (.Z4,U.set x (.own (ds.eraseIdx j))) else none
    else none
 else none
def mu(fw:Zyc->List ZyF->Zx->Option (Z9 × Zx))(st:ZyF):Option (Z9 × Zx):=@ZwT (λ_=>Option (Z9 × Zx)) st (λ_ _ _ _ _ _ _ _ _ _=>(T.sp U st)) (λ_ _ _ _ _ _ _ _ _ _=>(T.sp U st)) (λ_ _ _ _ _ _ _ _ _ _ _=>(T.sp U st)) (λe _=>oc e (λe=>(fr sc U e).map λd=>(.ret d,U)) (T.sp U st)) (λts _=>d1 ts (λt=>kn t (λo i _=>Wl o (λx _=>Po fe sc U x i) (T.sp U st)) (T.sp U st)) (T.sp U st)) (λts e _=>d1 ts (λt=>Wl t (λx _=>P1 T fe fo sc U x e) (FT t (λes _ _=>Ua (T.sp U st) (Pp fe sc U es e)) (T.sp U st))) (T.sp U st)) (λ_ _ _ _ _ _ _=>(T.sp U st)) (λt op e _=>Wl t (λx _=>P0 fe sc U x op e) (T.sp U st)) (λ_ _ _ _ _=>(T.sp U st)) (λZq iter body orelse _=>d0 orelse (jA ft fx sc U Zq iter body) (T.sp U st)) (λ_ _ _ _ _=>(T.sp U st)) (λt body orelse _=>d0 orelse (fw t body U) (T.sp U st)) (λt body orelse _=>(fb sc U t).bind λb=>fx sc U (if b then body else orelse)) (λ_ _ _=>(T.sp U st)) (λ_ _ _=>(T.sp U st)) (λ_ _ _=>(T.sp U st)) (λ_ _ _=>(T.sp U st)) (λ_ _ _ _ _=>(T.sp U st)) (λ_ _ _ _ _=>(T.sp U st)) (λt _ _=>(fb sc U t).bind λb=>if b then some (.Z4,U) else none) (λ_ _=>(T.sp U st)) (λ_ _ _ _=>(T.sp U st)) (λ_ _=>(T.sp U st)) (λ_ _=>(T.sp U st)) (λe _=>Gr e (λf args ks Yj=>DP f (λo m apos=>Wl o (λx _=>d1 args (λe=>d0 ks (Ua (T.sp U st) (TN fe sc U x m e apos Yj)) (T.sp U st)) (T.sp U st)) (T.sp U st)) (T.sp U st)) (T.sp U st)) (λ_=>(T.sp U st)) (λ_=>(T.sp U st)) (λ_=>(T.sp U st))
end
mutual
noncomputable def Xj(T:St):Nat->Zy6->Zx->ZyF->Option (Z9 × Zx)
 |0,_,_,_=>none
 |n+1,sc,U,st=>mu T (ev T.sg n) (Yi T.sg n) (Y1 T.sg n) (FV T.sg n) (λsc U e=>QY sc T.sg n U e) (Xm T n) sc U (λt body=>J5 (λU=>Yi T.sg n sc U t) (λU=>Xm T n sc U body) T.wf) st
noncomputable def Xm(T:St):Nat->Zy6->Zx->List ZyF->Option (Z9 × Zx)
 |0,_,_,_=>none
 | n+1,sc,U,ss=>match ss with
   |[]=>some (.Z4,U)
   | st::r=>(Xj T n sc U st).bind λp=>match p.1 with
     |.Z4=>Xm T n sc p.2 r
     |_=>some p
end
def NF(C:Cx)(k:Nat)(T:St)(F:Y7):Prop:=∀U st af σ',T.sp U st=some (af,σ')->Ex C k F U (exec st F.env) af σ'
theorem Cr    (H:X9 C k S)         (hf:Zp env)
 (h:ev S n env.scope U (.ListComp elt [⟨Zq,iter,ifs,0⟩] scope pos)=some a):∃ys,a=.val (.lst ys)/\∀p,Ut C k env U (.ListComp elt [⟨Zq,iter,ifs,0⟩] scope pos) scope p iter ys:=by
 cases n with
 |zero=>exact nS h
 |succ n=>exact Mc (sound H n).Y1 (sound H n).turn hf h
structure XM(F:Y7):Prop where
 Z6:Zp F.env
 cs:F.cs=ZY F.env.scope.names
 sees:True
section
variable {C:Cx}{k:Nat}{F:Y7}{N M:Zya->Prop}{U σ₁ σ₂:Zx}{s s' s₁:Zym}{af:Z9}{h h':Zyp}
theorem Wz(hF:XM F)  (h:YW F.env.scope x=true):Yc F.env F.cs x:=by
 simp only[YW,Zwy,beq_iff_eq,ZwQ] at h
 rcases h with h |h
 ·exact .inl h
 ·rw[Yc,hF.cs];exact .inr h
theorem IL     (h:Vb e=true):swapsWith e x line env=pure false:=by cases e<;>first |rfl |cases h
theorem Ct        :∃b,swapsWith (.ListComp elt gs scope Yj) (some (.Name x p)) line env=pure b:=⟨_,rfl⟩
theorem MB  (h:Va e=true):∃elt Zq iter ifs scope pos,e=.ListComp elt [⟨Zq,iter,ifs,0⟩] scope pos:=
 Ey h (λelt gs s p e1 h=>WA h (λg e2 h=>⟨elt,g.target,g.iter,g.ifs,s,p,by
  cases g with
  | mk Zq iter ifs z=>
    have z0:z=0:=of_decide_eq_true h
    rw[e1,e2,z0]⟩) (λh=>nomatch h)) (λh=>nomatch h)
theorem KU(hf:Zp F.env):interactive F.env=false:=by unfold interactive;rw[hf.kind];rfl
theorem L7  (H:X9 C k S)      (hF:XM F)(hx:Yc F.env F.cs x)(hc:Va e=true)(h:ev S n F.env.scope U e=some (.val d)):
 Ex C k F U (exec (.Assign [.Name x p] e pos) F.env) .Z4 (U.set x (.val d)):=by
 obtain⟨elt,Zq,iter,ifs,scope,Yj,rfl⟩:=MB hc
 obtain⟨ys,e1,hC⟩:=Cr H hF.Z6 h
 cases e1
 obtain⟨b,hb⟩:=Ct (elt:=elt) (gs:=[⟨Zq,iter,ifs,0⟩]) (scope:=scope) (Yj:=Yj) (x:=x) (p:=p) (line:=pos.line) (env:=F.env)
 cases b with
 |true=>exact Ex.uN hF.Z6 hx (hC _) hb
 |false=>exact Ex.assign hF.Z6 hx (hC _).new.ev hb
theorem Ll  (H:X9 C k S)       (hF:XM F)(hx:Yc F.env F.cs x)(hc:Va e=true)(h:ev S n F.env.scope U.flat e=some a)(ha:listOf a=some ds):
 Ex C k F U (exec (.Assign [.Name x p] e pos) F.env) .Z4 (U.set x (.own ds)):=by
 obtain⟨elt,Zq,iter,ifs,scope,Yj,rfl⟩:=MB hc
 obtain⟨ys,e1,hC⟩:=Cr H hF.Z6 h
 subst e1
 cases ha
 obtain⟨b,hb⟩:=Ct (elt:=elt) (gs:=[⟨Zq,iter,ifs,0⟩]) (scope:=scope) (Yj:=Yj) (x:=x) (p:=p) (line:=pos.line) (env:=F.env)
 cases b with
 |true=>exact Ex.yk hF.Z6 hx (hC _) hb
 |false=>exact Ex.Fv hF.Z6 hx (hC _).new hb
theorem i3  (H:X9 C k S)      (hF:XM F)(hx:Yc F.env F.cs x)(h:FV S n F.env.scope U e=some ds):
 Ex C k F U (exec (.Assign [.Name x p] e pos) F.env) .Z4 (U.set x (.own ds)):=by
 have so:=sound H n
 exact HT h (λes p e1 h=>e1 ▸ Zj h λas h1 h=>Zj h λys h2 h=>Zl h λhz h=>by
  have hy:=Zyb h
  rw[<-hy]
  exact Ex.Fv hF.Z6 hx (Ww.list (so.Xl _ _ _ _ hF.Z6 (Ac h2 ▸ h1)) hz) (IL rfl))
  λh=>KJ h (λf args ks p1 e1 h=>Ge h (λe2 h=>KI h (λo name p2 e3 h=>Zl h λhc h=>Z0 hc λhc Tb=>Z0 hc λhc hlen=>Z0 hc λhn ZC=>Zj h λa h1 h=>Zj h λas h2 h=>
   Xd h λb e4 h=>Zj h λx1 h3 h=>Zj h λy1 h4 h=>Zl h λhz h=>by
    have hn:=eq_of_beq hn
    have hy:=Zyb h
    rw[e4,Xb h4] at h2
    rw[Xb h3] at h1
    rw[e1,e2,e3,hn,<-hy]
    exact Ex.Fv hF.Z6 hx (Ww.split (so.ev _ _ _ _ hF.Z6 h1) (so.Xl _ _ _ _ hF.Z6 h2) (beq_eq_false_iff_ne.mpr hz.1) hz.2.1 hz.2.2 (HP Tb) ZC (of_decide_eq_true hlen)) (IL rfl)) nS) nS)
  λh=>Zl h λhc h=>Zj h λa h1 h=>Ll H hF hx hc h1 h
theorem fD   (h:NG op a b=some d):ZR C k (inplaceOp op) a b d:=by
 have two:∀{f:Int->Int->Option PV},UK (.val a) (.val b) f=some d->(∀x y,f x y=some d->ZR C k (inplaceOp op) (.int x) (.int y) d)->ZR C k (inplaceOp op) a b d:=λ{f} h t=>Zj h λx e1 h=>Zj h λy e2 h=>
  CD (YA (P:=λv=>v=.val (.int x)) e1 rfl) ▸ CD (YA (P:=λv=>v=.val (.int y)) e2 rfl) ▸ t x y h
 cases op with
 | Add=>
   refine QA h (λh=>two h λx y h=>ZG ?_ h) λh=>Zj h λx e1 h=>Zj h λy e2 h=>Zl h λhz h=>CD (Xb e1) ▸ CD (Xb e2) ▸ ZG ?_ h
   ·intro A s Q E P va vb hr hg ra rb hb q
    obtain⟨t,rfl⟩:=Zf.mp ra;obtain⟨u,rfl⟩:=Zf.mp rb
    exact PySem.P.iadd_int (q _ _ (ZU s _) (Zf.mpr ⟨_,rfl⟩))
   ·intro A s Q E P va vb hr hg ra rb hb q
    obtain⟨t,rfl⟩:=Zt.mp ra;obtain⟨u,rfl⟩:=Zt.mp rb
    exact PyProof.Rows.iadd_str (λt' tk=>q _ _ ⟨_,tk,rfl,λ_ _ e=>e⟩ (Zt.mpr ⟨t',rfl⟩)) hz
 | Sub=>
   refine two h λx y h=>ZG ?_ h
   intro A s Q E P va vb hr hg ra rb hb q
   obtain⟨t,rfl⟩:=Zf.mp ra;obtain⟨u,rfl⟩:=Zf.mp rb
   exact PySem.P.isub_int (q _ _ (ZU s _) (Zf.mpr ⟨_,rfl⟩))
 |_=>exact nS h
theorem gp   [Decidable c] :(if c then some x else none)=some x∨(if c then some x else none)=none:=by
 by_cases h:c
 ·exact .inl (if_pos h)
 ·exact .inr (if_neg h)
theorem Oj{A B C D E:Prop} [Decidable A] [Decidable B] [Decidable C] [Decidable D] [Decidable E] {u:Sem (Option (List Str))}  (hn:¬C->names=xs)(hd:E->D):
 (if A then pure none else if B then pure none else if C then pure none else if D then pure none else if E then u else pure (some names))=pure none∨(if A then pure none else if B then pure none else if C then pure none else if D then pure none else if E then u else pure (some names))=pure (some xs):=by
 by_cases a:A
 ·exact .inl (if_pos a)
 ·rw[if_neg a]
  by_cases b:B
  ·exact .inl (if_pos b)
  ·rw[if_neg b]
   by_cases c:C
   ·exact .inl (if_pos c)
   ·rw[if_neg c,hn c]
    by_cases d:D
    ·exact .inl (if_pos d)
    ·rw[if_neg d,if_neg λe=>d (hd e)]
     exact .inr rfl
theorem ue   {k:γ->β}{l:List γ}(h:∀q,f q=some (k q)∨f q=none)(hl:(l.filterMap f).length=l.length):l.filterMap f=l.map k:=by
 induction l with
 |nil=>rfl
 | cons q l ih=>
   rcases h q with e |e
   ·rw[Zwj e] at hl ⊢
    rw[ih (ZvE hl)];rfl
   ·rw[Zwk e] at hl
    exact absurd (hl ▸ ZvY f l) (Nat.not_succ_le_self _)
noncomputable def qb(qs:List (Str × Pos)):List Zyc:=qs.map λq=>.Name q.1 q.2
theorem Hv{qs:List (Str × Pos)}{tp:Pos}  {e:Zyc}  (ho:U7 (qb qs) e=true):
 ZxV [.Tuple (qb qs) kk tp] e env=pure none∨ZxV [.Tuple (qb qs) kk tp] e env=pure (some (qs.map (·.1))):=by
 cases e with
 | Tuple vs k2 p=>
   refine Oj (λhc=>(Zun).trans (ue (λq=>gp) ?_)) λh=>?_
   ·rw[<-Zun]
    refine ZxO (Decidable.of_not_not λn=>hc ((Zwy _ _).mpr (.inl (bne_iff_ne.mpr n)))) (Zyl _)
   ·rcases (Zwy _ _).mp ho with q |q
    ·rw[h] at q;cases q
    ·exact q
 |_=>exact .inl rfl
theorem Mm      (ho:U7 [.Name x p1,.Name y p2] e=true):
 ZxV [.Tuple [.Name x p1,.Name y p2] kk tp] e env=pure none∨ZxV [.Tuple [.Name x p1,.Name y p2] kk tp] e env=pure (some [x,y]):=Hv (qs:=[(x,p1),(y,p2)]) ho
theorem Oq      (ho:U7 [.Name x p1,.Name y p2,.Name z p3] e=true):
 ZxV [.Tuple [.Name x p1,.Name y p2,.Name z p3] kk tp] e env=pure none∨ZxV [.Tuple [.Name x p1,.Name y p2,.Name z p3] kk tp] e env=pure (some [x,y,z]):=Hv (qs:=[(x,p1),(y,p2),(z,p3)]) ho
end
section
variable {C:Cx}{k:Nat}{F:Y7}{N M:Zya->Prop}{U σ₁ σ₂:Zx}{s s' s₁:Zym}{af:Z9}{h h':Zyp}
theorem Ex.frozen     (hx:U x=some (.own ds))(h:Ex C k F (U.set x (.val (.lst ds))) t af σ'):Ex C k F U t af σ':=λN M A s Q E hr I q=>by
 obtain⟨M',I',ok⟩:=I.freeze hx
 exact h N M' A s Q E hr I' λfl jg s' XY jc Iq=>q fl jg s' XY jc ((ok s rfl).trans Iq)
theorem wc     (ht:∀U b,T U=some b->YZ C k F.env U t b)(hf:∀U af σ',f U=some (af,σ')->Ex C k F U (execs body F.env) af σ')(m:Nat):
 ∀U af σ',J5 T f m U=some (af,σ')->LR C k F t body m U af σ':=by
 induction m with
 |zero=>exact λ_ _ _ h=>nS h
 | succ m ih=>
   intro U af σ' h
   refine Zj h λb h1 h=>?_
   cases b with
   | true=>
     refine Zj h λp h2 h=>?_
     refine .inr ⟨ht _ _ h1,p.1,p.2,hf _ _ _ h2,?_⟩
     cases p with
     | mk a σ₁=>cases a with
       |Z4=>exact ih _ _ _ h
       |cnt=>exact ih _ _ _ h
       |brk=>cases h;exact⟨rfl,rfl⟩
       |ret d=>cases h;exact⟨rfl,rfl⟩
   |false=>cases h;exact .inl ⟨ht _ _ h1,rfl,rfl⟩
theorem ur    (hf:∀U d af σ',f U d=some (af,σ')->∃ps,partsOf Zq d=some ps/\Ex C k F (Zi U (Zc Zq) ps) (execs body F.env) af σ')(ds:List PV):
 ∀U af σ',QK f ds U=some (af,σ')->U5 C k F Zq body ds U af σ':=by
 induction ds with
 |nil=>intro U af σ' h;cases h;exact⟨rfl,rfl⟩
 | cons d r ih=>
   intro U af σ' h
   refine Zj h λp h2 h=>?_
   refine (hf _ _ _ _ h2).elim λps z=>⟨ps,p.1,p.2,z.1,z.2,?_⟩
   cases p with
   | mk a σ₁=>cases a with
     |Z4=>exact ih _ _ _ h
     |cnt=>exact ih _ _ _ h
     |brk=>cases h;exact⟨rfl,rfl⟩
     |ret d=>cases h;exact⟨rfl,rfl⟩
theorem ib  (H:X9 C k S)     (hF:XM F)(h:QY F.env.scope S n U e=some d):Ex C k F U (exec (.Return (some e) pos) F.env) (.ret d) U:=by
 have so:=sound H n
 have last:(ev S n F.env.scope U.last e).bind AV.ZF=some d->Ex C k F U (exec (.Return (some e) pos) F.env) (.ret d) U:=λh=>Zj h λa h1 h2=>Ex.Oo ((so.ev _ _ _ _ hF.Z6 h1).ev h2)
 exact Qu h (λd' e1 h=>Zj e1 λa h1 h2=>Y4 h (λhd h=>Zyb h ▸ Ex.K9 ((so.ev _ _ _ _ hF.Z6 h1).ev h2) hd) λ_=>last) last
theorem Me    (h:Vb e=true):swapsWithSole [t] e line env=pure false:=by cases e<;>first |rfl |cases h
theorem iZ  (h:IA [x,y]=true):x≠y:=ne_of_beq_false ((Zxg _).mp h)
theorem i9  (h:IA [x,y,z]=true):x≠y/\x≠z/\y≠z:=
 Z0 h λh h3=>Z0 h λh1 h2=>⟨ne_of_beq_false ((Zxg _).mp h1),ne_of_beq_false ((Zxg _).mp h2),ne_of_beq_false ((Zxg _).mp h3)⟩
theorem kM       (hf:Zp F.env)(Y6:∀x∈xs,Yc F.env F.cs x)(h1:Dz ts=some xs)(BN:IA xs=true)(hl:ds.length=xs.length)(ho:U7 ts e=true)
 (hs:swapsWithSole [.Tuple ts kk tp] e pos.line F.env=pure false) (he:Z1 C k F.env U e (.val (.tup ds))):Ex C k F U (exec (.Assign [.Tuple ts kk tp] e pos) F.env) .Z4 (Zi U xs ds):=by
 refine Cc h1 (λx p y p' e1 h=>?_) λh=>f6 h (λx p y p' z BF e1 h=>?_) nS
 ·have hx:=Zyb h
  rw[e1] at ho hs ⊢
  rw[<-hx] at Y6 hl BN ⊢
  revert he
  refine UL (P:=λds=>Z1 C k F.env U e (.val (.tup ds))->Ex C k F U _ .Z4 (Zi U [x,y] ds)) hl λd1 d2 he=>?_
  have sx:=Y6 x (.head _)
  have sy:=Y6 y (.tail _ (.head _))
  exact (Mm (tp:=tp) (kk:=kk) (env:=F.env) ho).elim (Ex.Tu hf sx sy he hs) (Ex.dg hf sx sy (iZ BN) he hs)
 ·have hx:=Zyb h
  rw[e1] at ho hs ⊢
  rw[<-hx] at Y6 hl BN ⊢
  revert he
  refine P9 (P:=λds=>Z1 C k F.env U e (.val (.tup ds))->Ex C k F U _ .Z4 (Zi U [x,y,z] ds)) hl λd1 d2 d3 he=>?_
  have sx:=Y6 x (.head _)
  have sy:=Y6 y (.tail _ (.head _))
  have sz:=Y6 z (.tail _ (.tail _ (.head _)))
  have nd:=i9 BN
  exact (Oq (tp:=tp) (kk:=kk) (env:=F.env) ho).elim (Ex.nT hf sx sy sz he hs) (Ex.di hf sx sy sz nd.1 nd.2.1 nd.2.2 he hs)
section
variable {T:St}{n:Nat}{pos:Pos}{σ':Zx}(H:X9 C k T.sg)(hF:XM F)
theorem dQ  {P:α->β->Prop}   (q:P a' b')(h:(a,b)=(a',b')):P a b:=by cases h;exact q
theorem DB  {P:α->β->Prop}   (q:P a b)(h:some (a,b)=some (a',b')):P a' b':=by cases h;exact q
include H hF
theorem wN    (h:P1 T (ev T.sg n) (FV T.sg n) F.env.scope U x e=some (af,σ')):Ex C k F U (exec (.Assign [.Name x p] e pos) F.env) af σ':=
 Zl h λhx h=>Y4 h (λ_ h=>YQ h λds h1 e2=>by cases e2;exact i3 H hF (Wz hF hx) h1) λ_ h=>Zl h λhc h=>Zj h λa h1 h=>YQ h λd h2 e2=>by
  cases e2
  rw[De (P:=λa=>a=.val d) h2 rfl] at h1
  rcases (Zwy _ _).mp hc with hc |hc
  ·exact Ex.assign hF.Z6 (Wz hF hx) ((sound H n).ev _ _ _ _ hF.Z6 h1) (IL hc)
  ·exact L7 H hF (Wz hF hx) hc h1
theorem wD     (h:Pp (ev T.sg n) F.env.scope U ts e=some (af,σ')):Ex C k F U (exec (.Assign [.Tuple ts kk tp] e pos) F.env) af σ':=
 Zl h λhc h=>Z0 hc λho hn=>Zj h λxs h1 h=>Zl h λpA h=>Z0 pA λY6 BN=>Zj h λa h2 h=>Zj h λds h3 h=>Zl h λhlen h=>by
  cases h
  rw[ME (P:=λa=>a=.val (.tup ds)) h3 rfl] at h2
  exact kM hF.Z6 (λx hx=>Wz hF (ZyV.mp Y6 x hx)) h1 BN hlen ho (Me hn) ((sound H n).ev _ _ _ _ hF.Z6 h2)
theorem wA     (h:P0 (ev T.sg n) F.env.scope U x op e=some (af,σ')):Ex C k F U (exec (.AugAssign (.Name x p) op e pos) F.env) af σ':=
 Zl h λhc h=>Z0 hc λhx hn=>Zj h λv h1 h=>Zj h λa h2 h=>Zj h λb h3 h=>Zj h λb' h4 h=>YQ h λd h5 e2=>by
  cases e2
  rw[De (P:=λv=>v=.val a) h2 rfl] at h1
  exact Ex.aug hF.Z6 (Wz hF hx) h1 (((sound H n).ev _ _ _ _ hF.Z6 h3).ev h4) (fD h5) (Yz hn).2
theorem gM   (h:Ex C k F (Jg U iter) t af σ'):Ex C k F U t af σ':=by
 have g:∀x,Ex C k F (match U x with |some v=>(match v with |.own ds=>U.set x (.val (.lst ds)) |_=>U) |none=>U) t af σ'->Ex C k F U t af σ':=λx=>by
  cases hx:U x with
  |none=>exact id
  | some v=>cases v with
    |own ds=>exact λh=>Ex.frozen hx h
    |_=>exact id
 exact Xy (e:=iter) (d:=U) (r:=Jg U iter) rfl (λx p _ e=>g x ((congrArg (λz=>Ex C k F z t af σ') e).mpr h)) λe=>(congrArg (λz=>Ex C k F z t af σ') e).mpr h
theorem wC   (Nm:∀U ss af σ',Xm T n F.env.scope U ss=some (af,σ')->Ex C k F U (execs ss F.env) af σ')(h:jA (Y1 T.sg n) (Xm T n) F.env.scope U Zq iter body=some (af,σ')):
 Ex C k F U (exec (.For Zq iter body [] pos) F.env) af σ':=
 Zl h λhc h=>Z0 hc λhx hs=>Zj h λes h1 h=>gM H hF (iter:=iter) (Ex.for hF.Z6.kind (λx hm=>Wz hF (ZyV.mp hx x hm)) ((sound H n).Y1 _ _ _ _ _ _ hF.Z6 h1)
  (ur (λU d af σ' h=>Zj h λps h1 h2=>⟨ps,h1,Nm _ _ _ _ h2⟩) _ _ _ _ h) (IG hs))
theorem wB    (h:Po (ev T.sg n) F.env.scope U x i=some (af,σ')):Ex C k F U (exec (.Delete [.Subscript (.Name x p) i ip] pos) F.env) af σ':=
 Zl h λhn h=>Zj h λv h1 h=>Zj h λds h2 h=>Zj h λa h3 h=>Zj h λj h4 h=>Zj h λm h5 h=>Zl h λhc h=>by
  cases h
  rw[Dr h2] at h1
  rw[YA (P:=λv=>v=.val (.int j)) h4 rfl] at h3
  exact Ex.del hF.Z6 h1 ((sound H n).ev _ _ _ _ hF.Z6 h3) h5 hc.1 hc.2.1 hc.2.2 (Yz hn).2 (Yz hn).1
theorem Ot    (h:TN (ev T.sg n) F.env.scope U x m e apos Yj=some (af,σ')):Ex C k F U (exec (.Expr (.Call (.Attribute (.Name x p) m apos) [e] [] Yj) pos) F.env) af σ':=
 Zl h λhc h=>Z0 hc λhc AO=>Z0 hc λhn ZC=>Zj h λv h1 h=>Zj h λds h2 h=>by
  rw[Dr h2] at h1
  refine Y4 h (λhm h=>Zj h λa h3 h=>Zj h λd h4 h=>Zl h λhz h=>?_) λ_ h=>Zl h λhm h=>Zj h λa h3 h=>Zj h λd h4 h=>Zj h λj h5 h=>Zl h λhz h=>Z0 hz λZo hz=>?_
  ·cases h
   rw[eq_of_beq hm]
   exact Ex.append hF.Z6 h1 (((sound H n).ev _ _ _ _ hF.Z6 h3).ev h4) hz (Yz hn).2 (Yz hn).1 (KU hF.Z6) rfl rfl ZC (Wy AO)
  ·cases h
   rw[eq_of_beq hm]
   have Zo:=λa ha=>(ZyW _ _).mp (ZyV.mp Zo a ha)
   exact Ex.remove hF.Z6 h1 (((sound H n).ev _ _ _ _ hF.Z6 h3).ev h4) h5 (λa ha=>(Zo a ha).1) (λa ha=>of_decide_eq_true (Zo a ha).2) (of_decide_eq_true hz) (Yz hn).2 (Yz hn).1 (KU hF.Z6) rfl rfl ZC (Wy AO)
theorem sJ      (e1:ts=[t])(e2:t=.Name x p)(h:P1 T (ev T.sg n) (FV T.sg n) F.env.scope U x e=some (af,σ')):Ex C k F U (exec (.Assign ts e pos) F.env) af σ':=by
 rw[e1,e2];exact wN H hF h
theorem nR      (e1:ts=[t])(e2:t=.Tuple es kk tp)(h:Pp (ev T.sg n) F.env.scope U es e=some (af,σ')):Ex C k F U (exec (.Assign ts e pos) F.env) af σ':=by
 rw[e1,e2];exact wD H hF h
theorem sW      (e2:t=.Name x p)(h:P0 (ev T.sg n) F.env.scope U x op e=some (af,σ')):Ex C k F U (exec (.AugAssign t op e pos) F.env) af σ':=by
 rw[e2];exact wA H hF h
theorem tE     (e1:ts=[t])(e2:t=.Subscript o i ip)(e3:o=.Name x p)(h:Po (ev T.sg n) F.env.scope U x i=some (af,σ')):Ex C k F U (exec (.Delete ts pos) F.env) af σ':=by
 rw[e1,e2,e3];exact wB H hF h
theorem dN      (e1:c=.Call f as ks Yj)(e2:f=.Attribute o m apos)(e3:o=.Name x p)(e4:as=[e])(e5:ks=[])(h:TN (ev T.sg n) F.env.scope U x m e apos Yj=some (af,σ')):Ex C k F U (exec (.Expr c pos) F.env) af σ':=by
 rw[e1,e2,e3,e4,e5];exact Ot H hF h
end
theorem QM{T:St}(H:X9 C k T.sg)(hF:XM F)(BC:NF C k T F)(n:Nat):(∀U st af σ',Xj T n F.env.scope U st=some (af,σ')->Ex C k F U (exec st F.env) af σ')/\(∀U ss af σ',Xm T n F.env.scope U ss=some (af,σ')->Ex C k F U (execs ss F.env) af σ'):=by
 induction n with
 |zero=>exact⟨λ_ _ _ _ h=>nS h,λ_ _ _ _ h=>nS h⟩
 | succ n ih=>
   obtain⟨yb,Nm⟩:=ih
   have so:=sound H n
   have hf:=hF.Z6
   refine⟨λU st af σ' h=>?_,λU ss af σ' h=>?_⟩
   ·have xe:=λh=>BC U st af σ' h
    cases st with
    |Assign ts e pos=>exact WA h (λt e1 h=>Xy h (λx p e2 h=>sJ H hF e1 e2 h) λh=>Fx h (λes kk tp e2 h=>QA h xe λh=>nR H hF e1 e2 h) xe) xe
    |AugAssign Zq op e pos=>exact Xy h (λx p e2 h=>sW H hF e2 h) xe
    |If t body orelse p=>exact Zj h λb h1 h=>Ex.ite (so.Yi _ _ _ _ hf h1) (λe=>Nm _ _ _ _ ((if_pos e ▸ h :))) (λe=>Nm _ _ _ _ ((if_neg (ne_true_of_eq_false e) ▸ h :)))
    |While t body orelse p=>exact Ge h (λe h=>e ▸ Ex.while (wc (λU b hb=>so.Yi _ _ _ _ hf hb) (λU af σ' hh=>Nm _ _ _ _ hh) _ _ _ _ h)) xe
    |For Zq iter body orelse p=>exact Ge h (λe h=>e ▸ wC H hF Nm h) xe
    |Return e p=>exact Qu h (λd e1 h=>YQ h λd h1 e2=>dQ (P:=λa s=>Ex C k F U _ a s) (e1 ▸ ib H hF h1) e2) xe
    |Assert t m p=>exact Zj h λb h1 h=>Zl h λhb h=>DB (P:=λa s=>Ex C k F U _ a s) (Ex.assert (hb ▸ so.Yi _ _ _ _ hf h1)) h
    |Delete ts p=>exact WA h (λt e1 h=>uW h (λo i ip e2 h=>Xy h (λx p2 e3 h=>tE H hF e1 e2 e3 h) xe) xe) xe
    |Expr e pos=>exact KJ h (λf args ks Yj e1 h=>KI h (λo m apos e2 h=>Xy h (λx p e3 h=>WA h (λa e4 h=>Ge h (λe5 h=>QA h xe λh=>dN H hF e1 e2 e3 e4 e5 h) xe) xe) xe) xe) xe
    |_=>exact xe h
   ·cases ss with
    |nil=>exact DB (P:=λa s=>Ex C k F U _ a s) Ex.nil h
    | cons st r=>
      refine Zj h λp h1 h=>?_
      cases p with
      | mk a σ₁=>cases a with
        |Z4=>exact Ex.cons (yb _ _ _ _ h1) (Nm _ _ _ _ h)
        |brk=>exact DB (P:=λa s=>Ex C k F U _ a s) (Ex.stop (yb _ _ _ _ h1) Z9.noConfusion) h
        |cnt=>exact DB (P:=λa s=>Ex C k F U _ a s) (Ex.stop (yb _ _ _ _ h1) Z9.noConfusion) h
        |ret d=>exact DB (P:=λa s=>Ex C k F U _ a s) (Ex.stop (yb _ _ _ _ h1) Z9.noConfusion) h
end
noncomputable def G0(d:PV):Option Int:=match d with
 |.int i=>some i
 |_=>none
noncomputable def Gp(d:PV):Option Str:=match d with
 |.str x=>some x
 |_=>none
noncomputable def Nv(d:PV):Option (List PV):=match d with
 |.tup l=>some l
 |_=>none
theorem GN{α:Type}{f:PV->Option α}{g:α->PV}(hf:∀d a,f d=some a->d=g a) :∀{l:List α},ds.mapM f=some l->ds=l.map g:=by
 induction ds with
 |nil=>exact λ{l} h=>ZG (P:=λl=>[]=l.map g) rfl h
 | cons d ds ih=>
   intro l h
   rw[ZwH] at h
   exact Zj h λa h1 h=>Zj h λas h2 h=>ZG (P:=λl=>d::ds=l.map g) (by rw[ih h2,hf _ _ h1];rfl) h
theorem ints_of  {l:List Int}(h:ds.mapM G0=some l):ds=l.map .int:=GN (λd a e=>by
 cases d with
 |int i=>exact congrArg PV.int (Zyb e)
 |_=>exact nS e) h
theorem Hg  {l:List Str}(h:ds.mapM Gp=some l):ds=l.map .str:=GN (λd a e=>by
 cases d with
 |str i=>exact congrArg PV.str (Zyb e)
 |_=>exact nS e) h
theorem wm  {l:List (List PV)}(h:ds.mapM Nv=some l):ds=l.map .tup:=GN (λd a e=>by
 cases d with
 |tup i=>exact congrArg PV.tup (Zyb e)
 |_=>exact nS e) h
def XO(as:List AV):Option PV:=Vr as λa=>oc (YS a) (λx=>if x.length<=Zyk then some (.int x.length) else none)
 ((listOf a).bind λds=>if ds.length<=Zyk then some (.int ds.length) else none)
def FQ(as:List AV):Option PV:=Vr as λa=>(YS a).bind λx=>Vr x.cps.toList λc=>some (.int c)
def IU(as:List AV):Option PV:=Vr as λa=>(Wh a).bind λi=>if 0<=i/\i<=1114111 then some (.str ⟨#[i.toNat]⟩) else none
def I7(as:List AV):Option PV:=Vr as λa=>(listOf a).bind λds=>(ds.mapM G0).map λis=>.int is.sum
def I8(as:List AV):Option PV:=Vr as λa=>(listOf a).bind λds=>(ds.mapM G0).bind λis=>if is≠[] then some (.int (maxOf is)) else none
def CM(as:List AV):Option PV:=Vr as λa=>
 (listOf a).bind λds=>(ds.mapM Nv).bind λls=>if ls.all (λl=>ls.all λm=>U8 l m&&decide (l.length=m.length)) then ds[bestAt ds (ls.length-1)]? else none
def I1(x:Str)(as:List AV):Option PV:=
 if x==("len":Str) then XO as else if x==("ord":Str) then FQ as else if x==("chr":Str) then IU as else if x==("sum":Str) then I7 as else if x==("max":Str) then I8 as else if x==("min":Str) then CM as else none
def LZ(name x:Str)(as:List AV):Option PV:=match as with
 |[]=>if x.length<=5592405 then (if name==("upper":Str) then some (.str (ZwY x)) else if name==("lower":Str) then some (.str (ZyU x)) else none) else none
 | b::r=>(match r with
   |[]=>oc (YS b) (λy=>if name==("startswith":Str) then some (.bool (ZyY x y)) else if name==("endswith":Str) then some (.bool (ZyJ x y)) else if name==("find":Str) then some (.int (Txt.find x y))
    else if name==("split":Str) then (if y.length≠0/\x.length<=Zyk/\(ZyD x (Zy8 x y 0 x.length (x.length+1)) y.length).length<=Zyk then some (.lst ((ZyE x y).map .str)) else none) else none)
    (if name==("join":Str) then (listOf b).bind λds=>(ds.mapM Gp).bind λys=>if Zub x ys=true then some (.str (ZwS x ys)) else none else none)
   |c::r=>(YS b).bind λy=>(Wh c).bind λi=>Vr r λe=>(Wh e).bind λj=>if name==("find":Str) then some (.int (Xu x y i j)) else none)
def yc(name:Str)(a:AV)(as:List AV):Option PV:=Vr as λb=>(YS b).bind λx=>if name==("count":Str) then (listOf a).bind λds=>(ds.mapM Gp).map λys=>.int (ys.count x:Nat) else none
def Xx(name:Str)(a:AV)(as:List AV):Option PV:=oc (YS a) (λx=>LZ name x as) (yc name a as)
section
variable {C:Cx}{k:Nat}{U:Zx}{s s' s₁:Zym}{h h':Zyp}{env:Env}
theorem Bm   (h:listOf a=some ds):a=.val (.lst ds)∨a=.own ds:=by
 cases a with
 | val d=>cases d with
   |lst m=>exact .inl (by rw[Zyb h])
   |_=>exact nS h
 |own es=>exact .inr (by rw[Zyb h])
 |tab c es=>exact nS h
theorem vS   (h:XO as=some d):ZM C k (.builtin "len") as d:=
 Xd h λa e h=>e ▸ Qu h (λx e h=>Zl h λhc h=>Xb e ▸ ZG (Rx hc) h) λh=>Zj h λds h1 h=>Zl h λhc h=>ZG (L4 (Bm h1) hc) h
theorem vy   (h:FQ as=some d):ZM C k (.builtin "ord") as d:=
 Xd h λa e h=>e ▸ Zj h λx e h=>Xd h λc e2 h=>by
  have:x=⟨#[c]⟩:=by
   cases x with
   |mk a=>exact congrArg Str.mk (Zj0 e2)
  rw[Xb e,this]
  exact ZG f9 h
theorem uG   (h:IU as=some d):ZM C k (.builtin "chr") as d:=
 Xd h λa e h=>e ▸ Zj h λi e h=>YA (P:=λa=>ZM C k (.builtin "chr") [a] d) e (Zl h λhc h=>ZG (fY hc.1 hc.2) h)
theorem wX  {d:PV}(h:I7 as=some d):ZM C k (.builtin "sum") as d:=
 Xd h λa e h=>e ▸ Zj h λds h1 h=>YQ h λis h2 e=>e ▸ f7 (by rw[h1,ints_of h2])
theorem vB  {d:PV}(h:I8 as=some d):ZM C k (.builtin "max") as d:=
 Xd h λa e h=>e ▸ Zj h λds h1 h=>Zj h λis h2 h=>Zl h λhc h=>ZG (fZ (by rw[h1,ints_of h2]) hc) h
theorem vD  {d:PV}(h:CM as=some d):ZM C k (.builtin "min") as d:=
 Xd h λa e h=>e ▸ Zj h λds h1 h=>Zj h λls h2 h=>Zl h λhc h=>by
  have e:=wm h2
  rw[e] at h1 h
  exact Ry h1 (λl hl m hm=>Z0 (ZyV.mp (ZyV.mp hc l hl) m hm) λh1 h2=>⟨h1,of_decide_eq_true h2⟩) h
structure Md(C:Cx):Prop where
 miss:∀x∈([("len":Str),"ord","chr","sum","max","min"]:List Str),C.mg x=none
 len:C.mb "len"=some (.builtin "len")
 ord:C.mb "ord"=some (.builtin "ord")
 chr:C.mb "chr"=some (.builtin "chr")
 sum:C.mb "sum"=some (.builtin "sum")
 max:C.mb "max"=some (.builtin "max")
 min:C.mb "min"=some (.builtin "min")
theorem fU(B:Md C)    (h:I1 x as=some d)   (hf:Zp env)(hk:env.kindOf x=some .globalImplicit)(ha:ZW C k env U args as)(hd:(x==("__debug__":Str))=false):
 Ev C k env U (.Call (.Name x p) args [] pos) d:=by
 have go:∀{y:Str}{b:String},(x==y)=true->C.mg y=none->C.mb y=some (.builtin b)->ZM C k (.builtin b) as d->Ev C k env U (.Call (.Name x p) args [] pos) d:=λ{y b} e m i cv=>by
  have e:=eq_of_beq e
  rw[e] at hk hd ⊢
  exact Ev.Si hf ⟨m,i,hk⟩ ha cv hd
 exact Y4 h (λe h=>go e (B.miss _ (.head _)) B.len (vS h)) λ_ h=>Y4 h (λe h=>go e (B.miss _ (.tail _ (.head _))) B.ord (vy h)) λ_ h=>Y4 h (λe h=>go e (B.miss _ (.tail _ (.tail _ (.head _)))) B.chr (uG h))
  λ_ h=>Y4 h (λe h=>go e (B.miss _ (.tail _ (.tail _ (.tail _ (.head _))))) B.sum (wX h)) λ_ h=>Y4 h (λe h=>go e (B.miss _ (.tail _ (.tail _ (.tail _ (.tail _ (.head _)))))) B.max (vB h))
  λ_ h=>Zl h λe h=>go e (B.miss _ (.tail _ (.tail _ (.tail _ (.tail _ (.tail _ (.head _))))))) B.min (vD h)
section
variable {name:Str}{a:AV}{as:List AV}{d:PV}{o:Zyc}{apos pos:Pos}{args:List Zyc}(YJ:attributeBase o name env (eval o env)=eval o env)(ZC:(apos.endLine==pos.line)=true)(hl:args.length<29)
include YJ ZC hl
theorem xh  {T id:String}(e:(name==m)=true)(hT:Qr a=some T)(hm:Vu T m id)(hc:ZM C k (.builtin id) (a::as) d)(ho:Z1 C k env U o a)(ha:ZW C k env U args as):Ev C k env U (.Call (.Attribute o name apos) args [] pos) d:=by
 have e:=eq_of_beq e
 rw[e] at YJ ⊢
 exact Ev.method ho hT hm ha hc YJ ZC hl
theorem iV{x:Str}(h:LZ name x as=some d)(ho:Ev C k env U o (.str x))(ha:ZW C k env U args as):Ev C k env U (.Call (.Attribute o name apos) args [] pos) d:=by
 have go {as:List AV}{m:Str}{id:String}(e:(name==m)=true) (hm:Vu "str" m id) (hc:ZM C k (.builtin id) (.val (.str x)::as) d) (ha:ZW C k env U args as):=xh YJ ZC hl e rfl hm hc ho ha
 cases as with
 |nil=>exact Zl h λhz h=>Y4 h (λe h=>go e m_upper (ZG (zO hz) h) ha) λ_ h=>Zl h λe h=>go e m_lower (ZG (yz hz) h) ha
 | cons b r=>
   cases r with
   | nil=>
     refine Qu h (λy e1 h=>?_) λh=>Zl h λe h=>Zj h λds h1 h=>Zj h λys h2 h=>Zl h λhz h=>?_
     ·rw[Xb e1] at ha
      refine Y4 h (λe h=>go e m_startswith (ZG AF h) ha) λ_ h=>Y4 h (λe h=>go e m_endswith (ZG L5 h) ha) λ_ h=>Y4 h (λe h=>go e m_find (ZG uJ h) ha)
       λ_ h=>Zl h λe h=>Zl h λhz h=>?_
      have e:=eq_of_beq e
      rw[e] at YJ ⊢
      exact ZG (Ww.split ho ha (beq_eq_false_iff_ne.mpr hz.1) hz.2.1 hz.2.2 YJ ZC hl).ev h
     ·rw[Hg h2] at h1
      exact go e iO (ZG (uQ (Bm h1) hz) h) ha
   | cons c r=>
     refine Zj h λy e1 h=>Zj h λi e2 h=>Xd h λe e3 h=>Zj h λj e4 h=>Zl h λen h=>?_
     rw[e3,Xb e1,YA (P:=λc=>c=.val (.int i)) e2 rfl,YA (P:=λc=>c=.val (.int j)) e4 rfl] at ha
     exact go en m_find (ZG yy h) ha
theorem iU(h:Xx name a as=some d)(ho:Z1 C k env U o a)(ha:ZW C k env U args as):Ev C k env U (.Call (.Attribute o name apos) args [] pos) d:=by
 refine Qu h (λx e h=>?_) λh=>Xd h λb e h=>Zj h λx e1 h=>Zl h λen h=>Zj h λds h1 h=>YQ h λys h2 e2=>?_
 ·rw[Xb e] at ho
  exact iV YJ ZC hl h ho ha
 ·rw[Hg h2] at h1
  rw[e,Xb e1] at ha
  rw[e2]
  exact xh YJ ZC hl en (T:="list") ((Bm h1).elim (λe=>by rw[e];rfl) (λe=>by rw[e];rfl)) vA (Ln h1) ho ha
end
end
end Mine.Internal
end
section
open PySem PySem.W PyProof.Rows
namespace Mine.Internal.Hd
def sw(den:Code->Sem Fin)(S:Zqq)(n₀:Nat){α:Type}:Sem α->(α->Pos->Zyp->Nat->Nat->Prop)->Pos->Zyp->Nat->Nat->Prop
 |.pure a,Q,p,h,t,c=>Q a p h t c
 |.rule _ k,Q,p,h,t,c=>sw den S n₀ (k ()) Q p h t (c+1)
 |.at p' k,Q,_,h,t,c=>sw den S n₀ (k ()) Q p' h t (c+1)
 |.load a _ k,Q,p,h,t,c=>∃o,h.get? a=some o/\sw den S n₀ (k o) Q p h t (c+1)
 |.update a _ f k,Q,p,h,t,c=>(n₀<=a∨a=mainNs)/\(h.get? a).isSome/\sw den S n₀ (k ()) Q p (h.update a f) t (c+1)
 |.alloc o k,Q,p,h,t,c=>sw den S n₀ (k h.objs.size) Q p (h.push o) t (c+1)
 |.loadIfAlive a k,Q,p,h,t,c=>sw den S n₀ (k (h.get? a)) Q p h t (c+1)
 |.point _ k,Q,p,h,t,c=>sw den S n₀ (k ()) Q p h t (c+1)
 |.fresh k,Q,p,h,t,c=>sw den S n₀ (k t) Q p h (t+1) (c+1)
 |.ask k,Q,p,h,t,c=>sw den S n₀ (k S) Q p h t (c+1)
 |.call x _ _ _ k,Q,p,h,t,c=>∃(id:String) (args:Args) (f:Nat->Flow),den x=.pure (.again (.builtin id args))/\id.startsWith "lifetime."=false/\den (.builtin id args)=.fresh (λt=>.pure (.done (f t)))/\sw den S n₀ (k (.ok (f t))) Q p h (t+1) (c+4)
 |_,_,_,_,_,_=>False
section
variable {den:Code->Sem Fin}{S:Zqq}{n₀:Nat}{α β:Type}
theorem IW  {f g:γ->Prop}(h:∀x,f x=g x):(∃x,f x)=∃x,g x:=congrArg Exists (funext h)
theorem Og(m:Sem α)(f:α->Sem β)(Q:β->Pos->Zyp->Nat->Nat->Prop):∀(p:Pos)(h:Zyp)(t c:Nat),
 sw den S n₀ (m.bind f) Q p h t c=sw den S n₀ m (λa p' h' t' c'=>sw den S n₀ (f a) Q p' h' t' c') p h t c:=by
 induction m with
 |pure a=>exact λ_ _ _ _=>rfl
 |rule _ k ih=>exact λ_ _ _ _=>ih _ _ _ _ _
 | «at» _ k ih=>exact λ_ _ _ _=>ih _ _ _ _ _
 |point _ k ih=>exact λ_ _ _ _=>ih _ _ _ _ _
 |ask k ih=>exact λ_ _ _ _=>ih _ _ _ _ _
 |fresh k ih=>exact λ_ _ _ _=>ih _ _ _ _ _
 |loadIfAlive _ k ih=>exact λ_ _ _ _=>ih _ _ _ _ _
 |alloc _ k ih=>exact λ_ _ _ _=>ih _ _ _ _ _
 |load a _ k ih=>exact λ_ _ _ _=>IW λ_=>congrArg _ (ih _ _ _ _ _)
 |update a _ f k ih=>exact λ_ _ _ _=>congrArg _ (congrArg _ (ih _ _ _ _ _))
 |call x _ _ _ k ih=>exact λ_ _ _ _=>IW λ_=>IW λ_=>IW λ_=>congrArg _ (congrArg _ (congrArg _ (ih _ _ _ _ _)))
 |_=>exact λ_ _ _ _=>rfl
theorem Zm(m:Sem α)(f:α->Sem β)(Q:β->Pos->Zyp->Nat->Nat->Prop)(p:Pos)(h:Zyp)(t c:Nat):
 sw den S n₀ (m>>=f) Q p h t c=sw den S n₀ m (λa p' h' t' c'=>sw den S n₀ (f a) Q p' h' t' c') p h t c:=Og m f Q p h t c
theorem XU(a:α)(Q:α->Pos->Zyp->Nat->Nat->Prop)(p:Pos)(h:Zyp)(t c:Nat):sw den S n₀ (pure a) Q p h t c=Q a p h t c:=by
 rfl
theorem w6  (hQ:∀a p h t c,Q a p h t c->Q' a p h t c)(m:Sem α):∀(p:Pos)(h:Zyp)(t c:Nat),sw den S n₀ m Q p h t c->sw den S n₀ m Q' p h t c:=by
 induction m with
 |pure a=>intro p h t c q;exact hQ _ _ _ _ _ q
 |rule _ k ih=>intro p h t c q;exact ih _ _ _ _ _ q
 | «at» _ k ih=>intro p h t c q;exact ih _ _ _ _ _ q
 |point _ k ih=>intro p h t c q;exact ih _ _ _ _ _ q
 |ask k ih=>intro p h t c q;exact ih _ _ _ _ _ q
 |fresh k ih=>intro p h t c q;exact ih _ _ _ _ _ q
 |loadIfAlive _ k ih=>intro p h t c q;exact ih _ _ _ _ _ q
 |alloc _ k ih=>intro p h t c q;exact ih _ _ _ _ _ q
 |load a _ k ih=>intro p h t c q;obtain⟨o,h1,h2⟩:=q;exact⟨o,h1,ih _ _ _ _ _ h2⟩
 |update a _ f k ih=>intro p h t c q;exact⟨q.1,q.2.1,ih _ _ _ _ _ q.2.2⟩
 |call x _ _ _ k ih=>intro p h t c q;obtain⟨id,args,f,h1,h2,h3,h4⟩:=q;exact⟨id,args,f,h1,h2,h3,ih _ _ _ _ _ h4⟩
 |_=>intro p h t c q;exact q.elim
theorem w7(vs:List Zyd)(m:Sem α)(Q:α->Pos->Zyp->Nat->Nat->Prop):∀(p:Pos)(h:Zyp)(t c:Nat),sw den S n₀ (m.keep vs) Q p h t c=sw den S n₀ m Q p h t c:=by
 induction m with
 |pure a=>exact λ_ _ _ _=>rfl
 |rule _ k ih=>exact λ_ _ _ _=>ih _ _ _ _ _
 | «at» _ k ih=>exact λ_ _ _ _=>ih _ _ _ _ _
 |point _ k ih=>exact λ_ _ _ _=>ih _ _ _ _ _
 |ask k ih=>exact λ_ _ _ _=>ih _ _ _ _ _
 |fresh k ih=>exact λ_ _ _ _=>ih _ _ _ _ _
 |loadIfAlive _ k ih=>exact λ_ _ _ _=>ih _ _ _ _ _
 |alloc _ k ih=>exact λ_ _ _ _=>ih _ _ _ _ _
 |load a _ k ih=>exact λ_ _ _ _=>IW λ_=>congrArg _ (ih _ _ _ _ _)
 |update a _ f k ih=>exact λ_ _ _ _=>congrArg _ (congrArg _ (ih _ _ _ _ _))
 |call x _ _ _ k ih=>exact λ_ _ _ _=>IW λ_=>IW λ_=>IW λ_=>congrArg _ (congrArg _ (congrArg _ (ih _ _ _ _ _)))
 |_=>exact λ_ _ _ _=>rfl
theorem YI(vs:List Zyd)(m:Sem α)(Q:α->Pos->Zyp->Nat->Nat->Prop)(p:Pos)(h:Zyp)(t c:Nat):sw den S n₀ (holding vs m) Q p h t c=sw den S n₀ m Q p h t c:=by
 rw[holding_eq_keep,w7]
theorem Sr(m:Sem α)(f:Zyd->Sem Unit)(Q:α->Pos->Zyp->Nat->Nat->Prop):∀(p:Pos)(h:Zyp)(t c:Nat),sw den S n₀ m Q p h t c->sw den S n₀ (m.onRaise f) Q p h t c:=by
 induction m with
 |pure a=>intro p h t c q;exact q
 |rule _ k ih=>intro p h t c q;exact ih _ _ _ _ _ q
 | «at» _ k ih=>intro p h t c q;exact ih _ _ _ _ _ q
 |point _ k ih=>intro p h t c q;exact ih _ _ _ _ _ q
 |ask k ih=>intro p h t c q;exact ih _ _ _ _ _ q
 |fresh k ih=>intro p h t c q;exact ih _ _ _ _ _ q
 |loadIfAlive _ k ih=>intro p h t c q;exact ih _ _ _ _ _ q
 |alloc _ k ih=>intro p h t c q;exact ih _ _ _ _ _ q
 |load a _ k ih=>intro p h t c q;obtain⟨o,h1,h2⟩:=q;exact⟨o,h1,ih _ _ _ _ _ h2⟩
 |update a _ f k ih=>intro p h t c q;exact⟨q.1,q.2.1,ih _ _ _ _ _ q.2.2⟩
 |call x _ _ _ k ih=>intro p h t c q;obtain⟨id,args,f,h1,h2,h3,h4⟩:=q;exact⟨id,args,f,h1,h2,h3,ih _ _ _ _ _ h4⟩
 |_=>intro p h t c q;exact q.elim
theorem Ly(m:Sem α)(f:Zyd->Sem α)(Q:α->Pos->Zyp->Nat->Nat->Prop):∀(p:Pos)(h:Zyp)(t c:Nat),sw den S n₀ m Q p h t c->sw den S n₀ (m.tryCatch f) Q p h t c:=by
 induction m with
 |pure a=>intro p h t c q;exact q
 |rule _ k ih=>intro p h t c q;exact ih _ _ _ _ _ q
 | «at» _ k ih=>intro p h t c q;exact ih _ _ _ _ _ q
 |point _ k ih=>intro p h t c q;exact ih _ _ _ _ _ q
 |ask k ih=>intro p h t c q;exact ih _ _ _ _ _ q
 |fresh k ih=>intro p h t c q;exact ih _ _ _ _ _ q
 |loadIfAlive _ k ih=>intro p h t c q;exact ih _ _ _ _ _ q
 |alloc _ k ih=>intro p h t c q;exact ih _ _ _ _ _ q
 |load a _ k ih=>intro p h t c q;obtain⟨o,h1,h2⟩:=q;exact⟨o,h1,ih _ _ _ _ _ h2⟩
 |update a _ f k ih=>intro p h t c q;exact⟨q.1,q.2.1,ih _ _ _ _ _ q.2.2⟩
 |call x _ _ _ k ih=>intro p h t c q;obtain⟨id,args,f,h1,h2,h3,h4⟩:=q;exact⟨id,args,f,h1,h2,h3,ih _ _ _ _ _ h4⟩
 |_=>intro p h t c q;exact q.elim
theorem Lp(m:Sem α)(f:Zyd->Sem α)(Q:α->Pos->Zyp->Nat->Nat->Prop)(p:Pos)(h:Zyp)(t c:Nat)(q:sw den S n₀ m Q p h t c):sw den S n₀ (tryCatch m f) Q p h t c:=Ly m f Q p h t c q
end
section
variable {tb:String->Option ZuW}{P:Zuj}{w:Zyh}{n₀:Nat}{ann:Option Zyd}{c:Code}{fr:Frame}
 {α:Type}{K:α->Sem Fin}{H:Zyd->Sem Fin}{gd:Bool->Bool}{lv:List Zyd->List Zyd}
 (gens:Array GenState) (drawn:Drawn) (os:ZyI) (Q:α->Pos->Zyp->Nat->Nat->Prop)
variable (tb P w n₀ ann c fr K H gd lv) in
def Seg(m:Sem α)(p:Pos)(h:Zyp)(t n₁:Nat):Prop:=∃n a p' h' t',Q a p' h' t' (n₁+n)/\∀N r,segRun tb P w n₀ ann 1 N ⟨h',gens,drawn,t',os⟩ ⟨K a,c,p',[fr]⟩=some r->
 segRun tb P w n₀ ann 1 (n+N) ⟨h,gens,drawn,t,os⟩ ⟨m.wrap K H gd lv,c,p,[fr]⟩=some r
theorem NZ    {r}(h1:endAt 1 t=none)(h2:stepOk n₀ ann t=true)(h3:step (denote tb) P w s t=.go s' t')
 (h4:segRun tb P w n₀ ann 1 N s' t'=some r):segRun tb P w n₀ ann 1 (N+1) s t=some r:=by
 unfold segRun;rw[h1,h2,h3];exact h4
variable {gens drawn os Q}{m m':Sem α}{p p2:Pos}{h h2:Zyp}{t t2 n₁:Nat}
theorem Seg.step(q:Seg tb P w n₀ ann c fr K H gd lv gens drawn os Q m' p2 h2 t2 (n₁+1))(e1:endAt 1 ⟨m.wrap K H gd lv,c,p,[fr]⟩=none)(e2:stepOk n₀ ann ⟨m.wrap K H gd lv,c,p,[fr]⟩=true)
 (e3:step (denote tb) P w ⟨h,gens,drawn,t,os⟩ ⟨m.wrap K H gd lv,c,p,[fr]⟩=.go ⟨h2,gens,drawn,t2,os⟩ ⟨m'.wrap K H gd lv,c,p2,[fr]⟩):Seg tb P w n₀ ann c fr K H gd lv gens drawn os Q m p h t n₁:=by
 obtain⟨n,a,p',h',t',q',f⟩:=q
 refine⟨n+1,a,p',h',t',?_,λN r e=>?_⟩
 ·rw[Zwe n 1,<-Zwi];exact q'
 ·rw[Zvv n 1 N];exact NZ e1 e2 e3 (f N r e)
end
theorem kB   {ann:Option Zyd}(ha:n₀<=a₀∨a₀=mainNs):(ZqB n₀ a₀||a₀==mainNs||a₀==cStatics||ann==some (.ref a₀))=true:=by
 rcases ha with ha |ha
 ·rw[Nat.ble_eq_true_of_le ha];rfl
 ·rw[ha,beq_self_eq_true,Bool.or_true];rfl
theorem Ru{id:String}{args c p st}(h:id.startsWith "lifetime."=false):Thread.calm ⟨.pure (.again (.builtin id args)),c,p,st⟩=true:=by
 show (((!id.startsWith "lifetime."||_)&&true)&&true)=true
 rw[h];rfl
theorem kL   {w:Zyh}
 {K:α->Sem Fin}
 (gens:Array GenState) (drawn:Drawn) (os:ZyI) (Q:α->Pos->Zyp->Nat->Nat->Prop) (m:Sem α):∀(p:Pos) (h:Zyp) (t n₁:Nat),sw (denote tb) ⟨P,w.params⟩ n₀ m Q p h t n₁->Seg tb P w n₀ ann c fr K H gd lv gens drawn os Q m p h t n₁:=by
 induction m with
 |pure a=>exact λp h t n₁ q=>⟨0,a,p,h,t,q,λN r e=>by rw[Zxb];exact e⟩
 |rule tag k ih=>exact λp h t n₁ q=>(ih () p h t _ q).step rfl rfl rfl
 | «at» p₀ k ih=>exact λp h t n₁ q=>(ih () p₀ h t _ q).step rfl rfl rfl
 |point l k ih=>exact λp h t n₁ q=>(ih () p h t _ q).step rfl rfl rfl
 |ask k ih=>exact λp h t n₁ q=>(ih _ p h t _ q).step rfl rfl rfl
 |fresh k ih=>exact λp h t n₁ q=>(ih _ p h _ _ q).step rfl rfl rfl
 |loadIfAlive a₀ k ih=>exact λp h t n₁ q=>(ih _ p h t _ q).step rfl rfl rfl
 |alloc o k ih=>exact λp h t n₁ q=>(ih _ p _ t _ q).step rfl rfl rfl
 | load a₀ part k ih=>
   exact λp h t n₁ q=>q.elim λo q=>(ih _ p _ t _ q.2).step rfl rfl (by show (match h.get? a₀ with |some o=>_ |none=>_)=_;rw[q.1])
 | update a₀ part g k ih=>
   exact λp h t n₁ q=>(ih _ p _ t _ q.2.2).step rfl (Zxp.mpr ⟨rfl,kB q.1⟩) (if_pos q.2.1)
 | call c₀ hd g l k ih=>
   intro p h t n₁ q;obtain⟨id,args,f,h1,h2,h3,q⟩:=q
   obtain⟨n,a,p',h',t',q',F⟩:=ih _ p h _ _ q
   refine⟨n+4,a,p',h',t',?_,λN r e=>?_⟩
   ·rw[Zwe n 4,<-Zwi];exact q'
   rw[Zvv n 4 N]
   refine NZ rfl rfl rfl ?_
   rw[h1]
   refine NZ (s':=⟨h,gens,drawn,t,os⟩) rfl ?_ step_again ?_
   ·exact congrArg (·&&true) (Ru h2)
   rw[h3]
   refine NZ rfl rfl rfl ?_
   exact NZ (by unfold endAt;rfl) rfl rfl (F N r e)
 |_=>exact λp h t n₁ q=>q.elim
theorem AJ(k:Int)(t:Tok):denote Zy3 (.call (.builtin "int.__hash__") ⟨[.int k t],[]⟩)=.pure (.again (.builtin "int.__hash__" ⟨[.int k t],[]⟩)):=by kernel_rfl!
theorem zM(k:Int)(t:Tok):denote Zy3 (.builtin "int.__hash__" ⟨[.int k t],[]⟩)=.fresh (λu=>.pure (.done (.ret (.int (rawHash k) u)))):=by kernel_rfl!
noncomputable def Yb(es:Array Zvl)(n:Nat):Obj:={ cls:=.type "dict",data:=.dict es n }
section
variable {S:Zqq}{n₀:Nat}{p:Pos}{h:Zyp}{t z:Nat}
theorem Mh  :sw (denote Zy3) S n₀ (mkInt i) Q p h t z=Q (.int i t) p h (t+1) (z+1):=rfl
theorem Av  :sw (denote Zy3) S n₀ (mkText x) Q p h t z=Q (.str x t) p h (t+1) (z+1):=rfl
theorem Qc  :sw (denote Zy3) S n₀ (standAt q) Q p h t z=Q () q h t (z+1):=rfl
theorem Hq  :sw (denote Zy3) S n₀ (rule x) Q p h t z=Q () p h t (z+1):=rfl
theorem kT :sw (denote Zy3) S n₀ ask Q p h t z=Q S p h t (z+1):=rfl
theorem Mr  :sw (denote Zy3) S n₀ (alloc o) Q p h t z=Q h.objs.size p (h.push o) t (z+1):=rfl
theorem WQ     (ho:h.get? a=some o)(q:Q o p h t (z+1)):sw (denote Zy3) S n₀ (loadPart a pt) Q p h t z:=⟨o,ho,q⟩
theorem A8      (ha:n₀<=a∨a=mainNs)(ho:h.get? a=some o)(q:Q () p (h.update a f) t (z+1)):
 sw (denote Zy3) S n₀ (updatePart a pt f) Q p h t z:=⟨ha,by rw[ho];rfl,q⟩
theorem Qb   {es n}  (ho:h.get? a=some (Yb es n))(q:Q es p h t (z+1)):
 sw (denote Zy3) S n₀ (dictEntries a pt) Q p h t z:=by
 unfold dictEntries
 rw[Zm]
 exact WQ ho q
theorem Ms   {es n}  (ho:h.get? a=some (Yb es n))(q:Q n p h t (z+1)):
 sw (denote Zy3) S n₀ (dictEpoch a pt) Q p h t z:=by
 unfold dictEpoch
 rw[Zm]
 exact WQ ho q
theorem Hj   {es n}   (ha:n₀<=a∨a=mainNs)(ho:h.get? a=some (Yb es n))(hs:es.size<100000)
 (q:Q () p (h.update a (ZwJ (·.push e))) t (z+3)):sw (denote Zy3) S n₀ (updateDictKeys a (·.push e) pt) Q p h t z:=by
 unfold updateDictKeys
 rw[Zm]
 refine WQ ho ?_
 show sw _ _ _ (updatePart a pt _>>=λ_=>lookBehind a pt) Q p h t _
 rw[Zm]
 refine A8 ha ho ?_
 unfold lookBehind
 rw[Zm]
 refine WQ (o:=Yb (es.push e) (n+1)) (ZwU _ ho rfl) ?_
 have hl:(Data.dict (es.push e) (n+1)).pastItsLine=none:=by
  show (if (es.push e).size > Zyk+1 then some "dict:memory" else none)=none
  rw[if_neg]
  rw[Zv5]
  have:Zyk=16777216:=by decide
  lia
 show sw _ _ _ (match (Data.dict (es.push e) (n+1)).pastItsLine with |some what=>unsupported what |_=>pure ()) Q p _ t _
 rw[hl]
 exact q
theorem i8(es:Array Zvl)(k:Int)(hk:∀e∈es,e.hash≠k):placesWithHash es.size (λi=>es[i]?.map (·.hash)) k=[]:=by
 unfold placesWithHash
 rw[List.filter_eq_nil_iff]
 intro i _ he
 dsimp only at he
 cases x:es[i]? with
 |none=>rw[x] at he;simp at he
 |some e=>rw[x] at he;exact hk e (Array.mem_of_getElem? x) (by simpa using he)
theorem Hi    {es n}  (ho:h.get? a=some (Yb es n))(hk:∀e∈es,e.hash≠hashInt k)(q:Q none p h t (z+1)):
 sw (denote Zy3) S n₀ (dictFind a (.int k u) (hashInt k)) Q p h t z:=by
 unfold dictFind
 rw[YI,Zm]
 refine Qb ho ?_
 rw[i8 es _ hk]
 exact q
theorem Lx    (q:Q (.int (rawHash k) t) p h (t+1) (z+4)):sw (denote Zy3) S n₀ (call (.builtin "int.__hash__") [.int k u]) Q p h t z:=
 ⟨_,_,_,AJ k u,by decide +kernel,zM k u,q⟩
theorem wZ    (q:Q (hashInt k) p h (t+1) (z+5)):sw (denote Zy3) S n₀ (pyHash (.int k u)) Q p h t z:=by
 have hr:=rawHash_range k
 have hv:[Zvj k u].any Value.onHeap=false:=rfl
 have sp:specialOf (.int k u) "__hash__"=pure (some (.builtin "int.__hash__")):=by
  show (pure (Value.type "int")>>=λT=>typeLookup T "__hash__")=_
  rw[pure_bind]
  exact slot_int_hash.lookup
 have hb:bindSpecialIfBound? (.int k u) "__hash__"=(do if (<-ask).params.followText "special-get-raises" then pure (some (.builtin "int.__hash__",[.int k u])) else tryCatch (pure (some (.builtin "int.__hash__",[.int k u]))) λ_=>(do rule "special.get-raises-dropped";pure none)):=by
  unfold bindSpecialIfBound?
  rw[sp,pure_bind]
  simp only[slot_int_hash.bind,pure_bind]
  rfl
 unfold pyHash pyHashByItsType
 rw[Zm,cRoomFor,if_neg (by rw[hv];exact ZyG),XU]
 dsimp only
 rw[sp,pure_bind]
 rw[if_neg (by rw[beq_builtin_none];exact ZyG),pure_bind,if_neg (c:=(some (ZvD "int.__hash__")).isNone=true) ZyG]
 unfold callSpecialIfBoundUnlessNone?
 rw[Zm,YI,hb,Zm,Zm,kT]
 have fin:∀(Q':Option (Zyd × List Zyd)->Pos->Zyp->Nat->Nat->Prop),Q' (some (.builtin "int.__hash__",[.int k u])) p h t (z+1)->
  sw (denote Zy3) S n₀ (if S.params.followText "special-get-raises" then pure (some (ZvD "int.__hash__",[Zvj k u])) else tryCatch (pure (some (ZvD "int.__hash__",[Zvj k u]))) λ_=>(do rule "special.get-raises-dropped";pure none)) Q' p h t (z+1):=by
  intro Q' q'
  cases S.params.followText "special-get-raises" with
  |true=>exact q'
  |false=>exact Lp _ _ _ _ _ _ _ q'
 refine fin _ ?_
 dsimp only
 rw[if_neg (by rw[builtin_beq_none];exact ZyG)]
 rw[Zm]
 refine Lx ?_
 show sw _ _ _ (if (decide (-(2:Int) ^ 63<=rawHash k)&&decide (rawHash k<2 ^ 63))=true then _ else _) Q p h _ _
 rw[if_pos (by rw[decide_eq_true hr.1,decide_eq_true hr.2];rfl)]
 exact q
theorem RQ     {es n}  (ha:n₀<=a∨a=mainNs)(ho:h.get? a=some (Yb es n))(hs:es.size<100000)
 (hk:∀e∈es,e.hash≠hashInt k) (q:Q () p (h.update a (ZwJ (·.push ⟨hashInt k,.int k u,v⟩))) (t+1) (z+10)):
 sw (denote Zy3) S n₀ (dictSet a (.int k u) v) Q p h t z:=by
 unfold dictSet
 rw[YI,Zm]
 refine wZ ?_
 unfold dictSetHashed
 rw[YI,Zm]
 refine Hi ho hk ?_
 dsimp only
 rw[Zm,Hq]
 exact Hj ha ho hs q
theorem kH     {es n}  (ha:n₀<=a∨a=mainNs)(ho:h.get? a=some (Yb es n))(hs:es.size<100000)
 (hk:∀e∈es,e.hash≠hashInt k) (q:Q () p (h.update a (ZwJ (·.push ⟨hashInt k,.int k u,v⟩))) t (z+4)):
 sw (denote Zy3) S n₀ (dictPut a (hashInt k) (.int k u) v) Q p h t z:=by
 unfold dictPut
 rw[Zm]
 refine Hi ho hk ?_
 dsimp only
 exact Hj ha ho hs q
end
abbrev XJ:=Int × Nat × Zyd
noncomputable def ent(x:XJ):Zvl:=⟨hashInt x.1,.int x.1 x.2.1,x.2.2⟩
def Zs(xs:List XJ):Array Zvl:=(xs.map ent).toArray
noncomputable def put(h:Zyp)(a:Zya)(o:Obj):Zyp:=h.update a (λ_=>o)
theorem QS{h h':Zyp}(h1:∀i:Nat,h.objs[i]?=h'.objs[i]?)(h2:h.life=h'.life):h=h':=by
 obtain⟨o,l⟩:=h
 obtain⟨o',l'⟩:=h'
 cases h2
 have:o=o':=Array.ext_getElem? h1
 rw[this]
theorem Wj(h:Zyp)(a:Zya)(f:Obj->Obj)(i:Nat):(h.update a f).objs[i]?=if a=i then h.objs[i]?.map f else h.objs[i]?:=by
 show (h.objs.modify a f)[i]?=_
 rw[Array.getElem?_modify]
theorem US     (ho:h.get? a=some o):h.update a f=put h a (f o):=by
 refine QS (λi=>?_) rfl
 unfold put
 rw[Wj,Wj]
 by_cases e:a=i
 ·subst e
  rw[(Zum.mp ho).1]
  rfl
 ·simp [e]
theorem G7   :put (put h a o) a o'=put h a o':=by
 refine QS (λi=>?_) rfl
 unfold put
 rw[Wj,Wj,Wj]
 by_cases e:a=i
 ·subst e
  cases h.objs[a]?<;>simp
 ·simp [e]
theorem JT    (ho:h.get? a=some o)(hf:o'.isFreed=false):(put h a o').get? a=some o':=ZwU _ ho hf
theorem RC    (e:a≠b):(put h a o).get? b=h.get? b:=Zwc h _ e
theorem Du    (ho:h.get? a=some o):put h a o=h:=by
 refine QS (λi=>?_) rfl
 unfold put
 rw[Wj]
 by_cases e:a=i
 ·subst e
  rw[(Zum.mp ho).1];simp
 ·simp [e]
theorem Dv   :(put h a o).objs.size=h.objs.size:=by
 show (h.objs.modify a _).size=_
 simp
theorem G8(h:Zyp)(o:Obj)(i:Nat):(h.push o).objs[i]?=if i=h.objs.size then some o else h.objs[i]?:=by
 show (h.objs.push o)[i]?=_
 rw[Array.getElem?_push]
theorem Mp    (ha:a<h.objs.size):put (h.push o') a o=(put h a o).push o':=by
 refine QS (λi=>?_) rfl
 unfold put
 rw[Wj,G8,G8,Wj]
 have:(h.update a λ_=>o).objs.size=h.objs.size:=Dv
 rw[this]
 by_cases e:a=i
 ·subst e
  have:a≠h.objs.size:=Zwd ha
  simp [this]
 ·simp [e]
theorem Bf{h:Zyp} :put (h.push o') h.objs.size o=h.push o:=by
 refine QS (λi=>?_) rfl
 unfold put
 rw[Wj,G8,G8]
 by_cases e:h.objs.size=i
 ·subst e;simp
 ·have:¬i=h.objs.size:=λq=>e q.symm
  simp [e,this]
theorem QT{h:Zyp}  (hf:o.isFreed=false):(h.push o).get? h.objs.size=some o:=ZyX _ hf
theorem Dq{h:Zyp}   (ho:h.get? a=some o):(h.push o').get? a=some o:=Zyo _ ho
theorem My{h:Zyp}   (ho:h.get? a=some o):a<h.objs.size:=by
 have:=(Zum.mp ho).1
 exact (ZwI.mp this).1
theorem JQ(xs:List XJ)(x:XJ):(Zs xs).push (ent x)=Zs (xs++[x]):=by
 unfold Zs;simp
theorem UG(xs:List XJ):(Zs xs).size=xs.length:=by unfold Zs;simp
def Apart(xs:List XJ):Prop:=(xs.map λx=>hashInt x.1).Nodup
theorem Apart.fresh   (hA:Apart (xs++[x])):∀e∈Zs xs,e.hash≠hashInt x.1:=by
 intro e he
 unfold Zs at he
 obtain⟨y,hy,rfl⟩:=Zye.mp (Zjd.mp he)
 unfold Apart at hA
 rw[Zy9,Zvg] at hA
 exact hA.2.2 _ (Zye.mpr ⟨y,hy,rfl⟩) _ (by simp)
theorem Apart.left  (hA:Apart (xs++ys)):Apart xs:=by
 unfold Apart at hA ⊢
 rw[Zy9,Zvg] at hA
 exact hA.1
noncomputable def pr(q:Pos)(x:Int × Str):Sem Zyd × Sem Zyd:=(mkInt x.1,do let v <-mkText x.2;standAt q;pure v)
noncomputable def Yy:Nat->List (Int × Str)->List XJ
 |_,[]=>[]
 |t,(k,x)::r=>(k,t,.str x (t+1))::Yy (t+3) r
noncomputable def Xf:Nat->List (Int × Str)->List XJ
 |_,[]=>[]
 |t,(k,x)::r=>(k,t,.str x (t+1))::Xf (t+2) r
section
variable {S:Zqq}{n₀:Nat}
theorem Hk(q:Pos)(a:Zya)(ha:n₀<=a):∀(xs:List (Int × Str))(ys:List XJ)(n:Nat)(p:Pos)(h:Zyp)(t z:Nat)(Q:PUnit->Pos->Zyp->Nat->Nat->Prop),
 h.get? a=some (Yb (Zs ys) n)->Apart (ys++Yy t xs)->ys.length+xs.length<100000->
 Q () (if xs.isEmpty then p else q) (put h a (Yb (Zs (ys++Yy t xs)) (n+xs.length))) (t+3*xs.length) (z+13*xs.length)->
 sw (denote Zy3) S n₀ (forIn (xs.map (pr q)) Zuz λ(x:Sem Zyd × Sem Zyd) (_:PUnit)=>(do
     let kv <-x.1
     let vv <-holding [kv] x.2
     holding [kv,vv] (dictSet a kv vv)
     pure (Zwr Zuz):Sem (ForInStep PUnit))) Q p h t z
 | [],ys,n,p,h,t,z,Q,ho,_,_,hQ=>by
   rw[Zwo,Zvd]
   exact (Du ho ▸ (Zxh ys).symm ▸ hQ:Q () p h t z)
 | (k,x)::xs,ys,n,p,h,t,z,Q,ho,hA,hl,hQ=>by
   have Ig:Apart (ys++[(k,t,Zul x (t+1))]):=by
    exact Apart.left (((ZyC ys [_] _).symm:ys++Yy t ((k,x)::xs)=_) ▸ hA)
   rw[Zy4] at hl
   rw[ZyZ,Zwz]
   rw[Zm]
   show sw _ _ _ ((pr q (k,x)).1>>=_) _ p h t _
   rw[Zm]
   show sw _ _ _ (mkInt k) _ p h t _
   rw[Mh,Zm,YI]
   show sw _ _ _ (do let v <-mkText x;standAt q;pure v) _ p h _ _
   rw[Zm,Av,Zm,Qc,XU,Zm,YI]
   refine RQ (.inl ha) ho (by rw[UG];lia) Ig.fresh ?_
   rw[XU]
   dsimp only
   rw[US ho]
   have e:(ZwJ (λNi=>Ni.push ⟨hashInt k,Zvj k t,Zul x (t+1)⟩) (Yb (Zs ys) n))=Yb (Zs (ys++[(k,t,Zul x (t+1))])) (n+1):=by
    show Yb ((Zs ys).push (ent (k,t,Zul x (t+1)))) (n+1)=_
    rw[JQ]
   rw[e]
   refine Hk q a ha xs (ys++[(k,t,Zul x (t+1))]) (n+1) q _ (t+3) (z+13) Q (JT ho rfl) (((ZyC ys [_] _).symm:ys++Yy t ((k,x)::xs)=_) ▸ hA) (by rw[Zyn,ZvT];lia) ?_
   rw[G7]
   have e2:(ys++[(k,t,Zul x (t+1))])++Yy (t+3) xs=ys++Yy t ((k,x)::xs):=ZyC ..
   rw[e2]
   have e3:(if xs.isEmpty then q else q)=q:=ite_self _
   rw[e3]
   have e4:n+1+xs.length=n+((k,x)::xs).length:=by rw[Zy4];lia
   have e5:t+3+3*xs.length=t+3*((k,x)::xs).length:=by rw[Zy4];lia
   have e6:z+13+13*xs.length=z+13*((k,x)::xs).length:=by rw[Zy4];lia
   rw[e4,e5,e6]
   exact hQ
theorem Hu(q:Pos):∀(xs:List (Int × Str))(p:Pos)(h:Zyp)(t z:Nat)(Q:List (Zyd × Zyd)->Pos->Zyp->Nat->Nat->Prop),
 Q ((Xf t xs).map λx=>(.int x.1 x.2.1,x.2.2)) (if xs.isEmpty then p else q) h (t+2*xs.length) (z+3*xs.length)->sw (denote Zy3) S n₀ (evalPairs (xs.map (pr q))) Q p h t z
 |[],p,h,t,z,Q,hQ=>hQ
 | (k,x)::xs,p,h,t,z,Q,hQ=>by
   rw[ZyZ]
   show sw _ _ _ (evalPairs ((mkInt k,do let v <-mkText x;standAt q;pure v)::xs.map (pr q))) Q p h t _
   unfold evalPairs
   rw[Zm,Mh,Zm,YI,Zm,Av,Zm,Qc,XU,Zm,YI]
   refine Hu q xs q h (t+2) (z+3) _ ?_
   rw[XU]
   have e3:(if xs.isEmpty then q else q)=q:=ite_self _
   rw[e3]
   have e5:t+2+2*xs.length=t+2*((k,x)::xs).length:=by rw[Zy4];lia
   have e6:z+3+3*xs.length=z+3*((k,x)::xs).length:=by rw[Zy4];lia
   rw[e5,e6]
   exact hQ
theorem Ml(a:Zya)(ha:n₀<=a):∀(xs ys:List XJ)(n:Nat)(p:Pos)(h:Zyp)(t z:Nat)(Q:PUnit->Pos->Zyp->Nat->Nat->Prop),
 h.get? a=some (Yb (Zs ys) n)->Apart (ys++xs)->ys.length+xs.length<100000->
 Q () p (put h a (Yb (Zs (ys++xs)) (n+xs.length))) (t+xs.length) (z+10*xs.length)->
 sw (denote Zy3) S n₀ (forIn (xs.map λx=>(Zvj x.1 x.2.1,x.2.2)) Zuz λ(x:Zyd × Zyd) (_:PUnit)=>(do dictSet a x.1 x.2;pure (Zwr Zuz):Sem (ForInStep PUnit))) Q p h t z
 | [],ys,n,p,h,t,z,Q,ho,_,_,hQ=>by
   rw[Zwo,Zvd]
   exact (Du ho ▸ (Zxh ys).symm ▸ hQ:Q () p h t z)
 | x::xs,ys,n,p,h,t,z,Q,ho,hA,hl,hQ=>by
   have e2:ys++x::xs=(ys++[x])++xs:=(ZyC ys [x] xs).symm
   rw[e2] at hA hQ
   rw[Zy4] at hl
   rw[ZyZ,Zwz,Zm,Zm]
   refine RQ (.inl ha) ho (by rw[UG];lia) hA.left.fresh ?_
   rw[XU]
   dsimp only
   rw[US ho]
   have e:(ZwJ (λNi=>Ni.push ⟨hashInt x.1,Zvj x.1 x.2.1,x.2.2⟩) (Yb (Zs ys) n))=Yb (Zs (ys++[x])) (n+1):=by
    show Yb ((Zs ys).push (ent x)) (n+1)=_
    rw[JQ]
   rw[e]
   refine Ml a ha xs (ys++[x]) (n+1) p _ (t+1) (z+10) Q (JT ho rfl) hA (by rw[Zyn,ZvT];lia) ?_
   rw[G7]
   have e4:n+1+xs.length=n+(x::xs).length:=by rw[Zy4];lia
   have e5:t+1+xs.length=t+(x::xs).length:=by rw[Zy4];lia
   have e6:z+10+10*xs.length=z+10*(x::xs).length:=by rw[Zy4];lia
   rw[e4,e5,e6]
   exact hQ
theorem W3:∀(t:Nat)(xs:List (Int × Str)),(Yy t xs).length=xs.length
 |_,[]=>rfl
 |t,(_,_)::r=>by rw[Yy,Zy4,Zy4,W3]
theorem Vm:∀(t:Nat)(xs:List (Int × Str)),(Xf t xs).length=xs.length
 |_,[]=>rfl
 |t,(_,_)::r=>by rw[Xf,Zy4,Zy4,Vm]
theorem Cs      (hn:n₀<=h.objs.size)(hl:15<xs.length)(BM:xs.length<100000)(hA:Apart (Yy t xs))
 (hQ:Q h.objs.size q (h.push (Yb (Zs (Yy t xs)) xs.length)) (t+3*xs.length) (z+2+13*xs.length)):sw (denote Zy3) S n₀ (subDict (xs.map (pr q))) Q p h t z:=by
 unfold subDict
 rw[Zm,Mr,Zm,YI,if_neg (by rw[Zyl];lia),Zm,Hq,Zm]
 refine Hk q h.objs.size hn xs [] 0 p _ t _ _ (QT (o:=Yb #[] 0) rfl) hA (by simp;lia) ?_
 have e:(if xs.isEmpty then p else q)=q:=by
  cases xs with
  |nil=>simp at hl
  |cons=>rfl
 rw[e,XU,XU,Zxb]
 show Q _ _ (put (h.push (Yb #[] 0)) h.objs.size _) _ _
 rw[Bf]
 exact hQ
theorem Lo      (hn:n₀<=h.objs.size)(hl:xs.length<=15)(h0:xs≠[])(hA:Apart (Xf t xs))
 (hQ:Q h.objs.size q (h.push (Yb (Zs (Xf t xs)) xs.length)) (t+3*xs.length) (z+1+13*xs.length)):sw (denote Zy3) S n₀ (subDict (xs.map (pr q))) Q p h t z:=by
 unfold subDict
 rw[Zm,Mr,Zm,YI,if_pos (by rw[Zyl];lia),Zm]
 refine Hu q xs p _ t _ _ ?_
 have e:(if xs.isEmpty then p else q)=q:=by
  cases xs with
  |nil=>exact absurd rfl h0
  |cons=>rfl
 rw[e,YI,Zm]
 refine Ml h.objs.size hn (Xf t xs) [] 0 q _ _ _ _ (QT (o:=Yb #[] 0) rfl) hA (by rw[Vm];simp;lia) ?_
 rw[XU,XU,Vm,Zxb,show t+2*xs.length+xs.length=t+3*xs.length by lia,show z+1+3*xs.length+10*xs.length=z+1+13*xs.length by lia]
 show Q _ _ (put (h.push (Yb #[] 0)) h.objs.size _) _ _
 rw[Bf]
 exact hQ
end
section
variable {S:Zqq}{n₀:Nat}
theorem Gj    (XA:d≠a)(f:Nat->PUnit->Sem (ForInStep PUnit))
 (hf:∀(i:Nat) (x:XJ) (ys:List XJ) (n:Nat) (p:Pos) (h:Zyp) (t z:Nat) (Q:ForInStep PUnit->Pos->Zyp->Nat->Nat->Prop),zs[i]?=some x->h.get? d=some (Yb (Zs ys) n)->h.get? a=some (Yb (Zs zs) m)->
  Apart (ys++[x])->ys.length<100000->Q (.yield ()) p (put h d (Yb (Zs (ys++[x])) (n+1))) t (z+6)->sw (denote Zy3) S n₀ (f i ()) Q p h t z):
 ∀(xs:List XJ) (i:Nat) (ys:List XJ) (n:Nat) (p:Pos) (h:Zyp) (t z:Nat) (Q:PUnit->Pos->Zyp->Nat->Nat->Prop),zs.drop i=xs->h.get? d=some (Yb (Zs ys) n)->h.get? a=some (Yb (Zs zs) m)->
  Apart (ys++xs)->ys.length+xs.length<100000->Q () p (put h d (Yb (Zs (ys++xs)) (n+xs.length))) t (z+6*xs.length)->
  sw (denote Zy3) S n₀ (forIn (ZvF i xs.length) Zuz f) Q p h t z
 | [],i,ys,n,p,h,t,z,Q,_,ho,_,_,_,hQ=>by
   simp only[Zwx,List.range'_zero,Zvd]
   simp only[Zxh,Zwx,Zq8] at hQ
   rw[Du ho] at hQ
   exact hQ
 | x::xs,i,ys,n,p,h,t,z,Q,hz,ho,ha,hA,hl,hQ=>by
   have e2:ys++x::xs=(ys++[x])++xs:=by simp
   rw[e2] at hA hQ
   rw[Zy4] at hl
   rw[Zy4,ZvH,Zwz,Zm]
   have hx:zs[i]?=some x:=by
    have:=congrArg (·[0]?) hz
    simpa [List.getElem?_drop] using this
   refine hf i x ys n p h t _ _ hx ho ha hA.left (by lia) ?_
   have Rm:zs.drop (i+1)=xs:=by
    have:=congrArg (Zq7 1) hz
    simpa [Zug] using this
   refine Gj XA f hf xs (i+1) (ys++[x]) (n+1) p _ t (z+6) Q Rm (JT ho rfl) ((RC XA).trans ha) hA (by rw[Zyn,ZvT];lia) ?_
   rw[G7,show n+1+xs.length=n+(x::xs).length by rw[Zy4];lia,show z+6+6*xs.length=z+6*(x::xs).length by rw[Zy4];lia]
   exact hQ
theorem Oi        (hd:n₀<=d)(hs:(a==sysModules)=false)(XA:d≠a)
 (ho:h.get? d=some (Yb (Zs ys) n)) (ha:h.get? a=some (Yb (Zs xs) m)) (hy:ys≠[]) (hA:Apart (ys++xs)) (hl:ys.length+xs.length<100000)
 (hQ:Q () p (put h d (Yb (Zs (ys++xs)) (n+xs.length))) t (z+5+6*xs.length)):sw (denote Zy3) S n₀ (mergeMapping d (.ref a) false) Q p h t z:=by
 have sp:∀(Q':Option Zyd->Pos->Zyp->Nat->Nat->Prop) (z:Nat),Q' (some (.builtin "dict.__iter__")) p h t (z+1)->sw (denote Zy3) S n₀ (specialOf (.ref a) "__iter__") Q' p h t z:=by
  intro Q' z q'
  unfold specialOf
  rw[Zm]
  show sw (denote Zy3) S n₀ (loadPart a (some headPart)>>=λo=>pure o.cls) _ p h t _
  rw[Zm]
  refine WQ ha ?_
  show sw (denote Zy3) S n₀ (typeLookup (.type "dict") "__iter__") _ p h t _
  rw[F.slot_dict_iter.lookup]
  exact q'
 unfold mergeMapping
 rw[Zm]
 unfold isInstance
 rw[Zm]
 show sw (denote Zy3) S n₀ (loadPart a (some headPart)>>=λo=>pure o.cls) _ p h t _
 rw[Zm]
 refine WQ ha ?_
 rw[XU]
 show sw (denote Zy3) S n₀ (isSubtype (.type "dict") (.type "dict")) _ p h t _
 rw[isSubtype_dict_dict,XU]
 rw[if_pos rfl,Zm]
 refine sp _ _ ?_
 have e1:(some (ZvD "dict.__iter__")==some (ZvD "dict.__iter__"))=true:=by simp
 rw[e1,pure_bind]
 dsimp only
 rw[if_neg (by rw[hs];exact ZyG),Zm]
 refine Qb ho ?_
 have e2:(Zs ys).isEmpty=false:=by
  cases ys with
  |nil=>exact absurd rfl hy
  |cons=>rfl
 rw[e2,if_neg ZyG,Zm]
 refine Qb ha ?_
 rw[Zm]
 refine Ms ha ?_
 rw[Zm,UG,List.range_eq_range']
 refine Gj (zs:=xs) (m:=m) XA _ ?_ xs 0 ys n p h t _ _ rfl ho ha hA hl hQ
 intro i x yg n' p' h' t' z' Q' hx Ip yo Ig Qz oG
 rw[Zm]
 refine Qb yo ?_
 have e3:(Zs xs)[i]?=some (ent x):=by
  unfold Zs;simp [hx]
 rw[e3]
 dsimp only
 rw[Zm,YI,if_neg ZyG]
 refine kH (.inl hd) Ip (by rw[UG];lia) Ig.fresh ?_
 rw[US Ip,Zm]
 refine Ms (es:=Zs xs) (n:=m) ((RC XA).trans yo) ?_
 rw[if_neg (by simp)]
 have e:(ZwJ (λNi=>Ni.push ⟨hashInt x.1,Zvj x.1 x.2.1,x.2.2⟩) (Yb (Zs yg) n'))=Yb (Zs (yg++[x])) (n'+1):=by
  show Yb ((Zs yg).push (ent x)) (n'+1)=_
  rw[JQ]
 show Q' _ _ (put h' d (ZwJ (λNi=>Ni.push ⟨hashInt x.1,Zvj x.1 x.2.1,x.2.2⟩) (Yb (Zs yg) n'))) _ _
 rw[e]
 exact oG
end
abbrev Item:=Option (Sem Zyd) × Sem Zyd
noncomputable def Jq(p:Sem Zyd × Sem Zyd):Item:=(some p.1,p.2)
theorem KH(f:Item->Option Zya × List (Sem Zyd × Sem Zyd)->Sem (ForInStep (Option Zya × List (Sem Zyd × Sem Zyd))))(fl:List (Sem Zyd × Sem Zyd)->Option Zya->Sem (Option Zya))
 (h1:∀p main run,run.length+1<17->f (Jq p) (main,run)=pure (.yield (main,run++[p])))
 (h2:∀p main run,run.length+1=17->f (Jq p) (main,run)=(fl (run++[p]) main>>=λm=>pure (.yield (m,[])))) (rest:List Item):
 ∀(c:List (Sem Zyd × Sem Zyd)) (main:Option Zya) (run:List (Sem Zyd × Sem Zyd)),c≠[]->run.length+c.length=17->
  forIn (c.map Jq++rest) (main,run) f=(fl (run++c) main>>=λm=>forIn rest (m,[]) f)
 |[],_,_,h,_=>absurd rfl h
 | [p],main,run,_,hl=>by
   rw[ZyZ,Zwo,ZwE,Zw1,Zwz,h2 p main run (by simpa using hl)]
   rw[bind_assoc]
   simp only[pure_bind]
 | p::p'::c,main,run,_,hl=>by
   rw[ZyZ,ZwE,Zwz,h1 p main run (by simp at hl;lia),pure_bind]
   have:=KH f fl h1 h2 rest (p'::c) main (run++[p]) (by simp) (by simp at hl ⊢;lia)
   simpa using this
theorem A3(f:Item->Option Zya × List (Sem Zyd × Sem Zyd)->Sem (ForInStep (Option Zya × List (Sem Zyd × Sem Zyd))))
 (h1:∀p main run,run.length+1<17->f (Jq p) (main,run)=pure (.yield (main,run++[p]))):
 ∀(c:List (Sem Zyd × Sem Zyd)) (main:Option Zya) (run:List (Sem Zyd × Sem Zyd)),run.length+c.length<17->
  forIn (c.map Jq) (main,run) f=pure (main,run++c)
 |[],main,run,_=>by simp
 | p::c,main,run,hl=>by
   rw[ZyZ,Zwz,h1 p main run (by simp at hl;lia),pure_bind]
   have:=A3 f h1 c main (run++[p]) (by simp at hl ⊢;lia)
   simpa using this
noncomputable def Y8:Nat->List (List (Int × Str))->List XJ
 |_,[]=>[]
 |t,c::cs=>Yy t c++Y8 (t+3*c.length) cs
noncomputable def Vj(d:Zya):Zyp->Nat->List XJ->Nat->List (List (Int × Str))->Zyp
 |h,_,_,_,[]=>h
 |h,t,ys,n,c::cs=>Vj d (put (h.push (Yb (Zs (Yy t c)) c.length)) d (Yb (Zs (ys++Yy t c)) (n+c.length))) (t+3*c.length) (ys++Yy t c) (n+c.length) cs
section
variable {S:Zqq}{n₀:Nat}
theorem Apart.right  (hA:Apart (xs++ys)):Apart ys:=by
 unfold Apart at hA ⊢
 rw[Zy9,Zvg] at hA
 exact hA.2.1
noncomputable def Cf(d:Zya)(run:List (Sem Zyd × Sem Zyd)):Sem (Option Zya):=do
 let sub <-holding [.ref d] (subDict run)
 (holding [.ref d,.ref sub] (mergeMapping d (.ref sub) false)).onRaise λx=>do let _ <-holding [.ref d,x] (runValue (.builtin "proto.let_go" {}))
 return some d
theorem Mt      {c:List (Int × Str)}  (hd:n₀<=d)(hs:sysModules<n₀)(ho:h.get? d=some (Yb (Zs ys) n))(hy:ys≠[])
 (hA:Apart (ys++ts)) (hl:ys.length+ts.length<100000) (Ta:∀Q':Zya->Pos->Zyp->Nat->Nat->Prop,Q' h.objs.size q (h.push (Yb (Zs ts) ts.length)) (t+3*ts.length) (z+e₀)->sw (denote Zy3) S n₀ (subDict (c.map (pr q))) Q' p h t z)
 (hQ:Q (some d) q (put (h.push (Yb (Zs ts) ts.length)) d (Yb (Zs (ys++ts)) (n+ts.length))) (t+3*ts.length) (z+e₀+5+6*ts.length)):sw (denote Zy3) S n₀ (Cf d (c.map (pr q))) Q p h t z:=by
 unfold Cf
 have Xz:d<h.objs.size:=My ho
 rw[Zm,YI]
 refine Ta _ ?_
 rw[Zm]
 refine Sr _ _ _ _ _ _ _ ?_
 rw[YI]
 refine Oi hd (beq_eq_false_iff_ne.mpr (λe=>?_)) (Zwd Xz) (Dq ho) (QT rfl) hy hA hl ?_
 ·have h1:n₀<=h.objs.size:=Zyi hd (Zx5 Xz)
  rw[e] at h1
  exact absurd hs (Nat.not_lt.mpr h1)
 ·exact hQ
theorem Au   (hd:n₀<=d)(hs:sysModules<n₀)(f:Item->Option Zya × List (Sem Zyd × Sem Zyd)->Sem (ForInStep (Option Zya × List (Sem Zyd × Sem Zyd))))(fl:List (Sem Zyd × Sem Zyd)->Option Zya->Sem (Option Zya))
 (h1:∀p main run,run.length+1<17->f (Jq p) (main,run)=pure (.yield (main,run++[p])))
 (h2:∀p main run,run.length+1=17->f (Jq p) (main,run)=(fl (run++[p]) main>>=λm=>pure (.yield (m,[]))))
 (h3:∀run,run≠[]->fl run (some d)=Cf d run) (last:List (Sem Zyd × Sem Zyd)) (xZ:last.length<17):
 ∀(cs:List (List (Int × Str))) (p:Pos) (h:Zyp) (t z n:Nat) (ys:List XJ) (Q:Option Zya × List (Sem Zyd × Sem Zyd)->Pos->Zyp->Nat->Nat->Prop),(∀c∈cs,c.length=17)->h.get? d=some (Yb (Zs ys) n)->ys≠[]->
  Apart (ys++Y8 t cs)->ys.length+(Y8 t cs).length<100000->
  Q (some d,last) (if cs.isEmpty then p else q) (Vj d h t ys n cs) (t+51*cs.length) (z+330*cs.length)->
  sw (denote Zy3) S n₀ (forIn (((cs.flatten.map (pr q))++last).map Jq) (some d,[]) f) Q p h t z
 | [],p,h,t,z,n,ys,Q,_,ho,hy,hA,hl,hQ=>by
   simp only[Zvr,Zwo,Zw1]
   rw[A3 f h1 last (some d) [] (by simpa using xZ),XU]
   exact hQ
 | c::cs,p,h,t,z,n,ys,Q,hc,ho,hy,hA,hl,hQ=>by
   have CS:c.length=17:=hc c (by simp)
   have XA:c.map (pr q)≠[]:=by
    intro e
    have:=congrArg Zxe e
    simp [CS] at this
   simp only[ZxP,Zy9]
   rw[ZyC,KH f fl h1 h2 _ (c.map (pr q)) (some d) [] XA (by simp [CS]),Zw1,h3 _ XA,Zm]
   have e1:ys++Y8 t (c::cs)=(ys++Yy t c)++Y8 (t+3*c.length) cs:=(ZyC ..).symm
   have Ig:Apart (ys++Yy t c):=by rw[e1] at hA;exact hA.left
   have Qz:ys.length+(Yy t c).length+(Y8 (t+3*c.length) cs).length<100000:=by
    have e3:(Y8 t (c::cs)).length=(Yy t c).length+(Y8 (t+3*c.length) cs).length:=Zyn
    lia
   have Xz:d<h.objs.size:=My ho
   refine Mt (ts:=Yy t c) (e₀:=2+13*c.length) hd hs ho hy Ig (by lia) (λQ' hq=>?_) ?_
   ·refine Cs (Zyi hd (Zx5 Xz)) (by lia) (by lia) Ig.right ?_
    rw[W3] at hq
    rw[show z+2+13*c.length=z+(2+13*c.length) by lia]
    exact hq
   ·rw[W3]
    have:=Au hd hs f fl h1 h2 h3 last xZ cs q (put (h.push (Yb (Zs (Yy t c)) c.length)) d (Yb (Zs (ys++Yy t c)) (n+c.length))) (t+3*c.length) (z+(2+13*c.length)+5+6*c.length) (n+c.length) (ys++Yy t c) Q
     (λc' Fn=>hc c' (by simp [Fn])) (JT (Dq ho) rfl) (by simp [hy]) (by rw[e1] at hA;exact hA) (by rw[Zyn];lia) (by
      have e3:(if cs.isEmpty then q else q)=q:=ite_self _
      rw[e3,show t+3*c.length+51*cs.length=t+51*(c::cs).length by rw[Zy4,CS];lia,show z+(2+13*c.length)+5+6*c.length+330*cs.length=z+330*(c::cs).length by rw[Zy4,CS];lia]
      exact hQ)
    simpa only [Zy9] using this
theorem Gg(d:Zya):∀(cs:List (List (Int × Str)))(h:Zyp)(t:Nat)(ys:List XJ)(n:Nat),(∀c∈cs,c.length=17)->h.get? d=some (Yb (Zs ys) n)->
 (Vj d h t ys n cs).get? d=some (Yb (Zs (ys++Y8 t cs)) (n+17*cs.length))
 |[],h,t,ys,n,_,ho=>(Zxh ys).symm ▸ ho
 | c::cs,h,t,ys,n,hc,ho=>by
   have CS:c.length=17:=hc c (by simp)
   have:=Gg d cs (put (h.push (Yb (Zs (Yy t c)) c.length)) d (Yb (Zs (ys++Yy t c)) (n+c.length))) (t+3*c.length) (ys++Yy t c) (n+c.length) (λc' h'=>hc c' (by simp [h'])) (JT (Dq ho) rfl)
   refine ZxO this ?_
   show _=some (Yb (Zs (_++(Yy t c++Y8 (t+3*c.length) cs))) _)
   rw[ZyC,CS,show n+17+17*cs.length=n+17*(c::cs).length by rw[Zy4];lia]
noncomputable def VQ(run:List (Sem Zyd × Sem Zyd))(main:Option Zya):Sem (Option Zya):=
 if run.isEmpty=true then pure main else match main with
  | none=>do
    let x <-subDict run
    pure (some x)
  | some d=>do
    let sub <-holding [.ref d] (subDict run)
    (holding [.ref d,.ref sub] (mergeMapping d (.ref sub) false)).onRaise λx=>do
     let _ <-holding [.ref d,x] (runValue (.builtin "proto.let_go" {}))
     pure ()
    pure (some d)
theorem Gk{run:List (Sem Zyd × Sem Zyd)}  (h:run≠[]):VQ run (some d)=Cf d run:=by
 unfold VQ
 rw[if_neg (by simpa using h)]
 rfl
theorem Se{q p:Pos}       (hn:n₀<=h.objs.size)(hs:sysModules<n₀)
 (hc:c.length=17) (R0:∀c∈cs,c.length=17) (hl:l.length<=15) (aF:l≠[])
 (hA:Apart (Yy t c++Y8 (t+51) cs++Xf (t+51+51*cs.length) l)) (hlen:17+(Y8 (t+51) cs).length+l.length<100000)
 (hQ:Q (.ref h.objs.size) q
  (put ((Vj h.objs.size (h.push (Yb (Zs (Yy t c)) 17)) (t+51) (Yy t c) 17 cs).push (Yb (Zs (Xf (t+51+51*cs.length) l)) l.length)) h.objs.size
   (Yb (Zs (Yy t c++Y8 (t+51) cs++Xf (t+51+51*cs.length) l)) (17+17*cs.length+l.length))) (t+51+51*cs.length+3*l.length) (z+223+330*cs.length+6+19*l.length)):
 sw (denote Zy3) S n₀ (dictDisplay (((c.map (pr q)++cs.flatten.map (pr q))++l.map (pr q)).map Jq)) Q p h t z:=by
 unfold dictDisplay
 dsimp only
 rw[Zm]
 refine w6 (Q:=λ(a:Option Zya × List (Sem Zyd × Sem Zyd)) p' h' t' z'=>sw (denote Zy3) S n₀ (VQ a.2 a.1>>=λx=>match x with |some d=>pure (ZjK d) |none=>newDict) Q p' h' t' z') (λa p' h' t' z' x=>x) _ _ _ _ _ ?_
 generalize hf:(λ(x:Item) (__s:Option Zya × List (Sem Zyd × Sem Zyd))=>_)=f
 have h1:∀p main run,run.length+1<17->f (Jq p) (main,run)=pure (.yield (main,run++[p])):=by
  intro p main run hl
  rw[<-hf]
  dsimp only [Jq]
  rw[if_neg (by simp;lia)]
 have h2:∀p main run,run.length+1=17->f (Jq p) (main,run)=(VQ (run++[p]) main>>=λm=>pure (.yield (m,[]))):=by
  intro p main run hl
  rw[<-hf]
  dsimp only [Jq]
  rw[if_pos (by simp;lia)]
  rfl
 have XA:c.map (pr q)≠[]:=by
  intro e
  have:=congrArg Zxe e
  simp [hc] at this
 have tZ:l.map (pr q)≠[]:=by simpa using aF
 rw[ZyC,Zy9,KH f VQ h1 h2 _ (c.map (pr q)) none [] XA (by simp [hc]),Zw1,Zm]
 have ef:VQ (c.map (pr q)) none=(do let x <-subDict (c.map (pr q));pure (some x)):=by
  unfold VQ
  rw[if_neg (by simpa using XA)]
 rw[ef,Zm]
 refine Cs hn (by lia) (by lia) hA.left.left ?_
 rw[XU,hc]
 refine Au (q:=q) (d:=h.objs.size) hn hs f VQ h1 h2 (λrun hr=>Gk hr) (l.map (pr q)) (by simp;lia) cs q (h.push (Yb (Zs (Yy t c)) 17)) (t+3*17) (z+2+13*17) 17 (Yy t c) _ R0
  (QT rfl) (by intro e;have:=congrArg Zxe e;rw[W3,hc] at this;simp at this) hA.left (by rw[W3,hc];have hz:=hlen;rw[show t+51=t+3*17 from rfl] at hz;lia) ?_
 have e3:(if cs.isEmpty then q else q)=q:=ite_self _
 rw[e3]
 dsimp only
 rw[Gk tZ,Zm]
 have hg:=Gg h.objs.size cs (h.push (Yb (Zs (Yy t c)) 17)) (t+51) (Yy t c) 17 R0 (QT rfl)
 have Xz:=My hg
 refine Mt (ts:=Xf (t+51+51*cs.length) l) (e₀:=1+13*l.length) hn hs hg (by intro e;have:=congrArg Zxe e;rw[Zyn,W3,hc] at this;simp at this) hA (by rw[Zyn,W3,Vm,hc];exact hlen) (λQ' hq=>?_) ?_
 ·refine Lo (Zyi hn (Zx5 Xz)) hl aF hA.right ?_
  rw[Vm] at hq
  rw[show ∀z:Nat,z+1+13*l.length=z+(1+13*l.length) by intro z;lia]
  exact hq
 ·rw[Vm]
  rw[show z+2+13*17+330*cs.length+(1+13*l.length)+5+6*l.length=z+223+330*cs.length+6+19*l.length by lia]
  exact hQ
end
end Mine.Internal.Hd
end
section
open PySem PySem.W PyProof.Rows
namespace Mine.Internal.Hd
noncomputable def kh(c:Const):Option Int:=match c with |.int i=>some i |_=>none
noncomputable def kl(c:Const):Option Str:=match c with |.str i=>some i |_=>none
theorem uI   (h:kh c=some i):c=.int i:=by cases c<;>first |exact nS h |exact congrArg _ (Zyb h)
theorem uK   (h:kl c=some i):c=.str i:=by cases c<;>first |exact nS h |exact congrArg _ (Zyb h)
def datum(x:Option Zyc × Zyc):Option (Int × Str):=x.1.bind λk=>PN k (λc _ _=>(kh c).bind λi=>PN x.2 (λc _ _=>(kl c).map λt=>(i,t)) none) none
def dataOf(ks:List (Option Zyc))(vs:List Zyc):List (Int × Str):=(ks.zip vs).filterMap datum
def Kk(ks:List (Option Zyc))(vs:List Zyc):Bool:=(ks.zip vs).all λx=>(datum x).isSome
theorem zR   {R:Prop}(h:(datum (k,v)).isSome=true)(q:∀i n p x n' p',k=some (.Constant (.int i) n p)->v=.Constant (.str x) n' p'->R):R:=
 (ZuI.mp h).elim λr h=>Zj h λk ek h=>HR h (λc n p e1 h=>Zj h λi e2 h=>HR h (λc' n' p' e3 h=>YQ h λx e4 _=>q i n p x n' p' (uI e2 ▸ e1 ▸ ek) (uK e4 ▸ e3)) nS) nS
theorem MX(env:Env)(q:Pos):∀(ks:List (Option Zyc))(vs:List Zyc),Kk ks vs=true->
 (evalEachOpt ks env).zip ((evalEach vs env).map λv=>do let x <-v;standAt q;pure x)=((dataOf ks vs).map (pr q)).map Jq
 |[],vs,_=>by cases vs<;>rfl
 |k::ks,[],_=>by cases k<;>rfl
 | k::ks,v::vs,h=>by
   have h0:=Yk (h:((datum (k,v)).isSome&&Kk ks vs)=true)
   refine zR h0.1 λk' p n x' p' n' ek ev=>?_
   subst ek ev
   exact congrArg (_::·) (MX env q ks vs h0.2)
noncomputable def Wq:Nat->List (Int × Str)->List (List (Int × Str))
 |0,_=>[]
 |n+1,l=>l.take 17::Wq n (l.drop 17)
theorem Qh:∀(n:Nat)(l:List (Int × Str)),(Wq n l).flatten++l.drop (17*n)=l
 |0,l=>rfl
 | n+1,l=>by
   have:=Qh n (l.drop 17)
   rw[Zug] at this
   show (l.take 17++(Wq n (l.drop 17)).flatten)++_=_
   rw[ZyC,show 17*(n+1)=17+17*n by lia,this,Zwl]
theorem C9:∀(n:Nat)(l:List (Int × Str)),17*n<=l.length->∀c∈Wq n l,c.length=17
 |0,l,_,c,hc=>nomatch hc
 | n+1,l,h,c,hc=>by
   rcases ZyT.mp hc with rfl |hc
   ·rw[ZxZ];lia
   ·exact C9 n (l.drop 17) (by rw[Zwa];lia) c hc
theorem KR:∀(n:Nat)(l:List (Int × Str)),(Wq n l).length=n
 |0,_=>rfl
 |n+1,l=>congrArg (·+1) (KR n _)
noncomputable def grows:Int->List (Int × Str)->Bool
 |_,[]=>true
 |b,(k,_)::r=>decide (b<k)&&decide (k<1000000000)&&grows k r
theorem Il  (h0:0<=k)(h1:k<1000000000):hashInt k=k:=by
 have e:rawHash k=k:=by
  have hn:k.natAbs<1000000000:=by lia
  have hm:k.natAbs%(2 ^ 61-1)=k.natAbs:=Zjc (Nat.lt_trans hn (by decide))
  have he:((k.natAbs:Int)%((2 ^ 61-1:Nat):Int))=k:=by
   rw[<-Int.natCast_emod,hm];lia
  have hk:(k==-1)=false:=beq_eq_false_iff_ne.mpr (by lia)
  show (if ((if k<0 then -((k.natAbs:Int)%((2 ^ 61-1:Nat):Int)) else ((k.natAbs:Int)%((2 ^ 61-1:Nat):Int)))==-1)=true then (-2:Int) else (if k<0 then -((k.natAbs:Int)%((2 ^ 61-1:Nat):Int)) else ((k.natAbs:Int)%((2 ^ 61-1:Nat):Int))))=k
  have Xz:¬k<0:=by lia
  rw[he,if_neg Xz,hk,if_neg ZyG]
 show (if (rawHash k==-1)=true then (-2:Int) else rawHash k)=k
 rw[e,beq_eq_false_iff_ne.mpr (by lia:k≠-1)];rfl
theorem H9    (h:grows b ((k,s)::r)=true):(b<k/\k<1000000000)/\grows k r=true:=⟨⟨of_decide_eq_true (Yk (Yk h).1).1,of_decide_eq_true (Yk (Yk h).1).2⟩,(Yk h).2⟩
theorem Dc:∀(l:List (Int × Str))(b:Int),grows b l=true->∀x∈l,b<x.1/\x.1<1000000000
 |[],_,_,x,hx=>by cases hx
 | (k,s)::r,b,h,x,hx=>by
   have h:=H9 h
   rcases ZyT.mp hx with rfl |hx
   ·exact h.1
   ·have:=Dc r k h.2 x hx
    exact⟨by lia,this.2⟩
theorem F8:∀(l:List (Int × Str))(b:Int),0<=b+1->grows b l=true->(l.map λx=>hashInt x.1).Nodup
 |[],_,_,_=>Zqj
 | (k,s)::r,b,hb,h=>by
   have Xz:=Dc ((k,s)::r) b h
   have h:=H9 h
   rw[ZyZ,ZuS]
   refine⟨λhm=>?_,F8 r k (by lia) h.2⟩
   obtain⟨y,hy,e⟩:=Zye.mp hm
   have h1:=Dc r k h.2 y hy
   rw[Il (by lia) h1.2,Il (by lia) h.1.2] at e
   lia
theorem KC:∀(t:Nat)(l:List (Int × Str)),(Yy t l).map (·.1)=l.map (·.1)
 |_,[]=>rfl
 |t,(k,x)::r=>congrArg (k::·) (KC _ r)
theorem F1:∀(t:Nat)(l:List (Int × Str)),(Xf t l).map (·.1)=l.map (·.1)
 |_,[]=>rfl
 |t,(k,x)::r=>congrArg (k::·) (F1 _ r)
theorem Ia:∀(t:Nat)(cs:List (List (Int × Str))),(Y8 t cs).map (·.1)=cs.flatten.map (·.1)
 |_,[]=>rfl
 |t,c::cs=>Zy9.trans ((congr (congrArg _ (KC _ c)) (Ia _ cs)).trans Zy9.symm)
theorem Gq:∀(t:Nat)(cs:List (List (Int × Str))),(Y8 t cs).length=cs.flatten.length
 |_,[]=>rfl
 |t,c::cs=>Zyn.trans ((congr (congrArg _ (W3 _ c)) (Gq _ cs)).trans Zyn.symm)
noncomputable def VW(h:Zyp)(os:List Obj):Zyp:=os.foldl Heap.push h
noncomputable def subs:Nat->List (List (Int × Str))->List Obj
 |_,[]=>[]
 |t,c::cs=>Yb (Zs (Yy t c)) c.length::subs (t+3*c.length) cs
theorem MG(d:Zya)(o:Obj):∀(cs:List (List (Int × Str)))(h:Zyp)(t:Nat)(ys:List XJ)(n:Nat),d<h.objs.size->put (Vj d h t ys n cs) d o=VW (put h d o) (subs t cs)
 |[],h,t,ys,n,_=>rfl
 | c::cs,h,t,ys,n,hd=>by
   rw[show Vj d h t ys n (c::cs)=Vj d _ _ _ _ cs from rfl,MG d o cs _ _ _ _ (by rw[Dv];show d<(h.objs.push _).size;rw[Zv5];exact Zu3 hd),G7,Mp hd]
   rfl
theorem Ih(d:Zya):∀(cs:List (List (Int × Str)))(h:Zyp)(t:Nat)(ys:List XJ)(n:Nat),d<h.objs.size->d<(Vj d h t ys n cs).objs.size
 |[],h,t,ys,n,hd=>hd
 | c::cs,h,t,ys,n,hd=>by
   exact Ih d cs _ _ _ _ (by rw[Dv];show d<(h.objs.push _).size;rw[Zv5];exact Zu3 hd)
noncomputable def YR:BT->Nat->List Obj->BT
 |t,_,[]=>t
 |t,n,o::r=>YR (t.ins n o) (n+1) r
noncomputable def AP:BT->Nat->List Obj->Bool
 |_,_,[]=>true
 |t,n,o::r=>((t.ins n o).get n).isSome&&AP (t.ins n o) (n+1) r
theorem Mo(life:Life):∀(os:List Obj)(t:BT)(n:Nat),AP t n os=true->VW (absHeap t n life) os=absHeap (YR t n os) (n+os.length) life
 |[],t,n,_=>rfl
 | o::r,t,n,h=>by
   have h:=Yk h
   show VW ((absHeap t n life).push o) r=absHeap (YR (t.ins n o) (n+1) r) (n+(r.length+1)) life
   rw[<-absHeap_ins h.1,Mo life r _ _ h.2,show n+1+r.length=n+(r.length+1) by lia]
end Mine.Internal.Hd
namespace Mine.Internal.Hd
section
variable {P:Zuj}{w:Zyh}{n₀:Nat}{ann:Option Zyd}{env:Env}
def W5(t m:Nat)(data:List (Int × Str)):List Obj:=
 Yb (Zs (Yy t (data.take 17)++Y8 (t+51) (Wq m (data.drop 17))++Xf (t+51+51*m) ((data.drop 17).drop (17*m)))) data.length ::
  subs (t+51) (Wq m (data.drop 17))++[Yb (Zs (Xf (t+51+51*m) ((data.drop 17).drop (17*m)))) ((data.drop 17).drop (17*m)).length]
theorem wY       (hn:n₀<=h.objs.size)(hs:sysModules<n₀)
 (hd:Kk ks vs=true) (hlen:(dataOf ks vs).length=17+17*m+r) (hr:0<r) (Nt:r<=15) (hm:m<1000) (hg:grows (-1) (dataOf ks vs)=true)
 (hQ:Q (.ref h.objs.size) pd (VW h (W5 t m (dataOf ks vs))) (t+51+51*m+3*r) (z+1+223+330*m+6+19*r)):
 sw (denote Zy3) ⟨P,w.params⟩ n₀ (eval (.Dict ks vs pd) env) Q p h t z:=by
 generalize tJ:dataOf ks vs=data at *
 rw[arm_eval_Dict,MX env pd ks vs hd,tJ,Zm,Qc]
 have oH:(data.take 17).length=17:=by rw[ZxZ];lia
 have hl:((data.drop 17).drop (17*m)).length=r:=by rw[Zwa,Zwa];lia
 have gK:(((data.take 17).map (pr pd)++(Wq m (data.drop 17)).flatten.map (pr pd))++((data.drop 17).drop (17*m)).map (pr pd))=data.map (pr pd):=by
  rw[ZyC,<-Zy9,Qh,<-Zy9,Zwl]
 have ck:Apart (Yy t (data.take 17)++Y8 (t+51) (Wq m (data.drop 17))++Xf (t+51+51*m) ((data.drop 17).drop (17*m))):=by
  have:∀l:List XJ,l.map (λx=>hashInt x.1)=(l.map (·.1)).map hashInt:=by intro l;rw[ZyM];rfl
  have hk:(Yy t (data.take 17)++Y8 (t+51) (Wq m (data.drop 17))++Xf (t+51+51*m) ((data.drop 17).drop (17*m))).map (·.1)=data.map (·.1):=by
   rw[Zy9,Zy9,KC,Ia,F1,ZyC,<-Zy9,Qh,<-Zy9,Zwl]
  show (Zqm (λx:XJ=>hashInt x.1) _).Nodup
  rw[this,hk,ZyM]
  exact F8 data (-1) (by lia) hg
 rw[<-gK]
 refine Se (q:=pd) (c:=data.take 17) (cs:=Wq m (data.drop 17)) (l:=(data.drop 17).drop (17*m)) hn hs oH (C9 m _ (by rw[Zwa];lia)) (by lia) (by
  intro e
  exact absurd (hl.symm.trans (congrArg Zxe e)) (Nat.ne_of_gt hr)) (by rw[KR];exact ck) (by
   rw[Gq]
   have:=congrArg Zxe (Qh m (data.drop 17))
   rw[Zyn,Zwa] at this
   lia) ?_
 rw[KR,hl]
 have Yh:h.objs.size<(h.push (Yb (Zs (Yy t (data.take 17))) 17)).objs.size:=by
  show _<(h.objs.push _).size
  rw[Zv5];exact ZvM _
 rw[Mp (Ih _ _ _ _ _ _ Yh),MG _ _ _ _ _ _ _ Yh,Bf]
 have e1:VW h (W5 t m data)=(VW (h.push (Yb (Zs (Yy t (data.take 17)++Y8 (t+51) (Wq m (data.drop 17))++Xf (t+51+51*m) ((data.drop 17).drop (17*m)))) (17+17*m+r))) (subs (t+51) (Wq m (data.drop 17)))).push (Yb (Zs (Xf (t+51+51*m) ((data.drop 17).drop (17*m)))) r):=by
  unfold W5 VW
  rw[hl,hlen,ZwE,Zw0,ZqR]
  rfl
 rw[<-e1]
 exact hQ
theorem Oh          {drawn:Drawn}{os:ZyI}{st:ZyF}
 (Y6:st=.Assign tg (.Dict ks vs pd) p2) (pH:swapsWithSole tg (.Dict ks vs pd) p2.line env=pure false) (hn:n₀<=s) (hs:sysModules<n₀)
 (hd:Kk ks vs=true) (hlen:(dataOf ks vs).length=17+17*m+r) (hr:0<r) (Nt:r<=15) (hm:m<1000) (hg:grows (-1) (dataOf ks vs)=true) (Wx:AP T s (W5 t m (dataOf ks vs))=true)
 (tail:segRunT Zy3 P w n₀ ann 1 N ⟨YR T s (W5 t m (dataOf ks vs)),s+(W5 t m (dataOf ks vs)).length,life,gens,drawn,t+51+51*m+3*r,os⟩
  ⟨((ZxV tg (.Dict ks vs pd) env>>=λx=>assignStores env (.ref s) x ((assignEach tg env).map (·.2))).wrap (λf=>match f with |.next=>doneF .next |f=>doneF f) deadEnd id id),c,pd,[fr]⟩=some (fl,S2,c',p')):
 segRun Zy3 P w n₀ ann 1 (231+330*m+19*r+N) (SharedT.abs ⟨T,s,life,gens,drawn,t,os⟩) (piecesOf [st] env c p [fr])=some (fl,S2.abs,c',p'):=by
 have Yh:(absHeap T s life).objs.size=s:=absHeap_size T s life
 let tl:Zyd->Sem Flow:=λv=>ZxV tg (.Dict ks vs pd) env>>=λx=>assignStores env v x ((assignEach tg env).map (·.2))
 have e0:exec st env=((standAt p2>>=λ_=>eval (.Dict ks vs pd) env)>>=tl):=by
  rw[Y6,arm_exec_Assign,pH,bind_assoc]
  refine congrArg (λf=>standAt p2>>=f) (funext λ_=>?_)
  rw[pure_bind,if_neg ZyG]
 have e1:(execs [st] env).wrap doneF deadEnd id id=(standAt p2>>=λ_=>eval (.Dict ks vs pd) env).wrap (λv=>(tl v).wrap (λf=>match f with |.next=>doneF .next |f=>doneF f) deadEnd id id) deadEnd id id:=by
  rw[execs_cons_wrap,e0,Sem.bind_eq_wrap',Sem.wrap_wrap]
  rfl
 have h1:sw (denote Zy3) ⟨P,w.params⟩ n₀ (standAt p2>>=λ_=>eval (.Dict ks vs pd) env) (λa q h' t' z'=>a=.ref s/\q=pd/\h'=VW (absHeap T s life) (W5 t m (dataOf ks vs))/\t'=t+51+51*m+3*r/\z'=231+330*m+19*r)
  p (absHeap T s life) t 0:=by
  rw[Zm,Qc]
  refine wY (by rw[Yh];exact hn) hs hd hlen hr Nt hm hg ⟨by rw[Yh],rfl,rfl,rfl,by lia⟩
 obtain⟨n,a,q,h',t',⟨rfl,rfl,rfl,rfl,hz⟩,f⟩:=kL (ann:=ann) (c:=c) (fr:=fr) (K:=λv=>(tl v).wrap (λf=>match f with |.next=>doneF .next |f=>doneF f) deadEnd id id) (H:=deadEnd) (gd:=id) (lv:=id) gens drawn os _ _ _ _ _ _ h1
 rw[Zxb] at hz
 subst hz
 show segRun Zy3 P w n₀ ann 1 _ ⟨absHeap T s life,gens,drawn,t,os⟩ ⟨(execs [st] env).wrap doneF deadEnd id id,c,p,[fr]⟩=_
 rw[e1]
 refine f N _ ?_
 rw[Mo life _ _ _ Wx]
 exact segRun_of tail
end
end Mine.Internal.Hd
end
section
open PySem PySem.W PyProof.Rows
namespace Mine.Internal.Uh
open Mine.Internal.Hd
abbrev prog:Zuj:=Zud
noncomputable def S(x:String):Str:=ZxS x
def en(P:Zy1)(x:String)(t:Nat)(v:Zyd):Zvl:=⟨PyData.keyHash P (S x),.str (S x) t,v⟩
def sv(x:String)(t:Nat):Zyd:=.str (S x) t
def eb(P:Zy1)(x:String)(t:Nat):Zvl:=en P x t (.builtin x)
def et(P:Zy1)(x:String)(t:Nat):Zvl:=en P x t (.type x)
noncomputable def ob(c:Zyd)(d:Data):Obj:=⟨c,none,d,#[]⟩
def tu(l:Array Zyd)(n:Nat):Obj:=ob (.type "tuple") (.seq l n)
def fi(l:Array Zyd):Obj:=ob .none (.fields l)
noncomputable def L9:List ZyF->Nat->ZyF
 |[],_=>.Pass default
 |s::_,0=>s
 |_::r,n+1=>L9 r n
def fd(i:Nat):ZyF:=L9 prog.main.body i
noncomputable def Nz{α:Type}(s:ZyF)(d:α)(k:Zq9->List ZyF->Zy6->α):α:=@ZwT (λ_=>α) s (λ_ a b _ _ _ sc _ _ _=>k a b sc) (λ_ _ _ _ _ _ _ _ _ _=>d) (λ_ _ _ _ _ _ _ _ _ _ _=>d) (λ_ _=>d) (λ_ _=>d) (λ_ _ _=>d) (λ_ _ _ _ _ _ _=>d) (λ_ _ _ _=>d) (λ_ _ _ _ _=>d) (λ_ _ _ _ _=>d) (λ_ _ _ _ _=>d) (λ_ _ _ _=>d) (λ_ _ _ _=>d) (λ_ _ _=>d) (λ_ _ _=>d) (λ_ _ _=>d) (λ_ _ _=>d) (λ_ _ _ _ _=>d) (λ_ _ _ _ _=>d) (λ_ _ _=>d) (λ_ _=>d) (λ_ _ _ _=>d) (λ_ _=>d) (λ_ _=>d) (λ_ _=>d) (λ_=>d) (λ_=>d) (λ_=>d)
def fc(i j:Nat):ZyF:=@ZwT (λ_=>ZyF) (fd i) (λ_ _ _ _ _ _ _ _ _ _=>(fd i)) (λ_ _ _ _ _ _ _ _ _ _=>(fd i)) (λ_ _ _ b _ _ _ _ _ _ _=>L9 b j) (λ_ _=>(fd i)) (λ_ _=>(fd i)) (λ_ _ _=>(fd i)) (λ_ _ _ _ _ _ _=>(fd i)) (λ_ _ _ _=>(fd i)) (λ_ _ _ _ _=>(fd i)) (λ_ _ _ _ _=>(fd i)) (λ_ _ _ _ _=>(fd i)) (λ_ _ _ _=>(fd i)) (λ_ _ _ _=>(fd i)) (λ_ _ _=>(fd i)) (λ_ _ _=>(fd i)) (λ_ _ _=>(fd i)) (λ_ _ _=>(fd i)) (λ_ _ _ _ _=>(fd i)) (λ_ _ _ _ _=>(fd i)) (λ_ _ _=>(fd i)) (λ_ _=>(fd i)) (λ_ _ _ _=>(fd i)) (λ_ _=>(fd i)) (λ_ _=>(fd i)) (λ_ _=>(fd i)) (λ_=>(fd i)) (λ_=>(fd i)) (λ_=>(fd i))
def fA(s:ZyF):Zq9:=Nz s default λa _ _=>a
def fB(s:ZyF):List ZyF:=Nz s [] λ_ b _=>b
def fS(s:ZyF):Zy6:=Nz s default λ_ _ s=>s
def mE(P:Zy1)(x:String)(t:Nat):List Zvl:=[en P "__name__" 165 (sv x t),en P "__doc__" 166 .none,en P "__package__" 167 .none,en P "__loader__" 168 (.builtin "__main__.__loader__#opaque"),en P "__spec__" 169 .none,en P "__annotations__" 170 (.ref 6),en P "__builtins__" 171 (.ref 4),en P "__file__" 173 (sv "/claim/cut.py" 172),en P "__cached__" 174 .none,en P "_sre" 275 (.ref 12),en P "_wall" 288 (.ref 38),en P "b1_set" 350 (.ref 46),en P "in_table_b1" 357 (.ref 56),en P "b3_exceptions" 2308 (.ref 57),en P "map_table_b3" 2316 (.ref 102),en P "ELLIPSIS_MARKER" 2320 (sv "..." 2319),en P "_ellipsis_match" 2332 (.ref 109),en P "_name_disallowed_re" 2360 (.ref 114),en P "_value_disallowed_re" 2394 (.ref 119),en P "Headers" 2551 (.ref 242),en P "_law_letter" 2561 (.ref 253),en P "_law_label" 2580 (.ref 260),en P "_law_over" 2589 (.ref 267),en P "_law_hunt" 2609 (.ref 274),en P "_law_ways" 2615 (.ref 279),en P "law" 2621 (.ref 284)]
def mO(P:Zy1)(x:String)(t n k:Nat):Obj:=ob (.type "dict") (.dict ((mE P x t).take n).toArray k)
def TE(P:Zy1):BT:=YR .nil 0 [ob (.type "dict") (.dict #[en P "__name__" 1 (sv "builtins" 160),en P "__doc__" 2 (.builtin "builtins.__doc__:str#opaque"),en P "__package__" 3 (.builtin "builtins.__package__:str#opaque"),en P "__loader__" 4 (.builtin "builtins.__loader__:shared#opaque"),en P "__spec__" 5 (.builtin "builtins.__spec__#opaque"),eb P "__build_class__" 6,eb P "__import__" 7,eb P "abs" 8,eb P "all" 9,eb P "any" 10,eb P "ascii" 11,eb P "bin" 12,eb P "breakpoint" 13,eb P "callable" 14,eb P "chr" 15,eb P "compile" 16,eb P "delattr" 17,eb P "dir" 18,eb P "divmod" 19,eb P "eval" 20,eb P "exec" 21,eb P "format" 22,eb P "getattr" 23,eb P "globals" 24,eb P "hasattr" 25,eb P "hash" 26,eb P "hex" 27,eb P "id" 28,eb P "input" 29,eb P "isinstance" 30,eb P "issubclass" 31,eb P "iter" 32,eb P "aiter" 33,eb P "len" 34,eb P "locals" 35,eb P "max" 36,eb P "min" 37,eb P "next" 38,eb P "anext" 39,eb P "oct" 40,eb P "ord" 41,eb P "pow" 42,eb P "print" 43,eb P "repr" 44,eb P "round" 45,eb P "setattr" 46,eb P "sorted" 47,eb P "sum" 48,eb P "vars" 49,en P "None" 50 .none,en P "Ellipsis" 51 .ellipsis,en P "NotImplemented" 52 .notImplemented,en P "False" 53 (.bool false),en P "True" 54 (.bool true),et P "bool" 55,et P "memoryview" 56,et P "bytearray" 57,et P "bytes" 58,et P "classmethod" 59,et P "complex" 60,et P "dict" 61,et P "enumerate" 62,et P "filter" 63,et P "float" 64,et P "frozenset" 65,et P "property" 66,et P "int" 67,et P "list" 68,et P "map" 69,et P "object" 70,et P "range" 71,et P "reversed" 72,et P "set" 73,et P "slice" 74,et P "staticmethod" 75,et P "str" 76,et P "super" 77,et P "tuple" 78,et P "type" 79,et P "zip" 80,en P "__debug__" 81 (.bool true),et P "BaseException" 82,et P "BaseExceptionGroup" 83,et P "Exception" 84,et P "GeneratorExit" 85,et P "KeyboardInterrupt" 86,et P "SystemExit" 87,et P "ArithmeticError" 88,et P "AssertionError" 89,et P "AttributeError" 90,et P "BufferError" 91,et P "EOFError" 92,et P "ImportError" 93,et P "LookupError" 94,et P "MemoryError" 95,et P "NameError" 96,et P "OSError" 97,et P "ReferenceError" 98,et P "RuntimeError" 99,et P "StopAsyncIteration" 100,et P "StopIteration" 101,et P "SyntaxError" 102,et P "SystemError" 103,et P "TypeError" 104,et P "ValueError" 105,et P "Warning" 106,et P "FloatingPointError" 107,et P "OverflowError" 108,et P "ZeroDivisionError" 109,et P "BytesWarning" 110,et P "DeprecationWarning" 111,et P "EncodingWarning" 112,et P "FutureWarning" 113,et P "ImportWarning" 114,et P "PendingDeprecationWarning" 115,et P "ResourceWarning" 116,et P "RuntimeWarning" 117,et P "SyntaxWarning" 118,et P "UnicodeWarning" 119,et P "UserWarning" 120,et P "BlockingIOError" 121,et P "ChildProcessError" 122,et P "ConnectionError" 123,et P "FileExistsError" 124,et P "FileNotFoundError" 125,et P "InterruptedError" 126,et P "IsADirectoryError" 127,et P "NotADirectoryError" 128,et P "PermissionError" 129,et P "ProcessLookupError" 130,et P "TimeoutError" 131,et P "IndentationError" 132,et P "_IncompleteInputError" 133,et P "IndexError" 134,et P "KeyError" 135,et P "ModuleNotFoundError" 136,et P "NotImplementedError" 137,et P "PythonFinalizationError" 138,et P "RecursionError" 139,et P "UnboundLocalError" 140,et P "UnicodeError" 141,et P "BrokenPipeError" 142,et P "ConnectionAbortedError" 143,et P "ConnectionRefusedError" 144,et P "ConnectionResetError" 145,et P "TabError" 146,et P "UnicodeDecodeError" 147,et P "UnicodeEncodeError" 148,et P "UnicodeTranslateError" 149,et P "ExceptionGroup" 150,en P "EnvironmentError" 151 (.type "OSError"),en P "IOError" 152 (.type "OSError"),eb P "open" 153,en P "quit" 154 (.builtin "builtins.quit#opaque"),en P "exit" 155 (.builtin "builtins.exit#opaque"),en P "copyright" 156 (.builtin "builtins.copyright#opaque"),en P "credits" 157 (.builtin "builtins.credits#opaque"),en P "license" 158 (.builtin "builtins.license#opaque"),en P "help" 159 (.builtin "builtins.help#opaque")] 159),ob (.type "dict") (.dict #[en P "builtins" 162 (.ref 4),en P "__main__" 163 (.ref 5),en P "_sre" 244 (.ref 12)] 3),ob .none (.dict #[en P "im\x70ort.loaded._sre" 183 (.bool true),en P "class._frozen_importlib.BuiltinImporter" 185 (.ref 14),en P "watched.im\x70ort" 206 (.ref 18),en P "class._frozen_importlib.ModuleSpec" 216 (.ref 22),en P "sys.modules.booked-epoch" 245 (.int 3 0),en P "im\x70ort.later-laid._sre" 270 (.bool true),en P "watched.library" 272 (.ref 27),en P "watched.library-objects" 0 (sv "\x0c" 0),en P "watched.library-deep._sre" 273 (sv "\x04\x00\x00\x0b\x04\x00\x00\x0b\x04\x00\x00\x03\x04\x00\x00\x0b\x08\x04dict\x02" 0)] 9),mO P "__main__" 164 10 10,⟨(.type "module"),(some 0),.plain,#[]⟩,⟨(.type "module"),(some 3),.plain,#[]⟩,ob (.type "dict") (.dict #[] 0),tu #[] 0,fi #[],ob (.type "code") (.fields #[sv "<module>" 176,sv "<module>" 177,sv "/claim/cut.py" 178,.int 1 0,.int 0 0,.int 0 0,.int 0 0,.int 0 0,.ref 7,.bool false,.int 175 0,.ref 8,.none,.none,.none,.none,.int 179 0,.int 1 0,sv "/claim/cut.py" 180]),⟨(.type "frame"),none,.plain,#[(some (.ref 9)),(some (.ref 3)),(some (.ref 3)),none,(some (sv "__main__" 164)),none,(some (.ref 0))]⟩,ob (.type "dict") (.dict #[en P "__name__" 247 (sv "_sre" 246),en P "__doc__" 248 .none,en P "__package__" 250 (sv "" 249),en P "__loader__" 251 (.ref 14),en P "__spec__" 252 (.ref 26),en P "compile" 253 (.builtin "_sre.compile"),en P "template" 254 (.builtin "_sre.template"),en P "getcodesize" 255 (.builtin "_sre.getcodesize"),en P "ascii_iscased" 256 (.builtin "_sre.ascii_iscased"),en P "unicode_iscased" 257 (.builtin "_sre.unicode_iscased"),en P "ascii_tolower" 258 (.builtin "_sre.ascii_tolower"),en P "unicode_tolower" 259 (.builtin "_sre.unicode_tolower"),en P "MAGIC" 261 (.int 20230612 260),en P "CODESIZE" 263 (.int 4 262),en P "MAXREPEAT" 265 (.int 4294967295 264),en P "MAXGROUPS" 267 (.int 1073741823 266),en P "copyright" 269 (sv " SRE 2.2.2 Copyright (c) 1997-2002 by Secret Labs AB " 268)] 17),⟨(.type "module"),(some 11),.plain,#[]⟩,ob (.type "dict") (.dict #[en P "__module__" 189 (sv "_frozen_importlib" 186),en P "__firstlineno__" 190 (.int 971 187),en P "__doc__" 191 (.builtin "_frozen_importlib.BuiltinImporter.__doc__:str#opaque"),en P "_ORIGIN" 192 (sv "built-in" 188),en P "find_spec" 193 (.builtin "_frozen_importlib.BuiltinImporter.find_spec#opaque"),en P "create_module" 194 (.builtin "_frozen_importlib.BuiltinImporter.create_module#opaque"),en P "exec_module" 195 (.builtin "_frozen_importlib.BuiltinImporter.exec_module#opaque"),en P "get_code" 196 (.builtin "_frozen_importlib.BuiltinImporter.get_code#opaque"),en P "get_source" 197 (.builtin "_frozen_importlib.BuiltinImporter.get_source#opaque"),en P "is_package" 198 (.builtin "_frozen_importlib.BuiltinImporter.is_package#opaque"),en P "load_module" 199 (.builtin "_frozen_importlib.BuiltinImporter.load_module#opaque"),en P "__static_attributes__" 200 (.ref 15),en P "__dict__" 202 (.ref 16),en P "__weakref__" 204 (.ref 17)] 14),ob (.type "type") (.cls ⟨(S "BuiltinImporter"),[.type "object"],[.ref 14,.type "object"],13,(S "BuiltinImporter"),true,[],[],false,none,false⟩),tu #[] 0,ob (.type "getset_descriptor") (.fields #[sv "__dict__" 201,.ref 14,.builtin "function.__dict__",.builtin "function.__dict__#set"]),ob (.type "getset_descriptor") (.fields #[sv "__weakref__" 203,.ref 14,.builtin "ExceptionGroup.__weakref__",.none]),ob .none (.seq #[.int 13 0,sv "\x06\xbd\x0a__module__\x06\xba\x11_frozen_importlib\x06\xbe\x0f__firstlineno__\x04\xbb\x00\u03cb\x06\xbf\x07__doc__\x094_frozen_importlib.BuiltinImporter.__doc__:str#opaque\x06\xc0\x07_ORIGIN\x06\xbc\x08built-in\x06\xc1\x09find_spec\x092_frozen_importlib.BuiltinImporter.find_spec#opaque\x06\xc2\x0dcreate_module\x096_frozen_importlib.BuiltinImporter.create_module#opaque\x06\xc3\x0bexec_module\x094_frozen_importlib.BuiltinImporter.exec_module#opaque\x06\xc4\x08get_code\x091_frozen_importlib.BuiltinImporter.get_code#opaque\x06\xc5\x0aget_source\x093_frozen_importlib.BuiltinImporter.get_source#opaque\x06\xc6\x0ais_package\x093_frozen_importlib.BuiltinImporter.is_package#opaque\x06\xc7\x0bload_module\x094_frozen_importlib.BuiltinImporter.load_module#opaque\x06\xc8\x15__static_attributes__\x04\x00\x00\x0f\x06\xca\x08__dict__\x04\x00\x00\x10\x06\xcc\x0b__weakref__\x04\x00\x00\x11" 0,.bool true,.bool true,sv "" 205,.int 21 0,sv "\x06\xe3\x0a__module__\x06\xd9\x11_frozen_importlib\x06\xe4\x0f__firstlineno__\x04\xda\x00\u0232\x06\xe5\x07__doc__\x09/_frozen_importlib.ModuleSpec.__doc__:str#opaque\x06\xe6\x08__init__\x09,_frozen_importlib.ModuleSpec.__init__#opaque\x06\xe7\x08__repr__\x09,_frozen_importlib.ModuleSpec.__repr__#opaque\x06\xe8\x06__eq__\x09*_frozen_importlib.ModuleSpec.__eq__#opaque\x06\xe9\x06cached\x09*_frozen_importlib.ModuleSpec.cached#opaque\x06\xea\x06parent\x09*_frozen_importlib.ModuleSpec.parent#opaque\x06\xeb\x0chas_location\x090_frozen_importlib.ModuleSpec.has_location#opaque\x06\xec\x15__static_attributes__\x04\x00\x00\x17\x06\xee\x08__dict__\x04\x00\x00\x18\x06\xf0\x0b__weakref__\x04\x00\x00\x19\x06\xf1\x08__hash__\x00" 0,.bool true,.bool true,sv "" 242] 1),ob (.type "list") (.seq #[] 0),ob (.type "dict") (.dict #[en P "name" 208 (sv "_sre" 207),en P "loader" 209 (.ref 14),en P "origin" 210 (sv "built-in" 184),en P "loader_state" 211 .none,en P "submodule_search_locations" 212 .none,en P "_uninitialized_submodules" 213 (.ref 19),en P "_set_fileattr" 214 (.bool false),en P "_cached" 215 .none,en P "_initializing" 243 (.bool false)] 9),ob (.type "dict") (.dict #[en P "__module__" 227 (sv "_frozen_importlib" 217),en P "__firstlineno__" 228 (.int 562 218),en P "__doc__" 229 (.builtin "_frozen_importlib.ModuleSpec.__doc__:str#opaque"),en P "__init__" 230 (.builtin "_frozen_importlib.ModuleSpec.__init__#opaque"),en P "__repr__" 231 (.builtin "_frozen_importlib.ModuleSpec.__repr__#opaque"),en P "__eq__" 232 (.builtin "_frozen_importlib.ModuleSpec.__eq__#opaque"),en P "cached" 233 (.builtin "_frozen_importlib.ModuleSpec.cached#opaque"),en P "parent" 234 (.builtin "_frozen_importlib.ModuleSpec.parent#opaque"),en P "has_location" 235 (.builtin "_frozen_importlib.ModuleSpec.has_location#opaque"),en P "__static_attributes__" 236 (.ref 23),en P "__dict__" 238 (.ref 24),en P "__weakref__" 240 (.ref 25),en P "__hash__" 241 .none] 13),ob (.type "type") (.cls ⟨(S "ModuleSpec"),[.type "object"],[.ref 22,.type "object"],21,(S "ModuleSpec"),true,[],[],false,none,false⟩),tu #[sv "_cached" 219,sv "_set_fileattr" 220,sv "_uninitialized_submodules" 221,sv "loader" 222,sv "loader_state" 223,sv "name" 224,sv "origin" 225,sv "submodule_search_locations" 226] 0,ob (.type "getset_descriptor") (.fields #[sv "__dict__" 237,.ref 22,.builtin "function.__dict__",.builtin "function.__dict__#set"]),ob (.type "getset_descriptor") (.fields #[sv "__weakref__" 239,.ref 22,.builtin "ExceptionGroup.__weakref__",.none]),⟨(.ref 22),(some 20),.plain,#[]⟩,ob .none (.seq #[.int 11 0,(.str (Str.mk #[6,247,8,95,95,110,97,109,101,95,95,6,246,4,95,115,114,101,6,248,7,95,95,100,111,99,95,95,0,6,250,11,95,95,112,97,99,107,97,103,101,95,95,6,249,0,6,251,10,95,95,108,111,97,100,101,114,95,95,4,0,0,14,6,252,8,95,95,115,112,101,99,95,95,4,0,0,26,6,253,7,99,111,109,112,105,108,101,9,12,95,115,114,101,46,99,111,109,112,105,108,101,6,254,8,116,101,109,112,108,97,116,101,9,13,95,115,114,101,46,116,101,109,112,108,97,116,101,6,255,11,103,101,116,99,111,100,101,115,105,122,101,9,16,95,115,114,101,46,103,101,116,99,111,100,101,115,105,122,101,6,256,13,97,115,99,105,105,95,105,115,99,97,115,101,100,9,18,95,115,114,101,46,97,115,99,105,105,95,105,115,99,97,115,101,100,6,257,15,117,110,105,99,111,100,101,95,105,115,99,97,115,101,100,9,20,95,115,114,101,46,117,110,105,99,111,100,101,95,105,115,99,97,115,101,100,6,258,13,97,115,99,105,105,95,116,111,108,111,119,101,114,9,18,95,115,114,101,46,97,115,99,105,105,95,116,111,108,111,119,101,114,6,259,15,117,110,105,99,111,100,101,95,116,111,108,111,119,101,114,9,20,95,115,114,101,46,117,110,105,99,111,100,101,95,116,111,108,111,119,101,114,6,261,5,77,65,71,73,67,4,260,0,20230612,6,263,8,67,79,68,69,83,73,90,69,4,262,0,4,6,265,9,77,65,88,82,69,80,69,65,84,4,264,0,4294967295,6,267,9,77,65,88,71,82,79,85,80,83,4,266,0,1073741823,6,269,9,99,111,112,121,114,105,103,104,116,6,268,53,32,83,82,69,32,50,46,50,46,50,32,67,111,112,121,114,105,103,104,116,32,40,99,41,32,49,57,57,55,45,50,48,48,50,32,98,121,32,83,101,99,114,101,116,32,76,97,98,115,32,65,66,32]) 0),.bool true,.bool false,sv "_sre" 271] 0)]
def T0(P:Zy1):BT:=(((TE P)).set 11 λ_=>ob (.type "dict") (.dict #[en P "__name__" 247 (sv "_sre" 246),en P "__doc__" 248 .none,en P "__package__" 250 (sv "" 249),en P "__loader__" 251 (.builtin "off-the-table:_sre.__loader__:shared#opaque"),en P "__spec__" 252 (.builtin "off-the-table:_sre.__spec__:shared#opaque"),en P "compile" 253 (.builtin "_sre.compile"),en P "template" 254 (.builtin "off-the-table:_sre.template:shared#opaque"),en P "getcodesize" 255 (.builtin "off-the-table:_sre.getcodesize:shared#opaque"),en P "ascii_iscased" 256 (.builtin "off-the-table:_sre.ascii_iscased:shared#opaque"),en P "unicode_iscased" 257 (.builtin "off-the-table:_sre.unicode_iscased:shared#opaque"),en P "ascii_tolower" 258 (.builtin "off-the-table:_sre.ascii_tolower:shared#opaque"),en P "unicode_tolower" 259 (.builtin "off-the-table:_sre.unicode_tolower:shared#opaque"),en P "MAGIC" 261 (.int 20230612 260),en P "CODESIZE" 263 (.int 4 262),en P "MAXREPEAT" 265 (.int 4294967295 264),en P "MAXGROUPS" 267 (.int 1073741823 266),en P "copyright" 269 (sv " SRE 2.2.2 Copyright (c) 1997-2002 by Secret Labs AB " 268)] 17))
def TA(P:Zy1):BT:=YR (T0 P) 28 [tu #[] 0,fi #[],ob (.type "code") (.fields #[sv "<module>" 277,sv "<module>" 278,sv "/claim/cut.py" 279,.int 1 0,.int 0 0,.int 0 0,.int 0 0,.int 0 0,.ref 28,.bool false,.int 276 0,.ref 29,.none,.none,.none,.none,.int 280 0,.int 1 0,sv "/claim/cut.py" 281]),⟨(.type "frame"),none,.plain,#[(some (.ref 30)),(some (.ref 3)),(some (.ref 3)),none,(some (sv "__main__" 164)),none,(some (.ref 0))]⟩]
def TB(P:Zy1):BT:=(TA P)
noncomputable def ann:Option Zyd:=(some (.ref 6))
def bH(w:Zyh)(os:ZyI):ZxD:=⟨TE w.params,28,{},#[],{},276,os⟩
def qz(w:Zyh)(os:ZyI):ZxD:=⟨T0 w.params,28,{},#[],{},276,os⟩
def bT(w:Zyh)(os:ZyI):ZxD:=⟨TA w.params,32,{},#[],{},282,os⟩
def YW(w:Zyh)(os:ZyI):ZxD:=⟨TB w.params,32,{},#[],{},282,os⟩
noncomputable def env:Env:={ scope:=prog.main.scope,locals:=mainNs,globals:=mainNs,cells:=[],code:=(.ref 30),frame:=some 31 }
def cE:Code:=.body (behindTheImports prog) env
noncomputable def jP:Pos:=⟨0,0,0,0⟩
noncomputable def posB:Pos:=⟨0,0,0,0⟩
noncomputable def X8:Pos:=⟨0,0,0,0⟩
def dG(P:Zy1):Obj:=ob (.type "code") (.fields #[sv "_wall" 282,sv "_wall" 283,sv "/claim/cut.py" 284,.int 2 0,.int 1 0,.int 0 0,.int 0 0,.int 3 0,.ref 32,.bool true,.int 276 0,.ref 33,.none,.ref 34,.ref 35,.ref 36,.int 286 0,.int 2 0,sv "/claim/cut.py" 287])
def dI(P:Zy1):Obj:=ob (.type "function") (.func ⟨(S "_wall"),(S "_wall"),fA (fd 1),.stmts (fB (fd 1)),fS (fd 1),3,[],.none,.none,.none,sv "__main__" 164,none,.ref 37,.none,0⟩)
def T1(P:Zy1):BT:=YR (((((TB P)).set 3 λ_=>mO P "__main__" 164 11 11)).set 29 λ_=>fi #[.int 2 0,.int 0 0,.ref 37]) 32 [tu #[] 0,fi #[],tu #[sv "k" 285] 0,tu #[] 0,ob .none (.func ⟨(S "_wall"),(S "_wall"),fA (fd 1),.stmts (fB (fd 1)),fS (fd 1),0,[],.none,.none,.none,.none,none,.none,.none,0⟩),dG P,dI P]
def ay(w:Zyh)(os:ZyI):ZxD:=⟨T1 w.params,39,{},#[],{},289,os⟩
noncomputable def kj:Pos:=⟨2,0,4,12⟩
def T2(P:Zy1):BT:=(((T1 P)).set 3 λ_=>mO P "cpy313.stringprep" 289 11 11)
def DZ(w:Zyh)(os:ZyI):ZxD:=⟨T2 w.params,39,{},#[],{},291,os⟩
noncomputable def NX:Pos:=⟨5,0,5,8⟩
def TH(P:Zy1):Obj:=ob (.type "set") (.set #[(65024,(.int 65024 307)),(65025,(.int 65025 308)),(65026,(.int 65026 309)),(65027,(.int 65027 310)),(65028,(.int 65028 311)),(65029,(.int 65029 312)),(6150,(.int 6150 293)),(65030,(.int 65030 313)),(65031,(.int 65031 314)),(65032,(.int 65032 315)),(65033,(.int 65033 316)),(6155,(.int 6155 294)),(6156,(.int 6156 295)),(6157,(.int 6157 296)),(8203,(.int 8203 297)),(8204,(.int 8204 298)),(8205,(.int 8205 299)),(65034,(.int 65034 317)),(65035,(.int 65035 318)),(65036,(.int 65036 319)),(65037,(.int 65037 320)),(65038,(.int 65038 321)),(65039,(.int 65039 322)),(173,(.int 173 291)),(847,(.int 847 292)),(8288,(.int 8288 300)),(65279,(.int 65279 301))] 29 ⟨127,#[0,1,2,3,4,5,6,7,8,9,10,11,12,13,14,15,16,17,18,19,20,21,22,45,79,96,127],#[],0,!P.followText "set-order",2,true⟩)
def T3(P:Zy1):BT:=YR (((T2 P)).set 3 λ_=>mO P "cpy313.stringprep" 289 12 12) 39 [ob (.type "list") (.seq #[.int 173 291,.int 847 292,.int 6150 293,.int 6155 294,.int 6156 295,.int 6157 296,.int 8203 297,.int 8204 298,.int 8205 299,.int 8288 300,.int 65279 301] 0),ob (.type "range") (.fields #[.int 65024 302,.int 65040 303,.int 1 304]),ob (.type "list") (.seq #[.int 65024 307,.int 65025 308,.int 65026 309,.int 65027 310,.int 65028 311,.int 65029 312,.int 65030 313,.int 65031 314,.int 65032 315,.int 65033 316,.int 65034 317,.int 65035 318,.int 65036 319,.int 65037 320,.int 65038 321,.int 65039 322] 18),ob (.type "range_iterator") (.fields #[.int 65040 0,.int 0 0,.int 1 0]),tu #[] 0,ob (.type "StopIteration") (.fields #[.ref 43,.none,.none,.none,.bool false,.none]),ob (.type "list") (.seq #[.int 173 291,.int 847 292,.int 6150 293,.int 6155 294,.int 6156 295,.int 6157 296,.int 8203 297,.int 8204 298,.int 8205 299,.int 8288 300,.int 65279 301,.int 65024 307,.int 65025 308,.int 65026 309,.int 65027 310,.int 65028 311,.int 65029 312,.int 65030 313,.int 65031 314,.int 65032 315,.int 65033 316,.int 65034 317,.int 65035 318,.int 65036 319,.int 65037 320,.int 65038 321,.int 65039 322] 0),TH P,ob (.type "list_iterator") (.fields #[.none,.int 27 0]),tu #[] 0,ob (.type "StopIteration") (.fields #[.ref 48,.none,.none,.none,.bool false,.none])]
def uO(w:Zyh)(os:ZyI):ZxD:=⟨T3 w.params,50,{},#[],{},351,os⟩
noncomputable def P7:Pos:=⟨6,0,6,6⟩
def AE(P:Zy1):Obj:=ob (.type "code") (.fields #[sv "in_table_b1" 351,sv "in_table_b1" 352,sv "/claim/cut.py" 353,.int 7 0,.int 1 0,.int 0 0,.int 0 0,.int 3 0,.ref 50,.bool true,.int 276 0,.ref 51,.none,.ref 52,.ref 53,.ref 54,.int 355 0,.int 7 0,sv "/claim/cut.py" 356])
def DN(P:Zy1):Obj:=ob (.type "function") (.func ⟨(S "in_table_b1"),(S "in_table_b1"),fA (fd 4),.stmts (fB (fd 4)),fS (fd 4),3,[],.none,.none,.none,sv "cpy313.stringprep" 289,none,.ref 55,.none,0⟩)
def T4(P:Zy1):BT:=YR (((((T3 P)).set 3 λ_=>mO P "cpy313.stringprep" 289 13 13)).set 29 λ_=>fi #[.int 2 0,.int 0 0,.ref 37,.int 7 0,.int 0 0,.ref 55]) 50 [tu #[] 0,fi #[],tu #[sv "code" 354] 0,tu #[] 0,ob .none (.func ⟨(S "in_table_b1"),(S "in_table_b1"),fA (fd 4),.stmts (fB (fd 4)),fS (fd 4),0,[],.none,.none,.none,.none,none,.none,.none,0⟩),AE P,DN P]
def az(w:Zyh)(os:ZyI):ZxD:=⟨T4 w.params,57,{},#[],{},358,os⟩
noncomputable def kq:Pos:=⟨7,0,8,30⟩
def CO:ZyF:=L9 (behindTheImports prog) 4
noncomputable def Cz{α:Type}(s:ZyF)(d:α)(k:List Zyc->Zyc->Pos->α):α:=@ZwT (λ_=>α) s (λ_ _ _ _ _ _ _ _ _ _=>d) (λ_ _ _ _ _ _ _ _ _ _=>d) (λ_ _ _ _ _ _ _ _ _ _ _=>d) (λ_ _=>d) (λ_ _=>d) (λt e p=>k t e p) (λ_ _ _ _ _ _ _=>d) (λ_ _ _ _=>d) (λ_ _ _ _ _=>d) (λ_ _ _ _ _=>d) (λ_ _ _ _ _=>d) (λ_ _ _ _=>d) (λ_ _ _ _=>d) (λ_ _ _=>d) (λ_ _ _=>d) (λ_ _ _=>d) (λ_ _ _=>d) (λ_ _ _ _ _=>d) (λ_ _ _ _ _=>d) (λ_ _ _=>d) (λ_ _=>d) (λ_ _ _ _=>d) (λ_ _=>d) (λ_ _=>d) (λ_ _=>d) (λ_=>d) (λ_=>d) (λ_=>d)
def k7:List Zyc:=Cz CO [] λt _ _=>t
def IJ:List (Option Zyc):=Cz CO [] λ_ e _=>PA e (λk _ _=>k) []
def IQ:List Zyc:=Cz CO [] λ_ e _=>PA e (λ_ v _=>v) []
def k8:Pos:=Cz CO default λ_ e _=>PA e (λ_ _ p=>p) default
def k9:Pos:=Cz CO default λ_ _ p=>p
def s9:List Obj:=W5 358 37 (dataOf IJ IQ)
def Xi(i:Nat):Obj:=match s9[i]? with |some o=>o |none=>Yb #[] 0
def T5(P:Zy1):BT:=YR (((T4 P)).set 3 λ_=>mO P "cpy313.stringprep" 289 14 14) 57 [Xi 0,Xi 1,Xi 2,Xi 3,Xi 4,Xi 5,Xi 6,Xi 7,Xi 8,Xi 9,Xi 10,Xi 11,Xi 12,Xi 13,Xi 14,Xi 15,Xi 16,Xi 17,Xi 18,Xi 19,Xi 20,Xi 21,Xi 22,Xi 23,Xi 24,Xi 25,Xi 26,Xi 27,Xi 28,Xi 29,Xi 30,Xi 31,Xi 32,Xi 33,Xi 34,Xi 35,Xi 36,Xi 37,Xi 38]
def uP(w:Zyh)(os:ZyI):ZxD:=⟨T5 w.params,96,{},#[],{},2309,os⟩
noncomputable def ku:Pos:=⟨9,0,9,13⟩
def Cj(P:Zy1):Obj:=ob (.type "code") (.fields #[sv "map_table_b3" 2309,sv "map_table_b3" 2310,sv "/claim/cut.py" 2311,.int 10 0,.int 1 0,.int 0 0,.int 0 0,.int 3 0,.ref 96,.bool true,.int 276 0,.ref 97,.none,.ref 98,.ref 99,.ref 100,.int 2314 0,.int 10 0,sv "/claim/cut.py" 2315])
def IB(P:Zy1):Obj:=ob (.type "function") (.func ⟨(S "map_table_b3"),(S "map_table_b3"),fA (fd 6),.stmts (fB (fd 6)),fS (fd 6),3,[],.none,.none,.none,sv "cpy313.stringprep" 289,none,.ref 101,.none,0⟩)
def T6(P:Zy1):BT:=YR (((((T5 P)).set 3 λ_=>mO P "cpy313.stringprep" 289 15 15)).set 29 λ_=>fi #[.int 2 0,.int 0 0,.ref 37,.int 7 0,.int 0 0,.ref 55,.int 10 0,.int 0 0,.ref 101]) 96 [tu #[] 0,fi #[],tu #[sv "code" 2312,sv "r" 2313] 0,tu #[] 0,ob .none (.func ⟨(S "map_table_b3"),(S "map_table_b3"),fA (fd 6),.stmts (fB (fd 6)),fS (fd 6),0,[],.none,.none,.none,.none,none,.none,.none,0⟩),Cj P,IB P]
def bO(w:Zyh)(os:ZyI):ZxD:=⟨T6 w.params,103,{},#[],{},2317,os⟩
noncomputable def kx:Pos:=⟨10,0,14,23⟩
def T7(P:Zy1):BT:=(((T6 P)).set 3 λ_=>mO P "cpy313.doctest" 2317 15 15)
def bP(w:Zyh)(os:ZyI):ZxD:=⟨T7 w.params,103,{},#[],{},2319,os⟩
noncomputable def ky:Pos:=⟨15,0,15,8⟩
def T8(P:Zy1):BT:=(((T7 P)).set 3 λ_=>mO P "cpy313.doctest" 2317 16 16)
def bE(w:Zyh)(os:ZyI):ZxD:=⟨T8 w.params,103,{},#[],{},2321,os⟩
noncomputable def kz:Pos:=⟨16,0,16,15⟩
def Cq(P:Zy1):Obj:=ob (.type "code") (.fields #[sv "_ellipsis_match" 2321,sv "_ellipsis_match" 2322,sv "/claim/cut.py" 2323,.int 17 0,.int 2 0,.int 0 0,.int 0 0,.int 3 0,.ref 103,.bool true,.int 276 0,.ref 104,.none,.ref 105,.ref 106,.ref 107,.int 2330 0,.int 17 0,sv "/claim/cut.py" 2331])
def IC(P:Zy1):Obj:=ob (.type "function") (.func ⟨(S "_ellipsis_match"),(S "_ellipsis_match"),fA (fd 9),.stmts (fB (fd 9)),fS (fd 9),3,[],.none,.none,.none,sv "cpy313.doctest" 2317,none,.ref 108,.none,0⟩)
def T9(P:Zy1):BT:=YR (((((T8 P)).set 3 λ_=>mO P "cpy313.doctest" 2317 17 17)).set 29 λ_=>fi #[.int 2 0,.int 0 0,.ref 37,.int 7 0,.int 0 0,.ref 55,.int 10 0,.int 0 0,.ref 101,.int 17 0,.int 0 0,.ref 108]) 103 [tu #[] 0,fi #[],tu #[sv "want" 2324,sv "got" 2325,sv "ws" 2326,sv "startpos" 2327,sv "endpos" 2328,sv "w" 2329] 0,tu #[] 0,ob .none (.func ⟨(S "_ellipsis_match"),(S "_ellipsis_match"),fA (fd 9),.stmts (fB (fd 9)),fS (fd 9),0,[],.none,.none,.none,.none,none,.none,.none,0⟩),Cq P,IC P]
def bR(w:Zyh)(os:ZyI):ZxD:=⟨T9 w.params,110,{},#[],{},2333,os⟩
noncomputable def jO:Pos:=⟨17,0,44,15⟩
def nK(P:Zy1):BT:=(((T9 P)).set 3 λ_=>mO P "cpy313.wsgiref.headers" 2333 17 17)
def jF(w:Zyh)(os:ZyI):ZxD:=⟨nK w.params,110,{},#[],{},2335,os⟩
noncomputable def xc:Pos:=⟨45,0,45,8⟩
def GA(P:Zy1):Obj:=tu #[.int 14 0,.int 10 0,.int 4 0,.int 1 0,.int 1 0,.int 22 0,.int 0 0,.int 31 0,.int 16 0,.int 127 0,.int 0 0,.int 13 0,.int 7 0,.int 22 0,.int 0 0,.int 31 0,.int 16 0,.int 127 0,.int 0 0,.int 1 0] 0
def GB(P:Zy1):Obj:=ob (.type "re.Pattern") (.fields #[sv "[\\x00-\\x1F\\x7F]" 2336,.int 32 2359,.int 0 0,.none,.none,.ref 113,.int 0 0])
def nJ(P:Zy1):BT:=YR (((nK P)).set 3 λ_=>mO P "cpy313.wsgiref.headers" 2333 18 18) 110 [ob (.type "list") (.seq #[.int 14 2338,.int 10 2339,.int 4 2340,.int 1 2341,.int 1 2342,.int 22 2343,.int 0 2344,.int 31 2345,.int 16 2346,.int 127 2347,.int 0 2348,.int 13 2349,.int 7 2350,.int 22 2351,.int 0 2352,.int 31 2353,.int 16 2354,.int 127 2355,.int 0 2356,.int 1 2357] 0),ob (.type "dict") (.dict #[] 0),tu #[.none] 0,GA P,GB P]
def jG(w:Zyh)(os:ZyI):ZxD:=⟨nJ w.params,115,{},#[],{},2361,os⟩
noncomputable def xd:Pos:=⟨46,0,46,19⟩
def GC(P:Zy1):Obj:=tu #[.int 14 0,.int 14 0,.int 4 0,.int 1 0,.int 1 0,.int 9 0,.int 4294966783 0,.int 0 0,.int 0 0,.int 2147483648 0,.int 0 0,.int 0 0,.int 0 0,.int 0 0,.int 0 0,.int 13 0,.int 11 0,.int 9 0,.int 4294966783 0,.int 0 0,.int 0 0,.int 2147483648 0,.int 0 0,.int 0 0,.int 0 0,.int 0 0,.int 0 0,.int 1 0] 0
def GD(P:Zy1):Obj:=ob (.type "re.Pattern") (.fields #[sv "[\\x00-\\x08\\x0A-\\x1F\\x7F]" 2362,.int 32 2393,.int 0 0,.none,.none,.ref 118,.int 0 0])
def nQ(P:Zy1):BT:=YR (((nJ P)).set 3 λ_=>mO P "cpy313.wsgiref.headers" 2333 19 19) 115 [ob (.type "list") (.seq #[.int 14 2364,.int 14 2365,.int 4 2366,.int 1 2367,.int 1 2368,.int 9 2369,.int 4294966783 2370,.int 0 2371,.int 0 2372,.int 2147483648 2373,.int 0 2374,.int 0 2375,.int 0 2376,.int 0 2377,.int 0 2378,.int 13 2379,.int 11 2380,.int 9 2381,.int 4294966783 2382,.int 0 2383,.int 0 2384,.int 2147483648 2385,.int 0 2386,.int 0 2387,.int 0 2388,.int 0 2389,.int 0 2390,.int 1 2391] 0),ob (.type "dict") (.dict #[] 0),tu #[.none] 0,GC P,GD P]
def jI(w:Zyh)(os:ZyI):ZxD:=⟨nQ w.params,120,{},#[],{},2395,os⟩
noncomputable def xf:Pos:=⟨47,0,47,20⟩
def Ht(P:Zy1):Obj:=tu #[.none] 0
def GF(P:Zy1):Obj:=ob (.type "code") (.fields #[sv "__init__" 2407,sv "Headers.__init__" 2408,sv "/claim/cut.py" 2409,.int 50 0,.int 2 0,.int 0 0,.int 0 0,.int 3 0,.ref 128,.bool true,.int 276 0,.ref 129,.none,.ref 130,.ref 131,.ref 132,.int 2414 0,.int 50 0,sv "/claim/cut.py" 2415])
def Kq(P:Zy1):Obj:=ob (.type "function") (.func ⟨(S "__init__"),(S "Headers.__init__"),fA (fc 13 0),.stmts (fB (fc 13 0)),fS (fc 13 0),3,[],.ref 127,.none,.none,sv "cpy313.wsgiref.headers" 2333,none,.ref 133,.none,0⟩)
def GI(P:Zy1):Obj:=ob (.type "code") (.fields #[sv "_convert_string_type" 2417,sv "Headers._convert_string_type" 2418,sv "/claim/cut.py" 2419,.int 60 0,.int 2 0,.int 0 0,.int 1 0,.int 3 0,.ref 135,.bool true,.int 276 0,.ref 136,.none,.ref 137,.ref 138,.ref 139,.int 2424 0,.int 60 0,sv "/claim/cut.py" 2425])
def Ku(P:Zy1):Obj:=ob (.type "function") (.func ⟨(S "_convert_string_type"),(S "Headers._convert_string_type"),fA (fc 13 1),.stmts (fB (fc 13 1)),fS (fc 13 1),3,[],.none,.none,.none,sv "cpy313.wsgiref.headers" 2333,none,.ref 140,.none,0⟩)
def GK(P:Zy1):Obj:=ob (.type "code") (.fields #[sv "__len__" 2427,sv "Headers.__len__" 2428,sv "/claim/cut.py" 2429,.int 68 0,.int 1 0,.int 0 0,.int 0 0,.int 3 0,.ref 142,.bool true,.int 276 0,.ref 143,.none,.ref 144,.ref 145,.ref 146,.int 2431 0,.int 68 0,sv "/claim/cut.py" 2432])
def Kv(P:Zy1):Obj:=ob (.type "function") (.func ⟨(S "__len__"),(S "Headers.__len__"),fA (fc 13 2),.stmts (fB (fc 13 2)),fS (fc 13 2),3,[],.none,.none,.none,sv "cpy313.wsgiref.headers" 2333,none,.ref 147,.none,0⟩)
def vV(P:Zy1):Obj:=ob (.type "code") (.fields #[sv "__setitem__" 2434,sv "Headers.__setitem__" 2435,sv "/claim/cut.py" 2436,.int 71 0,.int 3 0,.int 0 0,.int 0 0,.int 3 0,.ref 149,.bool true,.int 276 0,.ref 150,.none,.ref 151,.ref 152,.ref 153,.int 2440 0,.int 71 0,sv "/claim/cut.py" 2441])
def vW(P:Zy1):Obj:=ob (.type "function") (.func ⟨(S "__setitem__"),(S "Headers.__setitem__"),fA (fc 13 3),.stmts (fB (fc 13 3)),fS (fc 13 3),3,[],.none,.none,.none,sv "cpy313.wsgiref.headers" 2333,none,.ref 154,.none,0⟩)
def vX(P:Zy1):Obj:=ob (.type "code") (.fields #[sv "__delitem__" 2443,sv "Headers.__delitem__" 2444,sv "/claim/cut.py" 2445,.int 75 0,.int 2 0,.int 0 0,.int 0 0,.int 3 0,.ref 156,.bool true,.int 276 0,.ref 157,.none,.none,.none,.ref 158,.int 2446 0,.int 75 0,sv "/claim/cut.py" 2447])
def vY(P:Zy1):Obj:=ob (.type "function") (.func ⟨(S "__delitem__"),(S "Headers.__delitem__"),fA (fc 13 4),.stmts (fB (fc 13 4)),fS (fc 13 4),3,[],.none,.none,.none,sv "cpy313.wsgiref.headers" 2333,none,.ref 159,.none,0⟩)
def vZ(P:Zy1):Obj:=ob (.type "code") (.fields #[sv "__getitem__" 2449,sv "Headers.__getitem__" 2450,sv "/claim/cut.py" 2451,.int 79 0,.int 2 0,.int 0 0,.int 0 0,.int 3 0,.ref 161,.bool true,.int 276 0,.ref 162,.none,.ref 163,.ref 164,.ref 165,.int 2454 0,.int 79 0,sv "/claim/cut.py" 2455])
def v9(P:Zy1):Obj:=ob (.type "function") (.func ⟨(S "__getitem__"),(S "Headers.__getitem__"),fA (fc 13 5),.stmts (fB (fc 13 5)),fS (fc 13 5),3,[],.none,.none,.none,sv "cpy313.wsgiref.headers" 2333,none,.ref 166,.none,0⟩)
def v8(P:Zy1):Obj:=ob (.type "code") (.fields #[sv "__contains__" 2457,sv "Headers.__contains__" 2458,sv "/claim/cut.py" 2459,.int 82 0,.int 2 0,.int 0 0,.int 0 0,.int 3 0,.ref 168,.bool true,.int 276 0,.ref 169,.none,.ref 170,.ref 171,.ref 172,.int 2462 0,.int 82 0,sv "/claim/cut.py" 2463])
def v7(P:Zy1):Obj:=ob (.type "function") (.func ⟨(S "__contains__"),(S "Headers.__contains__"),fA (fc 13 6),.stmts (fB (fc 13 6)),fS (fc 13 6),3,[],.none,.none,.none,sv "cpy313.wsgiref.headers" 2333,none,.ref 173,.none,0⟩)
def vo(P:Zy1):Obj:=ob (.type "code") (.fields #[sv "get_all" 2465,sv "Headers.get_all" 2466,sv "/claim/cut.py" 2467,.int 85 0,.int 2 0,.int 0 0,.int 0 0,.int 3 0,.ref 175,.bool true,.int 276 0,.ref 176,.none,.ref 177,.ref 178,.ref 179,.int 2470 0,.int 85 0,sv "/claim/cut.py" 2471])
def vp(P:Zy1):Obj:=ob (.type "function") (.func ⟨(S "get_all"),(S "Headers.get_all"),fA (fc 13 7),.stmts (fB (fc 13 7)),fS (fc 13 7),3,[],.none,.none,.none,sv "cpy313.wsgiref.headers" 2333,none,.ref 180,.none,0⟩)
def Hh(P:Zy1):Obj:=tu #[.none] 0
def GJ(P:Zy1):Obj:=ob (.type "code") (.fields #[sv "get" 2473,sv "Headers.get" 2474,sv "/claim/cut.py" 2475,.int 88 0,.int 3 0,.int 0 0,.int 0 0,.int 3 0,.ref 183,.bool true,.int 276 0,.ref 184,.none,.ref 185,.ref 186,.ref 187,.int 2481 0,.int 88 0,sv "/claim/cut.py" 2482])
def Kw(P:Zy1):Obj:=ob (.type "function") (.func ⟨(S "get"),(S "Headers.get"),fA (fc 13 8),.stmts (fB (fc 13 8)),fS (fc 13 8),3,[],.ref 182,.none,.none,sv "cpy313.wsgiref.headers" 2333,none,.ref 188,.none,0⟩)
def ve(P:Zy1):Obj:=ob (.type "code") (.fields #[sv "keys" 2484,sv "Headers.keys" 2485,sv "/claim/cut.py" 2486,.int 95 0,.int 1 0,.int 0 0,.int 0 0,.int 3 0,.ref 190,.bool true,.int 276 0,.ref 191,.none,.none,.none,.ref 192,.int 2487 0,.int 95 0,sv "/claim/cut.py" 2488])
def vr(P:Zy1):Obj:=ob (.type "function") (.func ⟨(S "keys"),(S "Headers.keys"),fA (fc 13 9),.stmts (fB (fc 13 9)),fS (fc 13 9),3,[],.none,.none,.none,sv "cpy313.wsgiref.headers" 2333,none,.ref 193,.none,0⟩)
def vt(P:Zy1):Obj:=ob (.type "code") (.fields #[sv "values" 2490,sv "Headers.values" 2491,sv "/claim/cut.py" 2492,.int 98 0,.int 1 0,.int 0 0,.int 0 0,.int 3 0,.ref 195,.bool true,.int 276 0,.ref 196,.none,.none,.none,.ref 197,.int 2493 0,.int 98 0,sv "/claim/cut.py" 2494])
def vh(P:Zy1):Obj:=ob (.type "function") (.func ⟨(S "values"),(S "Headers.values"),fA (fc 13 10),.stmts (fB (fc 13 10)),fS (fc 13 10),3,[],.none,.none,.none,sv "cpy313.wsgiref.headers" 2333,none,.ref 198,.none,0⟩)
def GQ(P:Zy1):Obj:=ob (.type "code") (.fields #[sv "items" 2496,sv "Headers.items" 2497,sv "/claim/cut.py" 2498,.int 101 0,.int 1 0,.int 0 0,.int 0 0,.int 3 0,.ref 200,.bool true,.int 276 0,.ref 201,.none,.ref 202,.ref 203,.ref 204,.int 2500 0,.int 101 0,sv "/claim/cut.py" 2501])
def Kx(P:Zy1):Obj:=ob (.type "function") (.func ⟨(S "items"),(S "Headers.items"),fA (fc 13 11),.stmts (fB (fc 13 11)),fS (fc 13 11),3,[],.none,.none,.none,sv "cpy313.wsgiref.headers" 2333,none,.ref 205,.none,0⟩)
def vm(P:Zy1):Obj:=ob (.type "code") (.fields #[sv "__repr__" 2503,sv "Headers.__repr__" 2504,sv "/claim/cut.py" 2505,.int 104 0,.int 1 0,.int 0 0,.int 0 0,.int 3 0,.ref 207,.bool true,.int 276 0,.ref 208,.none,.ref 209,.ref 210,.ref 211,.int 2507 0,.int 104 0,sv "/claim/cut.py" 2508])
def vn(P:Zy1):Obj:=ob (.type "function") (.func ⟨(S "__repr__"),(S "Headers.__repr__"),fA (fc 13 12),.stmts (fB (fc 13 12)),fS (fc 13 12),3,[],.none,.none,.none,sv "cpy313.wsgiref.headers" 2333,none,.ref 212,.none,0⟩)
def vd(P:Zy1):Obj:=ob (.type "code") (.fields #[sv "__str__" 2510,sv "Headers.__str__" 2511,sv "/claim/cut.py" 2512,.int 107 0,.int 1 0,.int 0 0,.int 0 0,.int 3 0,.ref 214,.bool true,.int 276 0,.ref 215,.none,.none,.none,.ref 216,.int 2513 0,.int 107 0,sv "/claim/cut.py" 2514])
def vf(P:Zy1):Obj:=ob (.type "function") (.func ⟨(S "__str__"),(S "Headers.__str__"),fA (fc 13 13),.stmts (fB (fc 13 13)),fS (fc 13 13),3,[],.none,.none,.none,sv "cpy313.wsgiref.headers" 2333,none,.ref 217,.none,0⟩)
def vg(P:Zy1):Obj:=ob (.type "code") (.fields #[sv "__bytes__" 2516,sv "Headers.__bytes__" 2517,sv "/claim/cut.py" 2518,.int 110 0,.int 1 0,.int 0 0,.int 0 0,.int 3 0,.ref 219,.bool true,.int 276 0,.ref 220,.none,.ref 221,.ref 222,.ref 223,.int 2520 0,.int 110 0,sv "/claim/cut.py" 2521])
def vk(P:Zy1):Obj:=ob (.type "function") (.func ⟨(S "__bytes__"),(S "Headers.__bytes__"),fA (fc 13 14),.stmts (fB (fc 13 14)),fS (fc 13 14),3,[],.none,.none,.none,sv "cpy313.wsgiref.headers" 2333,none,.ref 224,.none,0⟩)
def GU(P:Zy1):Obj:=ob (.type "code") (.fields #[sv "setdefault" 2523,sv "Headers.setdefault" 2524,sv "/claim/cut.py" 2525,.int 113 0,.int 3 0,.int 0 0,.int 0 0,.int 3 0,.ref 226,.bool true,.int 276 0,.ref 227,.none,.ref 228,.ref 229,.ref 230,.int 2530 0,.int 113 0,sv "/claim/cut.py" 2531])
def Ky(P:Zy1):Obj:=ob (.type "function") (.func ⟨(S "setdefault"),(S "Headers.setdefault"),fA (fc 13 15),.stmts (fB (fc 13 15)),fS (fc 13 15),3,[],.none,.none,.none,sv "cpy313.wsgiref.headers" 2333,none,.ref 231,.none,0⟩)
def vq(P:Zy1):Obj:=ob (.type "code") (.fields #[sv "add_header" 2533,sv "Headers.add_header" 2534,sv "/claim/cut.py" 2535,.int 121 0,.int 3 0,.int 0 0,.int 0 0,.int 11 0,.ref 233,.bool true,.int 276 0,.ref 234,.none,.ref 235,.ref 236,.ref 237,.int 2540 0,.int 121 0,sv "/claim/cut.py" 2541])
def vu(P:Zy1):Obj:=ob (.type "function") (.func ⟨(S "add_header"),(S "Headers.add_header"),fA (fc 13 16),.stmts (fB (fc 13 16)),fS (fc 13 16),3,[],.none,.none,.none,sv "cpy313.wsgiref.headers" 2333,none,.ref 238,.none,0⟩)
def Hl(P:Zy1):Obj:=⟨(.type "type"),none,.cls ⟨(S "Headers"),[.type "object"],[.ref 242,.type "object"],241,(S "Headers"),true,[],[],false,none,false⟩,#[none,none,(some (sv "Headers" 2395)),(some (sv "Headers" 2403)),(some (.builtin "object.__new__")),(some (.bool true))]⟩
def nU(P:Zy1):BT:=YR (((((nQ P)).set 3 λ_=>mO P "cpy313.wsgiref.headers" 2333 20 20)).set 29 λ_=>fi #[.int 2 0,.int 0 0,.ref 37,.int 7 0,.int 0 0,.ref 55,.int 10 0,.int 0 0,.ref 101,.int 17 0,.int 0 0,.ref 108,.int 48 0,.int 0 0,.ref 125]) 120 [tu #[] 0,ob (.type "builtin_function_or_method") (.fields #[.builtin "type.__prepare__",.type "type"]),ob (.type "dict") (.dict #[en P "__module__" 2402 (sv "cpy313.wsgiref.headers" 2333),en P "__qualname__" 2404 (sv "Headers" 2403),en P "__firstlineno__" 2406 (.int 48 2405),en P "__init__" 2416 (.ref 134),en P "_convert_string_type" 2426 (.ref 141),en P "__len__" 2433 (.ref 148),en P "__setitem__" 2442 (.ref 155),en P "__delitem__" 2448 (.ref 160),en P "__getitem__" 2456 (.ref 167),en P "__contains__" 2464 (.ref 174),en P "get_all" 2472 (.ref 181),en P "get" 2483 (.ref 189),en P "keys" 2489 (.ref 194),en P "values" 2495 (.ref 199),en P "items" 2502 (.ref 206),en P "__repr__" 2509 (.ref 213),en P "__str__" 2515 (.ref 218),en P "__bytes__" 2522 (.ref 225),en P "setdefault" 2532 (.ref 232),en P "add_header" 2542 (.ref 239),en P "__static_attributes__" 2544 (.ref 240)] 21),tu #[] 0,fi #[.int 50 0,.int 4 0,.ref 133,.int 60 0,.int 4 0,.ref 140,.int 68 0,.int 4 0,.ref 147,.int 71 0,.int 4 0,.ref 154,.int 75 0,.int 4 0,.ref 159,.int 79 0,.int 4 0,.ref 166,.int 82 0,.int 4 0,.ref 173,.int 85 0,.int 4 0,.ref 180,.int 88 0,.int 4 0,.ref 188,.int 95 0,.int 4 0,.ref 193,.int 98 0,.int 4 0,.ref 198,.int 101 0,.int 4 0,.ref 205,.int 104 0,.int 4 0,.ref 212,.int 107 0,.int 4 0,.ref 217,.int 110 0,.int 4 0,.ref 224,.int 113 0,.int 4 0,.ref 231,.int 121 0,.int 4 0,.ref 238],ob (.type "code") (.fields #[sv "Headers" 2397,sv "Headers" 2398,sv "/claim/cut.py" 2399,.int 48 0,.int 0 0,.int 0 0,.int 0 0,.int 0 0,.ref 123,.bool false,.int 276 0,.ref 124,.none,.none,.none,.none,.int 2400 0,.int 48 0,sv "/claim/cut.py" 2401]),⟨(.type "frame"),none,.plain,#[(some (.ref 125)),(some (.ref 3)),(some (.ref 122)),none,(some (sv "cpy313.wsgiref.headers" 2333)),none,(some (.ref 0))]⟩,Ht P,tu #[] 0,fi #[],tu #[sv "self" 2410,sv "headers" 2411,sv "k" 2412,sv "v" 2413] 0,tu #[] 0,ob .none (.func ⟨(S "__init__"),(S "Headers.__init__"),fA (fc 13 0),.stmts (fB (fc 13 0)),fS (fc 13 0),0,[],.none,.none,.none,.none,none,.none,.none,0⟩),GF P,Kq P,tu #[] 0,fi #[],tu #[sv "self" 2420,sv "value" 2421,sv "name" 2422,sv "regex" 2423] 0,tu #[] 0,ob .none (.func ⟨(S "_convert_string_type"),(S "Headers._convert_string_type"),fA (fc 13 1),.stmts (fB (fc 13 1)),fS (fc 13 1),0,[],.none,.none,.none,.none,none,.none,.none,0⟩),GI P,Ku P,tu #[] 0,fi #[],tu #[sv "self" 2430] 0,tu #[] 0,ob .none (.func ⟨(S "__len__"),(S "Headers.__len__"),fA (fc 13 2),.stmts (fB (fc 13 2)),fS (fc 13 2),0,[],.none,.none,.none,.none,none,.none,.none,0⟩),GK P,Kv P,tu #[] 0,fi #[],tu #[sv "self" 2437,sv "name" 2438,sv "val" 2439] 0,tu #[] 0,ob .none (.func ⟨(S "__setitem__"),(S "Headers.__setitem__"),fA (fc 13 3),.stmts (fB (fc 13 3)),fS (fc 13 3),0,[],.none,.none,.none,.none,none,.none,.none,0⟩),vV P,vW P,tu #[] 0,fi #[],ob .none (.func ⟨(S "__delitem__"),(S "Headers.__delitem__"),fA (fc 13 4),.stmts (fB (fc 13 4)),fS (fc 13 4),0,[],.none,.none,.none,.none,none,.none,.none,0⟩),vX P,vY P,tu #[] 0,fi #[],tu #[sv "self" 2452,sv "name" 2453] 0,tu #[] 0,ob .none (.func ⟨(S "__getitem__"),(S "Headers.__getitem__"),fA (fc 13 5),.stmts (fB (fc 13 5)),fS (fc 13 5),0,[],.none,.none,.none,.none,none,.none,.none,0⟩),vZ P,v9 P,tu #[] 0,fi #[],tu #[sv "self" 2460,sv "name" 2461] 0,tu #[] 0,ob .none (.func ⟨(S "__contains__"),(S "Headers.__contains__"),fA (fc 13 6),.stmts (fB (fc 13 6)),fS (fc 13 6),0,[],.none,.none,.none,.none,none,.none,.none,0⟩),v8 P,v7 P,tu #[] 0,fi #[],tu #[sv "self" 2468,sv "name" 2469] 0,tu #[] 0,ob .none (.func ⟨(S "get_all"),(S "Headers.get_all"),fA (fc 13 7),.stmts (fB (fc 13 7)),fS (fc 13 7),0,[],.none,.none,.none,.none,none,.none,.none,0⟩),vo P,vp P,Hh P,tu #[] 0,fi #[],tu #[sv "self" 2476,sv "name" 2477,sv "default" 2478,sv "k" 2479,sv "v" 2480] 0,tu #[] 0,ob .none (.func ⟨(S "get"),(S "Headers.get"),fA (fc 13 8),.stmts (fB (fc 13 8)),fS (fc 13 8),0,[],.none,.none,.none,.none,none,.none,.none,0⟩),GJ P,Kw P,tu #[] 0,fi #[],ob .none (.func ⟨(S "keys"),(S "Headers.keys"),fA (fc 13 9),.stmts (fB (fc 13 9)),fS (fc 13 9),0,[],.none,.none,.none,.none,none,.none,.none,0⟩),ve P,vr P,tu #[] 0,fi #[],ob .none (.func ⟨(S "values"),(S "Headers.values"),fA (fc 13 10),.stmts (fB (fc 13 10)),fS (fc 13 10),0,[],.none,.none,.none,.none,none,.none,.none,0⟩),vt P,vh P,tu #[] 0,fi #[],tu #[sv "self" 2499] 0,tu #[] 0,ob .none (.func ⟨(S "items"),(S "Headers.items"),fA (fc 13 11),.stmts (fB (fc 13 11)),fS (fc 13 11),0,[],.none,.none,.none,.none,none,.none,.none,0⟩),GQ P,Kx P,tu #[] 0,fi #[],tu #[sv "self" 2506] 0,tu #[] 0,ob .none (.func ⟨(S "__repr__"),(S "Headers.__repr__"),fA (fc 13 12),.stmts (fB (fc 13 12)),fS (fc 13 12),0,[],.none,.none,.none,.none,none,.none,.none,0⟩),vm P,vn P,tu #[] 0,fi #[],ob .none (.func ⟨(S "__str__"),(S "Headers.__str__"),fA (fc 13 13),.stmts (fB (fc 13 13)),fS (fc 13 13),0,[],.none,.none,.none,.none,none,.none,.none,0⟩),vd P,vf P,tu #[] 0,fi #[],tu #[sv "self" 2519] 0,tu #[] 0,ob .none (.func ⟨(S "__bytes__"),(S "Headers.__bytes__"),fA (fc 13 14),.stmts (fB (fc 13 14)),fS (fc 13 14),0,[],.none,.none,.none,.none,none,.none,.none,0⟩),vg P,vk P,tu #[] 0,fi #[],tu #[sv "self" 2526,sv "name" 2527,sv "value" 2528,sv "result" 2529] 0,tu #[] 0,ob .none (.func ⟨(S "setdefault"),(S "Headers.setdefault"),fA (fc 13 15),.stmts (fB (fc 13 15)),fS (fc 13 15),0,[],.none,.none,.none,.none,none,.none,.none,0⟩),GU P,Ky P,tu #[] 0,fi #[],tu #[sv "self" 2536,sv "_name" 2537,sv "_value" 2538,sv "_params" 2539] 0,tu #[] 0,ob .none (.func ⟨(S "add_header"),(S "Headers.add_header"),fA (fc 13 16),.stmts (fB (fc 13 16)),fS (fc 13 16),0,[],.none,.none,.none,.none,none,.none,.none,0⟩),vq P,vu P,tu #[sv "_headers" 2543] 0,ob (.type "dict") (.dict #[en P "__module__" 2402 (sv "cpy313.wsgiref.headers" 2333),en P "__firstlineno__" 2406 (.int 48 2405),en P "__init__" 2416 (.ref 134),en P "_convert_string_type" 2426 (.ref 141),en P "__len__" 2433 (.ref 148),en P "__setitem__" 2442 (.ref 155),en P "__delitem__" 2448 (.ref 160),en P "__getitem__" 2456 (.ref 167),en P "__contains__" 2464 (.ref 174),en P "get_all" 2472 (.ref 181),en P "get" 2483 (.ref 189),en P "keys" 2489 (.ref 194),en P "values" 2495 (.ref 199),en P "items" 2502 (.ref 206),en P "__repr__" 2509 (.ref 213),en P "__str__" 2515 (.ref 218),en P "__bytes__" 2522 (.ref 225),en P "setdefault" 2532 (.ref 232),en P "add_header" 2542 (.ref 239),en P "__static_attributes__" 2544 (.ref 240),en P "__dict__" 2546 (.ref 243),en P "__weakref__" 2548 (.ref 244),en P "__doc__" 2549 .none] 4),Hl P,ob (.type "getset_descriptor") (.fields #[sv "__dict__" 2545,.ref 242,.builtin "function.__dict__",.builtin "function.__dict__#set"]),ob (.type "getset_descriptor") (.fields #[sv "__weakref__" 2547,.ref 242,.builtin "ExceptionGroup.__weakref__",.none]),ob (.type "super") (.fields #[.ref 242,.ref 242,.ref 242]),ob (.type "builtin_function_or_method") (.fields #[.builtin "object.__init_subclass__",.ref 242])]
def jK(w:Zyh)(os:ZyI):ZxD:=⟨nU w.params,247,{},#[],{},2552,os⟩
noncomputable def xg:Pos:=⟨48,0,122,16⟩
def nV(P:Zy1):BT:=(((nU P)).set 3 λ_=>mO P "law_sr0086_01" 2552 20 20)
def jJ(w:Zyh)(os:ZyI):ZxD:=⟨nV w.params,247,{},#[],{},2554,os⟩
noncomputable def xi:Pos:=⟨123,0,123,8⟩
def GV(P:Zy1):Obj:=ob (.type "code") (.fields #[sv "_law_letter" 2554,sv "_law_letter" 2555,sv "/claim/cut.py" 2556,.int 124 0,.int 2 0,.int 0 0,.int 0 0,.int 3 0,.ref 247,.bool true,.int 276 0,.ref 248,.none,.ref 249,.ref 250,.ref 251,.int 2559 0,.int 124 0,sv "/claim/cut.py" 2560])
def Kz(P:Zy1):Obj:=ob (.type "function") (.func ⟨(S "_law_letter"),(S "_law_letter"),fA (fd 15),.stmts (fB (fd 15)),fS (fd 15),3,[],.none,.none,.none,sv "law_sr0086_01" 2552,none,.ref 252,.none,0⟩)
def nX(P:Zy1):BT:=YR (((((nV P)).set 3 λ_=>mO P "law_sr0086_01" 2552 21 21)).set 29 λ_=>fi #[.int 2 0,.int 0 0,.ref 37,.int 7 0,.int 0 0,.ref 55,.int 10 0,.int 0 0,.ref 101,.int 17 0,.int 0 0,.ref 108,.int 48 0,.int 0 0,.ref 125,.int 124 0,.int 0 0,.ref 252]) 247 [tu #[] 0,fi #[],tu #[sv "letter" 2557,sv "q" 2558] 0,tu #[] 0,ob .none (.func ⟨(S "_law_letter"),(S "_law_letter"),fA (fd 15),.stmts (fB (fd 15)),fS (fd 15),0,[],.none,.none,.none,.none,none,.none,.none,0⟩),GV P,Kz P]
def jQ(w:Zyh)(os:ZyI):ZxD:=⟨nX w.params,254,{},#[],{},2562,os⟩
noncomputable def xk:Pos:=⟨124,0,127,89⟩
def GW(P:Zy1):Obj:=ob (.type "code") (.fields #[sv "_law_label" 2562,sv "_law_label" 2563,sv "/claim/cut.py" 2564,.int 128 0,.int 2 0,.int 0 0,.int 0 0,.int 3 0,.ref 254,.bool true,.int 276 0,.ref 255,.none,.ref 256,.ref 257,.ref 258,.int 2578 0,.int 128 0,sv "/claim/cut.py" 2579])
def JO(P:Zy1):Obj:=ob (.type "function") (.func ⟨(S "_law_label"),(S "_law_label"),fA (fd 16),.stmts (fB (fd 16)),fS (fd 16),3,[],.none,.none,.none,sv "law_sr0086_01" 2552,none,.ref 259,.none,0⟩)
def nY(P:Zy1):BT:=YR (((((nX P)).set 3 λ_=>mO P "law_sr0086_01" 2552 22 22)).set 29 λ_=>fi #[.int 2 0,.int 0 0,.ref 37,.int 7 0,.int 0 0,.ref 55,.int 10 0,.int 0 0,.ref 101,.int 17 0,.int 0 0,.ref 108,.int 48 0,.int 0 0,.ref 125,.int 124 0,.int 0 0,.ref 252,.int 128 0,.int 0 0,.ref 259]) 254 [tu #[] 0,fi #[],tu #[sv "n" 2565,sv "kin" 2566,sv "two" 2567,sv "joined" 2568,sv "means" 2569,sv "main" 2570,sv "side" 2571,sv "q" 2572,sv "nothing" 2573,sv "signs" 2574,sv "word" 2575,sv "letter" 2576,sv "sign" 2577] 0,tu #[] 0,ob .none (.func ⟨(S "_law_label"),(S "_law_label"),fA (fd 16),.stmts (fB (fd 16)),fS (fd 16),0,[],.none,.none,.none,.none,none,.none,.none,0⟩),GW P,JO P]
def jU(w:Zyh)(os:ZyI):ZxD:=⟨nY w.params,261,{},#[],{},2581,os⟩
noncomputable def xj:Pos:=⟨128,0,140,97⟩
def GX(P:Zy1):Obj:=ob (.type "code") (.fields #[sv "_law_over" 2581,sv "_law_over" 2582,sv "/claim/cut.py" 2583,.int 141 0,.int 3 0,.int 0 0,.int 0 0,.int 3 0,.ref 261,.bool true,.int 276 0,.ref 262,.none,.ref 263,.ref 264,.ref 265,.int 2587 0,.int 141 0,sv "/claim/cut.py" 2588])
def JP(P:Zy1):Obj:=ob (.type "function") (.func ⟨(S "_law_over"),(S "_law_over"),fA (fd 17),.stmts (fB (fd 17)),fS (fd 17),3,[],.none,.none,.none,sv "law_sr0086_01" 2552,none,.ref 266,.none,0⟩)
def nZ(P:Zy1):BT:=YR (((((nY P)).set 3 λ_=>mO P "law_sr0086_01" 2552 23 23)).set 29 λ_=>fi #[.int 2 0,.int 0 0,.ref 37,.int 7 0,.int 0 0,.ref 55,.int 10 0,.int 0 0,.ref 101,.int 17 0,.int 0 0,.ref 108,.int 48 0,.int 0 0,.ref 125,.int 124 0,.int 0 0,.ref 252,.int 128 0,.int 0 0,.ref 259,.int 141 0,.int 0 0,.ref 266]) 261 [tu #[] 0,fi #[],tu #[sv "short" 2584,sv "long" 2585,sv "back" 2586] 0,tu #[] 0,ob .none (.func ⟨(S "_law_over"),(S "_law_over"),fA (fd 17),.stmts (fB (fd 17)),fS (fd 17),0,[],.none,.none,.none,.none,none,.none,.none,0⟩),GX P,JP P]
def jV(w:Zyh)(os:ZyI):ZxD:=⟨nZ w.params,268,{},#[],{},2590,os⟩
noncomputable def xq:Pos:=⟨141,0,144,86⟩
def GY(P:Zy1):Obj:=ob (.type "code") (.fields #[sv "_law_hunt" 2590,sv "_law_hunt" 2591,sv "/claim/cut.py" 2592,.int 145 0,.int 2 0,.int 0 0,.int 0 0,.int 3 0,.ref 268,.bool true,.int 276 0,.ref 269,.none,.ref 270,.ref 271,.ref 272,.int 2607 0,.int 145 0,sv "/claim/cut.py" 2608])
def JE(P:Zy1):Obj:=ob (.type "function") (.func ⟨(S "_law_hunt"),(S "_law_hunt"),fA (fd 18),.stmts (fB (fd 18)),fS (fd 18),3,[],.none,.none,.none,sv "law_sr0086_01" 2552,none,.ref 273,.none,0⟩)
def n9(P:Zy1):BT:=YR (((((nZ P)).set 3 λ_=>mO P "law_sr0086_01" 2552 24 24)).set 29 λ_=>fi #[.int 2 0,.int 0 0,.ref 37,.int 7 0,.int 0 0,.ref 55,.int 10 0,.int 0 0,.ref 101,.int 17 0,.int 0 0,.ref 108,.int 48 0,.int 0 0,.ref 125,.int 124 0,.int 0 0,.ref 252,.int 128 0,.int 0 0,.ref 259,.int 141 0,.int 0 0,.ref 266,.int 145 0,.int 0 0,.ref 273]) 268 [tu #[] 0,fi #[],tu #[sv "words" 2593,sv "back" 2594,sv "table" 2595,sv "heard" 2596,sv "waiting" 2597,sv "i" 2598,sv "k" 2599,sv "over" 2600,sv "size" 2601,sv "rest" 2602,sv "text" 2603,sv "known" 2604,sv "word" 2605,sv "grown" 2606] 0,tu #[] 0,ob .none (.func ⟨(S "_law_hunt"),(S "_law_hunt"),fA (fd 18),.stmts (fB (fd 18)),fS (fd 18),0,[],.none,.none,.none,.none,none,.none,.none,0⟩),GY P,JE P]
def jW(w:Zyh)(os:ZyI):ZxD:=⟨n9 w.params,275,{},#[],{},2610,os⟩
noncomputable def xu:Pos:=⟨145,0,170,31⟩
def GZ(P:Zy1):Obj:=ob (.type "code") (.fields #[sv "_law_ways" 2610,sv "_law_ways" 2611,sv "/claim/cut.py" 2612,.int 171 0,.int 2 0,.int 0 0,.int 0 0,.int 3 0,.ref 275,.bool true,.int 276 0,.ref 276,.none,.none,.none,.ref 277,.int 2613 0,.int 171 0,sv "/claim/cut.py" 2614])
def JR(P:Zy1):Obj:=ob (.type "function") (.func ⟨(S "_law_ways"),(S "_law_ways"),fA (fd 19),.stmts (fB (fd 19)),fS (fd 19),3,[],.none,.none,.none,sv "law_sr0086_01" 2552,none,.ref 278,.none,0⟩)
def n8(P:Zy1):BT:=YR (((((n9 P)).set 3 λ_=>mO P "law_sr0086_01" 2552 25 25)).set 29 λ_=>fi #[.int 2 0,.int 0 0,.ref 37,.int 7 0,.int 0 0,.ref 55,.int 10 0,.int 0 0,.ref 101,.int 17 0,.int 0 0,.ref 108,.int 48 0,.int 0 0,.ref 125,.int 124 0,.int 0 0,.ref 252,.int 128 0,.int 0 0,.ref 259,.int 141 0,.int 0 0,.ref 266,.int 145 0,.int 0 0,.ref 273,.int 171 0,.int 0 0,.ref 278]) 275 [tu #[] 0,fi #[],ob .none (.func ⟨(S "_law_ways"),(S "_law_ways"),fA (fd 19),.stmts (fB (fd 19)),fS (fd 19),0,[],.none,.none,.none,.none,none,.none,.none,0⟩),GZ P,JR P]
def jX(w:Zyh)(os:ZyI):ZxD:=⟨n8 w.params,280,{},#[],{},2616,os⟩
noncomputable def xw:Pos:=⟨171,0,175,15⟩
def G9(P:Zy1):Obj:=ob (.type "code") (.fields #[sv "law" 2616,sv "law" 2617,sv "/claim/cut.py" 2618,.int 176 0,.int 1 0,.int 0 0,.int 0 0,.int 3 0,.ref 280,.bool true,.int 276 0,.ref 281,.none,.none,.none,.ref 282,.int 2619 0,.int 176 0,sv "/claim/cut.py" 2620])
def JS(P:Zy1):Obj:=ob (.type "function") (.func ⟨(S "law"),(S "law"),fA (fd 20),.stmts (fB (fd 20)),fS (fd 20),3,[],.none,.none,.none,sv "law_sr0086_01" 2552,none,.ref 283,.none,0⟩)
def n7(P:Zy1):BT:=YR (((((n8 P)).set 3 λ_=>mO P "law_sr0086_01" 2552 26 26)).set 29 λ_=>fi #[.int 2 0,.int 0 0,.ref 37,.int 7 0,.int 0 0,.ref 55,.int 10 0,.int 0 0,.ref 101,.int 17 0,.int 0 0,.ref 108,.int 48 0,.int 0 0,.ref 125,.int 124 0,.int 0 0,.ref 252,.int 128 0,.int 0 0,.ref 259,.int 141 0,.int 0 0,.ref 266,.int 145 0,.int 0 0,.ref 273,.int 171 0,.int 0 0,.ref 278,.int 176 0,.int 0 0,.ref 283]) 280 [tu #[] 0,fi #[],ob .none (.func ⟨(S "law"),(S "law"),fA (fd 20),.stmts (fB (fd 20)),fS (fd 20),0,[],.none,.none,.none,.none,none,.none,.none,0⟩),G9 P,JS P]
def FW(w:Zyh)(os:ZyI):ZxD:=⟨n7 w.params,285,{},#[],{},2622,os⟩
noncomputable def xx:Pos:=⟨176,0,222,82⟩
def Yl(i:Nat):List ZyF:=[L9 (behindTheImports prog) i]
theorem pre(w:Zyh)(os:ZyI):topGo Zy3 prog w 28 ann 12 (qz w os).abs (topStub prog)=some ((bT w os).abs,⟨denote Zy3 cE,cE,jP,[topFrame X8]⟩):=by
 kernel_rfl!
theorem blk(w:Zyh)(os:ZyI):segRun Zy3 prog w 28 ann 1 1 (bT w os).abs (blockOf (behindTheImports prog) env cE jP [topFrame X8])=some (.next,(YW w os).abs,cE,posB):=by
 kernel_rfl!
theorem eP(w:Zyh)(os:ZyI):segRunT Zy3 prog w 28 ann 1 30 (YW w os) (piecesOf (Yl 0) env cE posB [topFrame X8])=some (.next,ay w os,cE,kj):=by
 rw[Zyr,Zyt];kernel_rfl!
theorem eE(w:Zyh)(os:ZyI):segRunT Zy3 prog w 28 ann 1 10 (ay w os) (piecesOf (Yl 1) env cE kj [topFrame X8])=some (.next,DZ w os,cE,NX):=by
 rw[Zyr,Zyt];kernel_rfl!
theorem eS(w:Zyh):∀(os:ZyI),segRunT Zy3 prog w 28 ann 1 999 (DZ w os) (piecesOf (Yl 2) env cE NX [topFrame X8])=some (.next,uO w os,cE,P7):=by
 refine byRow2 "special-get-raises" (P:=λw=>∀(os:ZyI),segRunT Zy3 prog w 28 ann 1 999 (DZ w os) (piecesOf (Yl 2) env cE NX [topFrame X8])=some (.next,uO w os,cE,P7)) (λw os=>?_) (λw os=>?_) w
 ·rw[Zyr,Zyt];kernel_rfl!
 ·rw[Zyr,Zyt];kernel_rfl!
theorem eH(w:Zyh)(os:ZyI):segRunT Zy3 prog w 28 ann 1 30 (uO w os) (piecesOf (Yl 3) env cE P7 [topFrame X8])=some (.next,az w os,cE,kq):=by
 rw[Zyr,Zyt];kernel_rfl!
theorem eN(w:Zyh)(os:ZyI):segRunT Zy3 prog w 28 ann 1 31 (uP w os) (piecesOf (Yl 5) env cE ku [topFrame X8])=some (.next,bO w os,cE,kx):=by
 rw[Zyr,Zyt];kernel_rfl!
theorem eA(w:Zyh)(os:ZyI):segRunT Zy3 prog w 28 ann 1 10 (bO w os) (piecesOf (Yl 6) env cE kx [topFrame X8])=some (.next,bP w os,cE,ky):=by
 rw[Zyr,Zyt];kernel_rfl!
theorem eB(w:Zyh)(os:ZyI):segRunT Zy3 prog w 28 ann 1 10 (bP w os) (piecesOf (Yl 7) env cE ky [topFrame X8])=some (.next,bE w os,cE,kz):=by
 rw[Zyr,Zyt];kernel_rfl!
theorem eC(w:Zyh)(os:ZyI):segRunT Zy3 prog w 28 ann 1 35 (bE w os) (piecesOf (Yl 8) env cE kz [topFrame X8])=some (.next,bR w os,cE,jO):=by
 rw[Zyr,Zyt];kernel_rfl!
theorem eI(w:Zyh)(os:ZyI):segRunT Zy3 prog w 28 ann 1 10 (bR w os) (piecesOf (Yl 9) env cE jO [topFrame X8])=some (.next,jF w os,cE,xc):=by
 rw[Zyr,Zyt];kernel_rfl!
theorem lI(w:Zyh)(os:ZyI):segRunT Zy3 prog w 28 ann 1 70 (jF w os) (piecesOf (Yl 10) env cE xc [topFrame X8])=some (.next,jG w os,cE,xd):=by
 rw[Zyr,Zyt];kernel_rfl!
theorem lK(w:Zyh)(os:ZyI):segRunT Zy3 prog w 28 ann 1 78 (jG w os) (piecesOf (Yl 11) env cE xd [topFrame X8])=some (.next,jI w os,cE,xf):=by
 rw[Zyr,Zyt];kernel_rfl!
theorem lJ(w:Zyh)(os:ZyI):segRunT Zy3 prog w 28 ann 1 729 (jI w os) (piecesOf (Yl 12) env cE xf [topFrame X8])=some (.next,jK w os,cE,xg):=by
 rw[Zyr,Zyt];kernel_rfl!
theorem lQ(w:Zyh)(os:ZyI):segRunT Zy3 prog w 28 ann 1 10 (jK w os) (piecesOf (Yl 13) env cE xg [topFrame X8])=some (.next,jJ w os,cE,xi):=by
 rw[Zyr,Zyt];kernel_rfl!
theorem lU(w:Zyh)(os:ZyI):segRunT Zy3 prog w 28 ann 1 31 (jJ w os) (piecesOf (Yl 14) env cE xi [topFrame X8])=some (.next,jQ w os,cE,xk):=by
 rw[Zyr,Zyt];kernel_rfl!
theorem lV(w:Zyh)(os:ZyI):segRunT Zy3 prog w 28 ann 1 42 (jQ w os) (piecesOf (Yl 15) env cE xk [topFrame X8])=some (.next,jU w os,cE,xj):=by
 rw[Zyr,Zyt];kernel_rfl!
theorem lW(w:Zyh)(os:ZyI):segRunT Zy3 prog w 28 ann 1 32 (jU w os) (piecesOf (Yl 16) env cE xj [topFrame X8])=some (.next,jV w os,cE,xq):=by
 rw[Zyr,Zyt];kernel_rfl!
theorem lX(w:Zyh)(os:ZyI):segRunT Zy3 prog w 28 ann 1 43 (jV w os) (piecesOf (Yl 17) env cE xq [topFrame X8])=some (.next,jW w os,cE,xu):=by
 rw[Zyr,Zyt];kernel_rfl!
theorem lY(w:Zyh)(os:ZyI):segRunT Zy3 prog w 28 ann 1 27 (jW w os) (piecesOf (Yl 18) env cE xu [topFrame X8])=some (.next,jX w os,cE,xw):=by
 rw[Zyr,Zyt];kernel_rfl!
theorem lZ(w:Zyh)(os:ZyI):segRunT Zy3 prog w 28 ann 1 27 (jX w os) (piecesOf (Yl 19) env cE xw [topFrame X8])=some (.next,FW w os,cE,xx):=by
 rw[Zyr,Zyt];kernel_rfl!
theorem fin(w:Zyh)(os:ZyI):topRun Zy3 prog w 28 ann 2 (FW w os).abs ⟨doneF .next,cE,xx,[topFrame X8]⟩=some (FW w os).abs:=by
 kernel_rfl!
theorem sY:CO=.Assign k7 (.Dict IJ IQ k8) k9:=by kernel_rfl!
theorem cC:Kk IJ IQ=true:=by kernel_rfl!
theorem cD:(dataOf IJ IQ).length=17+17*37+4:=by kernel_rfl!
theorem uB:grows (-1) (dataOf IJ IQ)=true:=by kernel_rfl!
theorem fG:swapsWithSole k7 (.Dict IJ IQ k8) k9.line env=pure false:=by kernel_rfl!
theorem sZ(P:Zy1):AP (T4 P) 57 (W5 358 37 (dataOf IJ IQ))=true:=by kernel_rfl!
theorem eM(w:Zyh)(os:ZyI):segRun Zy3 prog w 28 ann 1 (12517+8) (az w os).abs (piecesOf (Yl 4) env cE kq [topFrame X8])=some (.next,(uP w os).abs,cE,ku):=by
 refine Oh (T:=T4 w.params) (s:=57) (m:=37) (r:=4) (N:=8) (t:=358) (S2:=uP w os) sY fG (by decide) (by decide) cC cD (by decide) (by decide) (by decide) uB (sZ w.params) ?_
 rw[Zyr,Zyt];kernel_rfl!
theorem fQ:behindTheImports prog=Yl 0++(Yl 1++(Yl 2++(Yl 3++(Yl 4++(Yl 5++(Yl 6++(Yl 7++(Yl 8++(Yl 9++(Yl 10++(Yl 11++(Yl 12++(Yl 13++(Yl 14++(Yl 15++(Yl 16++(Yl 17++(Yl 18++(Yl 19++[]))))))))))))))))))):=by kernel_rfl!
theorem SY(w:Zyh)(os:ZyI):topRun Zy3 prog w 28 ann (30+(10+(999+(30+((12517+8)+(31+(10+(10+(35+(10+(70+(78+(729+(10+(31+(42+(32+(43+(27+(27+2)))))))))))))))))))) (YW w os).abs (restOf (behindTheImports prog) env cE posB [topFrame X8])=some (FW w os).abs:=by
 have h:topRun Zy3 prog w 28 ann (30+(10+(999+(30+((12517+8)+(31+(10+(10+(35+(10+(70+(78+(729+(10+(31+(42+(32+(43+(27+(27+2)))))))))))))))))))) (YW w os).abs (restOf (Yl 0++(Yl 1++(Yl 2++(Yl 3++(Yl 4++(Yl 5++(Yl 6++(Yl 7++(Yl 8++(Yl 9++(Yl 10++(Yl 11++(Yl 12++(Yl 13++(Yl 14++(Yl 15++(Yl 16++(Yl 17++(Yl 18++(Yl 19++[])))))))))))))))))))) env cE posB [topFrame X8])=some (FW w os).abs:=
  (piece_app (segRun_of (eP w os)) (piece_app (segRun_of (eE w os)) (piece_app (segRun_of (eS w os)) (piece_app (segRun_of (eH w os)) (piece_app (eM w os) (piece_app (segRun_of (eN w os)) (piece_app (segRun_of (eA w os)) (piece_app (segRun_of (eB w os)) (piece_app (segRun_of (eC w os)) (piece_app (segRun_of (eI w os)) (piece_app (segRun_of (lI w os)) (piece_app (segRun_of (lK w os)) (piece_app (segRun_of (lJ w os)) (piece_app (segRun_of (lQ w os)) (piece_app (segRun_of (lU w os)) (piece_app (segRun_of (lV w os)) (piece_app (segRun_of (lW w os)) (piece_app (segRun_of (lX w os)) (piece_app (segRun_of (lY w os)) (piece_app (segRun_of (lZ w os)) (fin w os)))))))))))))))))))))
 rw[<-fQ] at h
 exact h
theorem run(w:Zyh)(os:ZyI):topRun Zy3 prog w 28 ann (12+(1+(30+(10+(999+(30+((12517+8)+(31+(10+(10+(35+(10+(70+(78+(729+(10+(31+(42+(32+(43+(27+(27+2)))))))))))))))))))))) (qz w os).abs (topStub prog)=some (FW w os).abs:=
 go_top (pre w os) (piece_block (blk w os) (SY w os))
theorem EB       (h:(impGoT tb p w n s t).map (λx=>(x.1,x.2.atExitBegin))=some (s',some [])):
 importEnds tb p w (n+1) s.abs t=some s'.abs:=by
 obtain⟨⟨a,b⟩,h1,h2⟩:=mS h
 have e1:a=s':=congrArg Prod.fst h2
 have e2:b.atExitBegin=some []:=congrArg Prod.snd h2
 subst e1
 refine imp_go (impGo_of h1) ?_
 unfold importEnds
 rw[e2]
theorem lA(w:Zyh)(os:ZyI):(impGoT Zy3 (opening prog) w 798 ⟨.nil,0,{},#[],{},1,os⟩ (start (opening prog)).2).map (λx=>(x.1,x.2.atExitBegin))=some (bH w os,some []):=by
 rw[PySem.W.Fast.te14789777615569096658,Zyt,PySem.W.Fast.te1435165496053646825];kernel_rfl!
theorem mv:(start (opening prog)).1=(⟨.nil,0,{},#[],{},1,(start (opening prog)).1.os⟩:ZxD).abs:=by kernel_rfl!
theorem kE(w:Zyh)(os:ZyI):(bH w os).abs=⟨absHeap (TE w.params) 28 {},#[],{},276,os⟩:=by kernel_rfl!
theorem pw(w:Zyh):importEnds Zy3 (opening prog) w 799 (start (opening prog)).1 (start (opening prog)).2=some ⟨absHeap (TE w.params) 28 {},#[],{},276,(start (opening prog)).1.os⟩:=by
 have h:=EB (lA w (start (opening prog)).1.os)
 rw[<-mv,kE] at h
 exact h
theorem fence(w:Zyh):(λos=>(fenceModules? prog ⟨absHeap (TE w.params) 28 {},#[],{},276,os⟩).map (λs=>(s.heap,s.gens,s.drawn,s.toks)))=λ_=>some (absHeap (T0 w.params) 28 {},#[],{},276):=by
 rw[PySem.W.Fast.te14289696077712309145];kernel_rfl!
theorem opened(w:Zyh):(fencedOpening Zy3 prog w 60000).map (λs=>(s.heap,s.gens,s.drawn,s.toks))=some (absHeap (T0 w.params) 28 {},#[],{},276):=
 open_cut (He:=λP=>absHeap (TE P) 28 {}) (H₀:=λP=>absHeap (T0 P) 28 {}) (M:=799) pw (by decide +kernel) fence w
def qv:Zuj:={ prog with main:={ prog.main with body:=[L9 prog.main.body 20] } }
def loose:List Str:=(["ELLIPSIS_MARKER","Headers","_ellipsis_match","_law_hunt","_law_label","_law_letter","_law_over","_law_ways","_name_disallowed_re","_sre","_value_disallowed_re","_wall","b1_set","b3_exceptions","in_table_b1","map_table_b3"]:List String).map S
def H1(P:Zy1):Zyp:=absHeap (n7 P) 285 {}
theorem dt(w:Zyh):((absHeap (T0 w.params) 28 {}).isNs mainGlobals&&(#[]:Array GenState).size==0,(absHeap (T0 w.params) 28 {}).objs.size,(absHeap (T0 w.params) 28 {}).nsMap mainGlobals "__annotations__")=(true,28,ann):=by
 kernel_rfl!
theorem dS(w:Zyh)(os:ZyI):(staticsOk (importedModules prog.main.body) (absHeap (T0 w.params) 28 {}) (H1 w.params)&&namesBound prog (H1 w.params)&&gensDone ⟨H1 w.params,#[],{},2622,os⟩&&laidKept (absHeap (T0 w.params) 28 {}) (H1 w.params))=true:=by
 kernel_rfl!
theorem dH(w:Zyh)(os:ZyI):openSeen qv loose (importedModules prog.main.body) (λ_=>true) true ⟨H1 w.params,#[],{},2622,os⟩=openGood qv loose:=by
 rw[PySem.W.Fast.te4187177175401517315];kernel_rfl!
theorem sG(w:Zyh)(os:ZyI):(qz w os).abs=⟨absHeap (T0 w.params) 28 {},#[],{},276,os⟩:=by kernel_rfl!
theorem sI(w:Zyh)(os:ZyI):(FW w os).abs=⟨H1 w.params,#[],{},2622,os⟩:=by kernel_rfl!
theorem mr(w:Zyh)(os:ZyI):topRun Zy3 prog w 28 ann (12+(1+(30+(10+(999+(30+((12517+8)+(31+(10+(10+(35+(10+(70+(78+(729+(10+(31+(42+(32+(43+(27+(27+2)))))))))))))))))))))) ⟨absHeap (T0 w.params) 28 {},#[],{},276,os⟩ (topStub prog)=some ⟨H1 w.params,#[],{},2622,os⟩:=by
 have h:=run w os
 rw[sG,sI] at h
 exact h
theorem xt(w:Zyh):(λos=>((staticsOk (importedModules prog.main.body) (absHeap (T0 w.params) 28 {}) (H1 w.params)&&namesBound prog (H1 w.params)&&gensDone ⟨H1 w.params,#[],{},2622,os⟩&&laidKept (absHeap (T0 w.params) 28 {}) (H1 w.params)),
 openSeen qv loose (importedModules prog.main.body) (λ_=>true) true ⟨H1 w.params,#[],{},2622,os⟩,H1 w.params))=λ_=>(true,openGood qv loose,H1 w.params):=
 funext λos=>by rw[dS,dH]
theorem left:LeftO prog qv loose (λ_=>true) (λs=>s.heap) (λw=>H1 w.params) 60000:=
 LeftO.of_pieces (p:=prog) (q:=qv) (loose:=loose) (Xt:=λ_=>true) (Yf:=λs=>s.heap) (Ya:=λw=>H1 w.params) (N:=60000) (g0:=true) (H₀:=λP=>absHeap (T0 P) 28 {}) (H₁:=H1) (gs₀:=#[]) (gs₁:=#[]) (d₀:={}) (d₁:={}) (k₀:=276) (k₁:=2622) (m₀:=28) (ann:=ann)
  (M:=(12+(1+(30+(10+(999+(30+((12517+8)+(31+(10+(10+(35+(10+(70+(78+(729+(10+(31+(42+(32+(43+(27+(27+2))))))))))))))))))))))) opened dt mr (by decide +kernel) xt
end Mine.Internal.Uh
end
section
open PySem PySem.W PyProof.Rows
namespace Mine.Internal.Uh
def YP(w:Zyh)(h:Zyp):Prop:=∀b o,(H1 w.params).get? b=some o->h.get? b=some o
abbrev rr:OpenRow:=ZxB.row
theorem RB:rr.prog=prog:=by kernel_rfl!
theorem dR:LeftO rr.prog qv loose (λ_=>true) (λs=>s.heap) (λw=>H1 w.params) 60000:=by
 rw[RB];exact left
def Pm:Option (DefRec × List (Str × Zyc)):=defOf qv rr.name
theorem RP:Pm.isSome=true:=by kernel_rfl!
noncomputable def dd:DefRec:=(Pm.get RP).1
noncomputable def kk:List (Str × Zyc):=(Pm.get RP).2
theorem tQ:defOf qv rr.name=some (dd,kk):=by kernel_rfl!
theorem hp:rr.prog.theDef rr.name=some (dd.params,dd.body,dd.scope):=by kernel_rfl!
theorem hk:kwWritten? dd.params.kwonlyargs dd.params.kw_defaults=some kk:=by kernel_rfl!
theorem lM:(chainsOk qv&&opensWell rr.prog&&(frees rr.toRowW&&rr.within.isEmpty))=true:=by decide +kernel
theorem bare:rr.prog.bare:=by
 rw[RB]
 exact⟨rfl,rfl,rfl,rfl,rfl,by decide +kernel⟩
theorem VN:(!rr.writes||rr.records.isEmpty)=true:=by kernel_rfl!
theorem m7:rr.records=[]:=by kernel_rfl!
theorem Er(wit:rr.toRowW.promised)(Pe:rr.wellSaid=true)(call:WalkO qv loose (λ_ _=>True) YP rr.toRowW dd kk λf vs=>PySem.call f vs):rr.Holds:=
 PySem.W.holds_open (r:=rr) (q:=qv) (loose:=loose) (Xt:=λ_=>true) (XP:=λ_ _=>True) (Yf:=λs=>s.heap) (Ya:=λw=>H1 w.params) (YP:=YP) (N:=60000) dR
  (λw s e b o h=>by rw[e];exact h) (λw h h' y k b o e=>k b o (y b o e)) (λ_ _=>trivial) (λ_ _ _ _ _=>trivial) tQ hp hk (λs _=>recFacts_nil m7) VN Pe lM bare wit call
theorem dj:ZxB.wellSaid=true:=by decide +kernel
theorem holds_of(call:WalkO qv loose (λ_ _=>True) YP rr.toRowW dd kk λf vs=>PySem.call f vs):ZxB.Holds:=by
 refine PySem.W.holds_law dj λPe=>?_
 refine Er ?wit Pe call
 case wit=>w_witness2
end Mine.Internal.Uh
end
section
open PySem PySem.W PyProof.Rows
namespace Mine.Internal
def Ez(fd:ZxI):Bool:=fd.globals==mainGlobals&&fd.builtins==builtinsNs&&fd.closure.isEmpty&&!fd.scope.isCoroutine&&!fd.scope.isGenerator&&fd.scope.kind==.function&&
 fd.scope.names.all (λx=>x.2 != .cell||fd.scope.names.lookup x.1==some .cell)
theorem Xo   {o oc:Obj}     (ho:∀h,C.G h->h.get? f=some o)(hd:o.data=.func fd)(qQ:∀h,C.G h->h.get? c=some oc)(hc:fd.code=.ref c)
 (oV:oc.data=.fields vs) (hq:vs[1]?=some (.str fd.qualname t)) (hb:Ez fd=true) (cc:fd.body=.stmts body):YO C f fd body:=by
 unfold Ez at hb
 simp only[ZyW,beq_iff_eq,Zxg,ZuG,ZyV,Zwy,bne_iff_ne] at hb
 obtain⟨⟨⟨⟨⟨⟨b1,b2⟩,b3⟩,b4⟩,b5⟩,b6⟩,b7⟩:=hb
 exact⟨λh g=>⟨o,ho h g,hd⟩,λh g=>⟨c,oc,vs,t,hc,qQ h g,oV,hq⟩,b1,b2,b3,cc,b4,b5,b6,λx hx e=>(b7 x hx).resolve_left λn=>n e⟩
theorem Ux     (ho:∀h,C.G h->h.get? f=some o)(hd:o.data=.func fd):WG C f:=⟨o,fd,ho,hd⟩
noncomputable def XT(o:Obj):Array Zyd:=match o.data with |.fields vs=>vs |_=>#[]
noncomputable def XH(o:Obj):ZxI:=match o.data with |.func f=>f |_=>default
end Mine.Internal
end
section
open PySem PySem.W PyProof.Rows
namespace Mine.Internal.Uh
theorem iP(P:Zy1):(H1 P).isNs mainGlobals=true:=by kernel_rfl!
theorem cI(P:Zy1):(H1 P).isNs builtinsNs=true:=by kernel_rfl!
theorem dm(P:Zy1):(H1 P).isNs cStatics=true:=by kernel_rfl!
theorem dF(P:Zy1):(H1 P).nsMap cStatics "sys.recursionlimit"=none:=by kernel_rfl!
def cx(w:Zyh):Cx:=⟨prog,w,(H1 w.params).nsMap mainGlobals,(H1 w.params).nsMap builtinsNs,YP w,λh h' y k b o e=>k b o (y b o e)⟩
theorem noLimit(P:Zy1):(H1 P).NoLimit:=⟨(H1 P).nsMap cStatics,Zuy (dm P),dF P⟩
theorem tA  {K:Zyp->Prop}  (k:K h)(y:ZT (H1 P) h):LP ((H1 P).nsMap mainGlobals) ((H1 P).nsMap builtinsNs) K h where
 g:=(Zuy (iP P)).keeps y
 b:=(Zuy (cI P)).keeps y
 nolimit:=(noLimit P).keeps y
 YG:=k
theorem Q9  {h:Zyp}(y:YP w h):(cx w).G h:=by
 simp only[Cx.G,cx]
 exact tA (P:=w.params) (K:=YP w) (h:=h) y y
theorem RL(w:Zyh):(cx w).mb "len"=some (.builtin "len"):=by kernel_rfl!
theorem RM(w:Zyh):(cx w).mg "len"=none:=by kernel_rfl!
theorem iT(w:Zyh):(cx w).mb "ord"=some (.builtin "ord"):=by kernel_rfl!
theorem iI(w:Zyh):(cx w).mg "ord"=none:=by kernel_rfl!
theorem iE(w:Zyh):(cx w).mb "chr"=some (.builtin "chr"):=by kernel_rfl!
theorem iN(w:Zyh):(cx w).mg "chr"=none:=by kernel_rfl!
theorem iL(w:Zyh):(cx w).mb "sum"=some (.builtin "sum"):=by kernel_rfl!
theorem iJ(w:Zyh):(cx w).mg "sum"=none:=by kernel_rfl!
theorem iR(w:Zyh):(cx w).mb "max"=some (.builtin "max"):=by kernel_rfl!
theorem iF(w:Zyh):(cx w).mg "max"=none:=by kernel_rfl!
theorem iS(w:Zyh):(cx w).mb "min"=some (.builtin "min"):=by kernel_rfl!
theorem iG(w:Zyh):(cx w).mg "min"=none:=by kernel_rfl!
theorem Ho(w:Zyh):(cx w).mb "list"=some (.type "list"):=by kernel_rfl!
theorem Hp(w:Zyh):(cx w).mg "list"=none:=by kernel_rfl!
theorem OU(w:Zyh):(cx w).mb "range"=some (.type "range"):=by kernel_rfl!
theorem OX(w:Zyh):(cx w).mg "range"=none:=by kernel_rfl!
theorem iM(w:Zyh):(cx w).mb "zip"=some (.type "zip"):=by kernel_rfl!
theorem iQ(w:Zyh):(cx w).mg "zip"=none:=by kernel_rfl!
theorem iH(w:Zyh):(cx w).mb "str"=some (.type "str"):=by kernel_rfl!
theorem iK(w:Zyh):(cx w).mg "str"=none:=by kernel_rfl!
theorem base(w:Zyh):Md (cx w):=⟨λx hx=>by
 simp only[ZyT,ZxY,or_false] at hx
 rcases hx with rfl |rfl |rfl |rfl |rfl |rfl
 ·exact RM w
 ·exact iI w
 ·exact iN w
 ·exact iJ w
 ·exact iF w
 ·exact iG w,RL w,iT w,iE w,iL w,iR w,iS w⟩
theorem kZ   (g:(cx w).G h):h.get? 56=some (DN w.params):=g.YG _ _ (by kernel_rfl!)
theorem sU   (g:(cx w).G h):h.get? 55=some (AE w.params):=g.YG _ _ (by kernel_rfl!)
def UE(P:Zy1):ZxI:=XH (DN P)
theorem AI(w:Zyh):YO (cx w) 56 (UE w.params) (fB (fd 4)):=
 Xo (c:=55) (o:=DN w.params) (oc:=AE w.params) (vs:=XT (AE w.params)) (t:=352) (λh g=>kZ g) (by kernel_rfl!) (λh g=>sU g) (by kernel_rfl!) (by kernel_rfl!) (by kernel_rfl!) (by kernel_rfl!) (by kernel_rfl!)
theorem AW(w:Zyh):WG (cx w) 56:=Ux (o:=DN w.params) (fd:=UE w.params) (λh g=>kZ g) (by kernel_rfl!)
theorem wz   (g:(cx w).G h):h.get? 102=some (IB w.params):=g.YG _ _ (by kernel_rfl!)
theorem b8   (g:(cx w).G h):h.get? 101=some (Cj w.params):=g.YG _ _ (by kernel_rfl!)
def UU(P:Zy1):ZxI:=XH (IB P)
theorem BQ(w:Zyh):YO (cx w) 102 (UU w.params) (fB (fd 6)):=
 Xo (c:=101) (o:=IB w.params) (oc:=Cj w.params) (vs:=XT (Cj w.params)) (t:=2310) (λh g=>wz g) (by kernel_rfl!) (λh g=>b8 g) (by kernel_rfl!) (by kernel_rfl!) (by kernel_rfl!) (by kernel_rfl!) (by kernel_rfl!)
theorem BZ(w:Zyh):WG (cx w) 102:=Ux (o:=IB w.params) (fd:=UU w.params) (λh g=>wz g) (by kernel_rfl!)
theorem xO   (g:(cx w).G h):h.get? 109=some (IC w.params):=g.YG _ _ (by kernel_rfl!)
theorem bh   (g:(cx w).G h):h.get? 108=some (Cq w.params):=g.YG _ _ (by kernel_rfl!)
def Vf(P:Zy1):ZxI:=XH (IC P)
theorem Gn(w:Zyh):YO (cx w) 109 (Vf w.params) (fB (fd 9)):=
 Xo (c:=108) (o:=IC w.params) (oc:=Cq w.params) (vs:=XT (Cq w.params)) (t:=2322) (λh g=>xO g) (by kernel_rfl!) (λh g=>bh g) (by kernel_rfl!) (by kernel_rfl!) (by kernel_rfl!) (by kernel_rfl!) (by kernel_rfl!)
theorem Gb(w:Zyh):WG (cx w) 109:=Ux (o:=IC w.params) (fd:=Vf w.params) (λh g=>xO g) (by kernel_rfl!)
theorem xP   (g:(cx w).G h):h.get? 134=some (Kq w.params):=g.YG _ _ (by kernel_rfl!)
theorem bu   (g:(cx w).G h):h.get? 133=some (GF w.params):=g.YG _ _ (by kernel_rfl!)
def V6(P:Zy1):ZxI:=XH (Kq P)
theorem D7(w:Zyh):YO (cx w) 134 (V6 w.params) (fB (fc 13 0)):=
 Xo (c:=133) (o:=Kq w.params) (oc:=GF w.params) (vs:=XT (GF w.params)) (t:=2408) (λh g=>xP g) (by kernel_rfl!) (λh g=>bu g) (by kernel_rfl!) (by kernel_rfl!) (by kernel_rfl!) (by kernel_rfl!) (by kernel_rfl!)
theorem xE   (g:(cx w).G h):h.get? 141=some (Ku w.params):=g.YG _ _ (by kernel_rfl!)
theorem bw   (g:(cx w).G h):h.get? 140=some (GI w.params):=g.YG _ _ (by kernel_rfl!)
def Xn(P:Zy1):ZxI:=XH (Ku P)
theorem Uc(w:Zyh):YO (cx w) 141 (Xn w.params) (fB (fc 13 1)):=
 Xo (c:=140) (o:=Ku w.params) (oc:=GI w.params) (vs:=XT (GI w.params)) (t:=2418) (λh g=>xE g) (by kernel_rfl!) (λh g=>bw g) (by kernel_rfl!) (by kernel_rfl!) (by kernel_rfl!) (by kernel_rfl!) (by kernel_rfl!)
theorem xR   (g:(cx w).G h):h.get? 148=some (Kv w.params):=g.YG _ _ (by kernel_rfl!)
theorem bx   (g:(cx w).G h):h.get? 147=some (GK w.params):=g.YG _ _ (by kernel_rfl!)
def Ug(P:Zy1):ZxI:=XH (Kv P)
theorem CJ(w:Zyh):YO (cx w) 148 (Ug w.params) (fB (fc 13 2)):=
 Xo (c:=147) (o:=Kv w.params) (oc:=GK w.params) (vs:=XT (GK w.params)) (t:=2428) (λh g=>xR g) (by kernel_rfl!) (λh g=>bx g) (by kernel_rfl!) (by kernel_rfl!) (by kernel_rfl!) (by kernel_rfl!) (by kernel_rfl!)
theorem xS   (g:(cx w).G h):h.get? 189=some (Kw w.params):=g.YG _ _ (by kernel_rfl!)
theorem cO   (g:(cx w).G h):h.get? 188=some (GJ w.params):=g.YG _ _ (by kernel_rfl!)
def UP(P:Zy1):ZxI:=XH (Kw P)
theorem AG(w:Zyh):YO (cx w) 189 (UP w.params) (fB (fc 13 8)):=
 Xo (c:=188) (o:=Kw w.params) (oc:=GJ w.params) (vs:=XT (GJ w.params)) (t:=2474) (λh g=>xS g) (by kernel_rfl!) (λh g=>cO g) (by kernel_rfl!) (by kernel_rfl!) (by kernel_rfl!) (by kernel_rfl!) (by kernel_rfl!)
theorem xT   (g:(cx w).G h):h.get? 206=some (Kx w.params):=g.YG _ _ (by kernel_rfl!)
theorem cP   (g:(cx w).G h):h.get? 205=some (GQ w.params):=g.YG _ _ (by kernel_rfl!)
def Ui(P:Zy1):ZxI:=XH (Kx P)
theorem CQ(w:Zyh):YO (cx w) 206 (Ui w.params) (fB (fc 13 11)):=
 Xo (c:=205) (o:=Kx w.params) (oc:=GQ w.params) (vs:=XT (GQ w.params)) (t:=2497) (λh g=>xT g) (by kernel_rfl!) (λh g=>cP g) (by kernel_rfl!) (by kernel_rfl!) (by kernel_rfl!) (by kernel_rfl!) (by kernel_rfl!)
theorem xH   (g:(cx w).G h):h.get? 232=some (Ky w.params):=g.YG _ _ (by kernel_rfl!)
theorem cR   (g:(cx w).G h):h.get? 231=some (GU w.params):=g.YG _ _ (by kernel_rfl!)
def W8(P:Zy1):ZxI:=XH (Ky P)
theorem KO(w:Zyh):YO (cx w) 232 (W8 w.params) (fB (fc 13 15)):=
 Xo (c:=231) (o:=Ky w.params) (oc:=GU w.params) (vs:=XT (GU w.params)) (t:=2524) (λh g=>xH g) (by kernel_rfl!) (λh g=>cR g) (by kernel_rfl!) (by kernel_rfl!) (by kernel_rfl!) (by kernel_rfl!) (by kernel_rfl!)
theorem xM   (g:(cx w).G h):h.get? 253=some (Kz w.params):=g.YG _ _ (by kernel_rfl!)
theorem cS   (g:(cx w).G h):h.get? 252=some (GV w.params):=g.YG _ _ (by kernel_rfl!)
def UW(P:Zy1):ZxI:=XH (Kz P)
theorem BU(w:Zyh):YO (cx w) 253 (UW w.params) (fB (fd 15)):=
 Xo (c:=252) (o:=Kz w.params) (oc:=GV w.params) (vs:=XT (GV w.params)) (t:=2555) (λh g=>xM g) (by kernel_rfl!) (λh g=>cS g) (by kernel_rfl!) (by kernel_rfl!) (by kernel_rfl!) (by kernel_rfl!) (by kernel_rfl!)
theorem B9(w:Zyh):WG (cx w) 253:=Ux (o:=Kz w.params) (fd:=UW w.params) (λh g=>xM g) (by kernel_rfl!)
theorem xN   (g:(cx w).G h):h.get? 260=some (JO w.params):=g.YG _ _ (by kernel_rfl!)
theorem cH   (g:(cx w).G h):h.get? 259=some (GW w.params):=g.YG _ _ (by kernel_rfl!)
def UR(P:Zy1):ZxI:=XH (JO P)
theorem AK(w:Zyh):YO (cx w) 260 (UR w.params) (fB (fd 16)):=
 Xo (c:=259) (o:=JO w.params) (oc:=GW w.params) (vs:=XT (GW w.params)) (t:=2563) (λh g=>xN g) (by kernel_rfl!) (λh g=>cH g) (by kernel_rfl!) (by kernel_rfl!) (by kernel_rfl!) (by kernel_rfl!) (by kernel_rfl!)
theorem AX(w:Zyh):WG (cx w) 260:=Ux (o:=JO w.params) (fd:=UR w.params) (λh g=>xN g) (by kernel_rfl!)
theorem xA   (g:(cx w).G h):h.get? 267=some (JP w.params):=g.YG _ _ (by kernel_rfl!)
theorem cL   (g:(cx w).G h):h.get? 266=some (GX w.params):=g.YG _ _ (by kernel_rfl!)
def Jz(P:Zy1):ZxI:=XH (JP P)
theorem Lb(w:Zyh):YO (cx w) 267 (Jz w.params) (fB (fd 17)):=
 Xo (c:=266) (o:=JP w.params) (oc:=GX w.params) (vs:=XT (GX w.params)) (t:=2582) (λh g=>xA g) (by kernel_rfl!) (λh g=>cL g) (by kernel_rfl!) (by kernel_rfl!) (by kernel_rfl!) (by kernel_rfl!) (by kernel_rfl!)
theorem Lk(w:Zyh):WG (cx w) 267:=Ux (o:=JP w.params) (fd:=Jz w.params) (λh g=>xA g) (by kernel_rfl!)
theorem xB   (g:(cx w).G h):h.get? 274=some (JE w.params):=g.YG _ _ (by kernel_rfl!)
theorem cM   (g:(cx w).G h):h.get? 273=some (GY w.params):=g.YG _ _ (by kernel_rfl!)
def Jy(P:Zy1):ZxI:=XH (JE P)
theorem La(w:Zyh):YO (cx w) 274 (Jy w.params) (fB (fd 18)):=
 Xo (c:=273) (o:=JE w.params) (oc:=GY w.params) (vs:=XT (GY w.params)) (t:=2591) (λh g=>xB g) (by kernel_rfl!) (λh g=>cM g) (by kernel_rfl!) (by kernel_rfl!) (by kernel_rfl!) (by kernel_rfl!) (by kernel_rfl!)
theorem Li(w:Zyh):WG (cx w) 274:=Ux (o:=JE w.params) (fd:=Jy w.params) (λh g=>xB g) (by kernel_rfl!)
theorem xC   (g:(cx w).G h):h.get? 279=some (JR w.params):=g.YG _ _ (by kernel_rfl!)
theorem cN   (g:(cx w).G h):h.get? 278=some (GZ w.params):=g.YG _ _ (by kernel_rfl!)
def QO(P:Zy1):ZxI:=XH (JR P)
theorem Lc(w:Zyh):YO (cx w) 279 (QO w.params) (fB (fd 19)):=
 Xo (c:=278) (o:=JR w.params) (oc:=GZ w.params) (vs:=XT (GZ w.params)) (t:=2611) (λh g=>xC g) (by kernel_rfl!) (λh g=>cN g) (by kernel_rfl!) (by kernel_rfl!) (by kernel_rfl!) (by kernel_rfl!) (by kernel_rfl!)
theorem Lj(w:Zyh):WG (cx w) 279:=Ux (o:=JR w.params) (fd:=QO w.params) (λh g=>xC g) (by kernel_rfl!)
theorem xD   (g:(cx w).G h):h.get? 284=some (JS w.params):=g.YG _ _ (by kernel_rfl!)
theorem cA   (g:(cx w).G h):h.get? 283=some (G9 w.params):=g.YG _ _ (by kernel_rfl!)
def Sw(P:Zy1):ZxI:=XH (JS P)
theorem cY(w:Zyh):YO (cx w) 284 (Sw w.params) (fB (fd 20)):=
 Xo (c:=283) (o:=JS w.params) (oc:=G9 w.params) (vs:=XT (G9 w.params)) (t:=2617) (λh g=>xD g) (by kernel_rfl!) (λh g=>cA g) (by kernel_rfl!) (by kernel_rfl!) (by kernel_rfl!) (by kernel_rfl!) (by kernel_rfl!)
theorem dE(w:Zyh):WG (cx w) 284:=Ux (o:=JS w.params) (fd:=Sw w.params) (λh g=>xD g) (by kernel_rfl!)
theorem zU(w:Zyh):(cx w).mg "b1_set"=some (.ref 46):=by kernel_rfl!
theorem AQ(w:Zyh):(cx w).mg "in_table_b1"=some (.ref 56):=by kernel_rfl!
theorem CU(w:Zyh):(cx w).mg "b3_exceptions"=some (.ref 57):=by kernel_rfl!
theorem BW(w:Zyh):(cx w).mg "map_table_b3"=some (.ref 102):=by kernel_rfl!
theorem Fi(w:Zyh):(cx w).mg "ELLIPSIS_MARKER"=some (.str (S "...") 2319):=by kernel_rfl!
theorem Ga(w:Zyh):(cx w).mg "_ellipsis_match"=some (.ref 109):=by kernel_rfl!
theorem JK(w:Zyh):(cx w).mg "_name_disallowed_re"=some (.ref 114):=by kernel_rfl!
theorem Jw(w:Zyh):(cx w).mg "_value_disallowed_re"=some (.ref 119):=by kernel_rfl!
theorem EE(w:Zyh):(cx w).mg "Headers"=some (.ref 242):=by kernel_rfl!
theorem BX(w:Zyh):(cx w).mg "_law_letter"=some (.ref 253):=by kernel_rfl!
theorem AU(w:Zyh):(cx w).mg "_law_label"=some (.ref 260):=by kernel_rfl!
theorem Lf(w:Zyh):(cx w).mg "_law_over"=some (.ref 267):=by kernel_rfl!
theorem Ld(w:Zyh):(cx w).mg "_law_hunt"=some (.ref 274):=by kernel_rfl!
theorem Lg(w:Zyh):(cx w).mg "_law_ways"=some (.ref 279):=by kernel_rfl!
theorem ct(w:Zyh):(cx w).mg "law"=some (.ref 284):=by kernel_rfl!
end Mine.Internal.Uh
end
section
open PySem PySem.W PyProof.Rows
open Sem (wp)
namespace Mine.Internal
section
variable {C:Cx}{k:Nat}{U:Zx}{s s' s₁:Zym}{h h':Zyp}{env:Env}
theorem Ev.inSet        (hf:Zp env)(he:Ev C k env U e (.int i))(hx:N8 C env x (.ref a))
 (hS:∀h,C.G h->h.SetOf (intKind C.prog C.w) a S n) (hm:Zxx .In (.Name x p)=false) (hd:(x==("__debug__":Str))=false:=by decide):Ev C k env U (.Compare e [.In] [.Name x p] pos) (.bool (S i)):=λA s Q E P hr hg hh hb q=>by
 refine wpAny_Compare1 (he A s _ _ P hr hg hh hb λv s₁ k₁ r₁=>?_) hm
 have x₁:=Zw k₁
 obtain⟨t,rfl⟩:=Zf.mp r₁
 refine JN hf hx (C.ext hg x₁) ?_ hd
 refine wpAny_inSet_of (knd:=intKind C.prog C.w) (k:=i) (by simp [intKind,Value.isInt]) rfl (hS _ (C.ext hg x₁)) ?_
 exact q _ _ (Zu k₁ (ZU _ _)) (Zr.mpr rfl)
theorem Ev.dictGet        (hf:Zp env)(he:Ev C k env U e (.int i))(hx:N8 C env x (.ref a))(ha:(a==sysModules)=false)
 (hS:∀h,C.G h->h.MapOf (intKind C.prog C.w) a f) (hv:∀P h,Rep P h d ((f i).getD .none)) (Fd:Zxn [e] env=[(false,eval e env)])
 (YJ:attributeBase (.Name x p) "get" env (eval (.Name x p) env)=eval (.Name x p) env) (ZC:(apos.endLine==pos.line)=true)
 (hd:(x==("__debug__":Str))=false:=by decide):Ev C k env U (.Call (.Attribute (.Name x p) "get" apos) [e] [] pos) d:=λA s Q E P hr hg hh hb q=>by
 refine wpAny_Call_method (T:="dict") (id:="dict.get") YJ ?_ ZC F.plainAttrs_dict F.slot_dict_get F.type_dict_get ?_
 ·rw[Fd];rfl
 ·refine JN hf hx hg ?_ hd
  have hm:=hS _ hg
  refine⟨hm.typeIs,hm.noDict,?_⟩
  ·rw[Fd]
   show wpAny C.M A (callWith pos (.builtin "dict.get") [.ref a] [(false,eval e env)] []) Q E s
   refine wpAny_dict_get1 (knd:=intKind C.prog C.w) ha ?_
   refine he A s _ _ P hr hg hh hb λv s₁ k₁ r₁=>?_
   obtain⟨t,rfl⟩:=Zf.mp r₁
   exact⟨i,f,by simp [intKind,Value.isInt],hS _ (C.ext hg (Zw k₁)),q _ _ (Zu k₁ (ZU _ _)) (hv _ _)⟩
end
end Mine.Internal
end
section
open PySem PySem.W PyProof.Rows
namespace Mine.Internal
structure YY(C:Cx)(name:Str)(sc:Zy6)(body:List ZyF)(xs:List Str):Prop where
 ex:∃f fd,C.mg name=some (.ref f)/\WG C f/\YO C f fd body/\fd.scope=sc/\∀s vals,vals.length=xs.length->ZxL s fd ⟨vals,[]⟩ (xs.zip vals)
noncomputable def AS:Z9->Option PV
 |.ret d=>some d
 |.Z4=>some .none
 |.brk=>none
 |.cnt=>none
def JH(T:St)(n:Nat)(sc:Zy6)(body:List ZyF)(xs:List Str)(as:List AV):Option PV:=
 if as.length=xs.length then (Xm T n sc (Zi (λ_=>none) xs (as.map AV.pv)) body).bind λp=>AS p.1 else none
theorem O0   (h:AS a=some d):a=.ret d∨(a=.Z4/\d=.none):=by
 cases a with
 |ret _=>cases h;exact .inl rfl
 |Z4=>cases h;exact .inr ⟨rfl,rfl⟩
 |_=>exact nS h
def X0(sc:Zy6)(xs:List Str):Bool:=xs.all λx=>sc.names.lookup x==some .local||(ZY sc.names).contains x
theorem VK   (h:X0 sc xs=true):∀x∈xs,sc.names.lookup x=some .local∨x∈ZY sc.names:=λx hx=>((Zwy _ _).mp (ZyV.mp h x hx)).imp eq_of_beq ZwQ.mp
theorem G6.s   (h:G6 F fd):XM F:=⟨h.Z6,by rw[h.cs,h.scope],trivial⟩
theorem ZM.own           (H:X9 C k T.sg)(BC:∀F:Y7,F.env.scope=sc->XM F->NF C k T F)
 (D:YY C name sc body xs) (hx:X0 sc xs=true) (h:JH T n sc body xs as=some d):∃f,C.mg name=some (.ref f)/\WG C f/\ZM C (k+1) (.ref f) as d:=by
 obtain⟨f,fd,h1,h2,h3,h4,h5⟩:=D.ex
 refine⟨f,h1,h2,?_⟩
 refine Zl h λhl h=>Zj h λp e h=>?_
 exact ZM.NH h3 (h4 ▸ VK hx) hl.symm (λs vals _ hv=>h5 s vals hv) (O0 h) λF hF=>(QM H hF.s (BC F (hF.scope.trans h4) hF.s) n).2 _ _ _ _ (by rw[hF.scope,h4];exact e)
def Xs(C:Cx)(k₀:Nat)(S:Sg):Prop:=∀k,k₀<=k->X9 C k S
def Sg.add(S:Sg)(name:Str)(g:List AV->Option PV):Sg:=⟨λx as=>if x==name then g as else S.cl x as,S.mt,S.gv,S.xe⟩
theorem Xs.call      (H:Xs C k₀ S)(hg:∀k as d,k₀<=k->g as=some d->∃f,C.mg name=some (.ref f)/\WG C f/\ZM C (k+1) (.ref f) as d):Xs C (k₀+1) (S.add name g):=λk hk=>by
 have K:=H k (by lia)
 refine⟨λx as d h env U p pos args hf BL ha hd hl=>?_,K.mt,K.gv,K.xe,K.bi,K.list,K.range,K.zip⟩
 unfold Sg.add at h
 dsimp only at h
 split at h
 ·rename_i e
  have e:=beq_iff_eq.mp e
  subst e
  obtain⟨k',rfl⟩:∃k',k=k'+1:=⟨k-1,by lia⟩
  obtain⟨f,h1,h2,h3⟩:=hg k' as d (by lia) h
  exact Ev.cV hf ⟨h1,BL⟩ h2 ha h3 hd
 ·exact K.cl x as d h env U p pos args hf BL ha hd hl
theorem Xs.own         (H:Xs C k₀ T.sg)(BC:∀k F,k₀<=k->F.env.scope=sc->XM F->NF C k T F)
 (D:YY C name sc body xs) (hx:X0 sc xs=true):Xs C (k₀+1) (T.sg.add name (JH T n sc body xs)):=
 H.call λk as d hk h=>ZM.own (H k hk) (λF e f=>BC k F hk e f) D hx h
theorem J6(C:Cx)(k:Nat)(F:Y7)  (h:T.sp=λ_ _=>none):NF C k T F:=λU st af σ' e=>by rw[h] at e;cases e
theorem Xs.base  (B:Md C)  (qN:∀x d,gv x=some d->∃v,C.mg x=some v/\∀P h,Rep P h d v)(oQ:∀x,x=("list":Str)∨x=("range":Str)∨x=("zip":Str)->C.mg x=none)
 (h1:C.mb "list"=some (.type "list")) (h2:C.mb "range"=some (.type "range")) (h3:C.mb "zip"=some (.type "zip")):Xs C 0 ⟨I1,Xx,gv,λ_ _ _=>none⟩:=λk _=>
 ⟨λx as d h env U p pos args hf hk ha hd hl=>fU B h hf hk ha hd,λname a as d h env U o apos pos args ho ha hb hl hn=>iU hb hl hn h ho ha,qN,λenv U e a hf h=>(by cases h),oQ,h1,h2,h3⟩
section
variable {C:Cx}{k:Nat}
theorem YY.xI        (D:YY C name sc body xs)(hx:X0 sc xs=true)(hl:as.length=xs.length)
 (hex:∀F:Y7,F.env.scope=sc->XM F->Ex C k F (Zi (λ_=>none) xs (as.map AV.pv)) (execs body F.env) (.ret d) σ'):∃f,C.mg name=some (.ref f)/\WG C f/\ZM C (k+1) (.ref f) as d:=
 D.ex.elim λf t=>t.elim λfd t=>⟨f,t.1,t.2.1,ZM.NH t.2.2.1 (t.2.2.2.1 ▸ VK hx) hl.symm (λs vals _ hv=>t.2.2.2.2 s vals hv) (.inl rfl) λF hF=>hex F (hF.scope.trans t.2.2.2.1) hF.s⟩
theorem L6  (H:X9 C k S)
 (D:YY C name sc [.Return (some (.Compare e [.In] [.Name x p] pos)) ZzZ] xs) (hx:X0 sc xs=true) (hl:as.length=xs.length) (he:ev S n sc (Zi (λ_=>none) xs (as.map AV.pv)) e=some (.val (.int i)))
 (Rp:C.mg x=some (.ref a)) (hk:sc.names.lookup x=some .globalImplicit) (hd:(x==("__debug__":Str))=false) (hm:Zxx .In (.Name x p)=false) (hS:∀h,C.G h->h.SetOf (intKind C.prog C.w) a f m):
 ∃g,C.mg name=some (.ref g)/\WG C g/\ZM C (k+1) (.ref g) as (.bool (f i)):=
 D.xI hx hl (σ':=Zi (λ_=>none) xs (as.map AV.pv)) λF hs hF=>Ex.stop (Ex.K9 (Ev.inSet hF.Z6 (Z1.ev ((sound H n).ev _ _ _ _ hF.Z6 (by rw[hs];exact he)) rfl) ⟨Rp,by unfold Zj1;rw[hs];exact hk⟩ hS hm hd) rfl) (by intro e;cases e)
theorem AM  (H:X9 C k T.sg)(hT:T.sp=λ_ _=>none)
 (D:YY C name sc (.Assign [.Name r rp] (.Call (.Attribute (.Name x p) "get" apos) [e] [] Yj) pos::rest) xs) (hx:X0 sc xs=true) (hl:as.length=xs.length)
 (he:ev T.sg n sc (Zi (λ_=>none) xs (as.map AV.pv)) e=some (.val (.int i))) (hr:YW sc r=true)
 (Rp:C.mg x=some (.ref a)) (ha:(a==sysModules)=false) (hk:sc.names.lookup x=some .globalImplicit) (hd:(x==("__debug__":Str))=false) (ZC:(apos.endLine==Yj.line)=true) (Y6:notStar e=true) (Tb:V4 (.Name x p)=true)
 (hS:∀h,C.G h->h.MapOf (intKind C.prog C.w) a f) (hv:∀P h,Rep P h dv ((f i).getD .none)) (Qk:Xm T n sc ((Zi (λ_=>none) xs (as.map AV.pv)).set r (.val dv)) rest=some (.ret d,σ')):
 ∃g,C.mg name=some (.ref g)/\WG C g/\ZM C (k+1) (.ref g) as d:=
 D.xI hx hl (σ':=σ') λF hs hF=>by
  have qS:=Z1.ev ((sound H n).ev _ _ _ _ hF.Z6 (by rw[hs];exact he)) rfl
  refine Ex.cons (Ex.assign hF.Z6 (Wz hF (by rw[hs];exact hr)) (Ev.dictGet hF.Z6 qS ⟨Rp,by unfold Zj1;rw[hs];exact hk⟩ ha hS hv ?_ rfl ZC hd) ?_) ((QM H hF (J6 C k F hT) n).2 _ _ _ _ (by rw[hs];exact Qk))
  ·cases e<;>first |rfl |(cases Y6)
  ·rfl
end
end Mine.Internal
end
section
open PySem PySem.W PyProof.Rows
open Sem (wp)
namespace Mine.Internal
structure Uz(C:Cx)(c N:Zya)(mN:Str->Option Zyd)(k2 k3:Option Zyd):Prop where
 obj:∀h,C.G h->h.get? c=some (excClassObj "Headers" "Headers" c N [.type "object"] [.type "object"] true [] [] false none none none none k2 k3 (some (.bool true)) "object.__new__")
 ns:∀h,C.G h->h.Ns N mN
 ga:mN "__getattribute__"=none
 gh:mN "__getattr__"=none
 sa:mN "__setattr__"=none
 hd:mN "_headers"=none
noncomputable def Sy(b:Zya):Str->Option Zyd:=λy=>if y=("_headers":Str) then some (.ref b) else none
theorem TabAt.RT    (T:TabAt h c x d b vs):h.Inst x c (Sy b):=by
 refine⟨_,T.inst,rfl,(λc e=>nomatch e),.inr ⟨d,rfl,?_,T.ns⟩⟩
 intro e
 subst e
 obtain⟨o,es,ep,h1,h2,_⟩:=T.ns
 rw[T.inst] at h1
 cases h1
 cases h2
section
variable {C:Cx}{k:Nat}{U:Zx}{s s' s₁:Zym}{h h':Zyp}{env:Env}{A:Zxd}{E:Zyd->Zym->Prop}
variable {c N:Zya}{mN:Str->Option Zyd}{k2 k3:Option Zyd}
theorem C2:typeLookup (.type "object") "_headers"=pure none:=by rw[Zx8,Zxw];kernel_rfl
theorem Ib(H:Uz C c N mN k2 k3)    (YJ:attributeBase o "_headers" env (eval o env)=eval o env)
 (h:wpAny C.M A (eval o env) (λov s₁=>∃x d b vs,ov=.ref x/\TabAt s₁.heap c x d b vs/\C.G s₁.heap/\Q (.ref b) { s₁ with toks:=s₁.toks+1 }) E s):
 wpAny C.M A (eval (.Attribute o "_headers" pos) env) Q E s:=by
 rw[arm_eval_Attribute,YJ]
 refine Zyf (ZyB h (λov s₁ h₁=>?_) λ_ _ e=>e)
 obtain⟨x,d,b,vs,rfl,T,hg,q⟩:=h₁
 refine Zyf (Zx3 (Zyf (ZyP ?_)))
 obtain⟨hh,g,dr,t,os⟩:=s₁
 exact load_attr (H.obj _ hg) (H.ns _ hg) H.ga H.hd C2 T.RT (by simp [Sy]) rfl (Zyf (wpAny_letTemporaryGo (Zys q)))
theorem Uk(H:Uz C c N mN k2 k3)
 (YJ:attributeBase o name env (eval o env)=eval o env)
 (tU:methodCallForm (args.length+LY.length) (backTo pos (Zxn args env)) (backToKw pos (keywordEach LY env))=true)
 (ZC:(apos.endLine==pos.line)=true) (hf:mN name=some (.ref f)) (o5:∀h,C.G h->h.get? f=some of) (LU:of.cls=.type "function") (XA:name≠("_headers":Str))
 (hB:typeLookup (.type "object") name=pure y)
 (h:wpAny C.M A (eval o env) (λov s₁=>∃x d b vs,ov=.ref x/\TabAt s₁.heap c x d b vs/\C.G s₁.heap/\
  wpAny C.M A (callWith pos (.ref f) [.ref x] (backTo pos (Zxn args env)) (backToKw pos (keywordEach LY env))) Q E s₁) E s):
 wpAny C.M A (eval (.Call (.Attribute o name apos) args LY pos) env) Q E s:=by
 rw[arm_eval_Call,YJ]
 refine Zyf (ZyB h (λov s₁ h₁=>?_) λ_ _ e=>e)
 obtain⟨x,d,b,vs,rfl,T,hg,q⟩:=h₁
 refine Zyf (Zx3 ?_)
 have CH:methodCallPos true o env apos pos=pure pos:=by unfold methodCallPos;simp [ZC]
 unfold methodCall
 rw[tU]
 refine Zyf (ZyP ?_)
 obtain⟨hh,g,dr,t,os⟩:=s₁
 refine method_of (H.obj _ hg) (H.ns _ hg) H.ga H.gh hf (o5 _ hg) LU hB T.RT (by simp [Sy,XA]) ?_
 exact Zyf (wpAny_of_eq CH q)
theorem Ev.headers(H:Uz C c N mN k2 k3)    (hf:Zp env)(hx:U x=some (.val (.box (Z8 c) [] l)))(hn:Y0 x=true):Ev C k env U (.Attribute (.Name x p) "_headers" pos) (.lst l):=λA s Q E P hr hg hh hb q=>by
 refine Ib H rfl ((Z1.name hf hx (Yz hn).1 (Yz hn).2) A s _ _ P hr hg hh hb λv s₁ k₁ r₁=>?_)
 refine Ca r₁ λvs x' d b e px pd pb T ra=>?_
 subst e
 refine⟨x',d,b,vs,rfl,T,C.ext hg (Zw k₁),q _ _ (Zu k₁ (ZU _ _)) ?_⟩
 obtain⟨ws,n,e,rfl⟩:=T.list
 exact ZP.mpr ⟨b,ws,n,rfl,pb,e,ra⟩
end
section
variable {C:Cx}{k:Nat}{F:Y7}{U σ':Zx}{s s' s₁:Zym}{h h':Zyp}{env:Env}{af:Z9}
def Jn(C:Cx)(k:Nat)(f:Zyd)(as:List AV)(ks:List (Str × Zyd))(d:PV):Prop:=
 ∀A s Q E P vs,Yw k A->C.G s.heap->XF P s.heap as vs->ZD P s.heap->(∀v s',ZyA s s'->Rep P s'.heap d v->Q v s')->wpAny C.M A (call f vs ks) Q E s
theorem Jn.nil    (h:Jn C k f as [] d):ZM C k f as d:=h
theorem Jn.NH          (D:YO C f fd body)
 (hx:∀x∈xs,fd.scope.names.lookup x=some .local∨x∈ZY fd.scope.names) (hl:xs.length=as.length+DG.length) (PQ:∀P h,Zy P h DG ex)
 (K3:∀s vals,C.G s.heap->vals.length=as.length->ZxL s fd ⟨vals,ks⟩ (xs.zip (vals++ex))) (DK:af=.ret d∨(af=.Z4/\d=.none))
 (hex:∀F,G6 F fd->Ex C k F (Zi (λ_=>none) xs (as.map AV.pv++DG)) (execs body F.env) af σ'):Jn C (k+1) (.ref f) as ks d:=λA s Q E P vs hr hg r hb q=>
 D.gives hx (hl.trans (by rw[Zyn,Zyl])) hr hg hb (r.Nb.append (PQ _ _)) (K3 s vs hg (r.Nb.length.trans (Zyl _))) DK (λF FF=>⟨σ',hex F FF⟩) q
structure Xw(C:Cx)(mN:Str->Option Zyd)(name:Str)(f:Zya):Prop where
 is:mN name=some (.ref f)
 fn:∃of fd,(∀h,C.G h->h.get? f=some of)/\of.cls=.type "function"/\of.data=.func fd
 no:∃y,typeLookup (.type "object") name=pure y
 ne:name≠("_headers":Str)
variable {c N:Zya}{mN:Str->Option Zyd}{k2 k3:Option Zyd}
theorem Ev.MU(H:Uz C c N mN k2 k3)  {name:Str}       (ho:Ev C k env U o (.box (Z8 c) [] l))(hm:Xw C mN name f)
 (ha:ZW C k env U args as) (hc:ZM C k (.ref f) (.val (.box (Z8 c) [] l)::as) d) (YJ:attributeBase o name env (eval o env)=eval o env) (ZC:(apos.endLine==pos.line)=true) (hl:args.length<29):
 Ev C k env U (.Call (.Attribute o name apos) args [] pos) d:=λA s Q E P hr hg hh hb q=>by
 obtain⟨of,fd,e1,e2,e3⟩:=hm.fn
 obtain⟨y,hB⟩:=hm.no
 refine Uk H YJ (ha.few hl) ZC hm.is e1 e2 hm.ne hB (ho A s _ _ P hr hg hh hb λv s₁ k₁ r₁=>?_)
 have x₁:=Zw k₁
 refine Ca r₁ λvs x' d' b e' px pd pb T ra=>?_
 subst e'
 refine⟨x',d',b,vs,rfl,T,C.ext hg x₁,?_⟩
 refine ZvU (o:=of) (fd:=fd) (ha.args hr (C.ext hg x₁) (hh.ext x₁) (hb.ext x₁) λvs s₂ k₂ r₂=>?_)
 have x₂:=Zw k₂
 refine⟨⟨e1 _ (C.ext (C.ext hg x₁) x₂),e3⟩,?_⟩
 exact hc A s₂ _ _ P (_::vs) hr (C.ext (C.ext hg x₁) x₂) ⟨_,vs,rfl,r₁.ext x₂,r₂⟩ ((hb.ext x₁).ext x₂) λv' s' k' r'=>q v' s' (Zu (Zu k₁ k₂) k') r'
theorem Ev.Am(H:Uz C c N mN k2 k3)  {name kw:Str}         (ho:Ev C k env U o (.box (Z8 c) [] l))(hm:Xw C mN name f)
 (ha:Z1 C k env U e a) (Fd:Zxn [e] env=[(false,eval e env)]) (DJ:∃u v,bc=.Constant (.bool b) u v) (hc:Jn C k (.ref f) [.val (.box (Z8 c) [] l),a] [(kw,.bool b)] d)
 (YJ:attributeBase o name env (eval o env)=eval o env) (ZC:(apos.endLine==pos.line)=true):
 Ev C k env U (.Call (.Attribute o name apos) [e] [⟨some kw,bc,kp⟩] pos) d:=λA s Q E P hr hg hh hb q=>by
 obtain⟨of,fd,e1,e2,e3⟩:=hm.fn
 obtain⟨y,hB⟩:=hm.no
 obtain⟨u,v,rfl⟩:=DJ
 refine Uk H YJ (by rw[Fd];rfl) ZC hm.is e1 e2 hm.ne hB (ho A s _ _ P hr hg hh hb λv s₁ k₁ r₁=>?_)
 have x₁:=Zw k₁
 refine Ca r₁ λvs x' d' b' e' px pd pb T ra=>?_
 subst e'
 refine⟨x',d',b',vs,rfl,T,C.ext hg x₁,?_⟩
 show wpAny C.M A (callWith pos (.ref f) [.ref x'] (backTo pos (Zxn [e] env)) [(some kw,do let w <-eval (.Constant (.bool b) u v) env;standAt pos;pure w)]) Q E s₁
 have Ii:backTo pos (Zxn [e] env)=[(false,eval e env)]:=by rw[Fd];rfl
 rw[Ii]
 refine callWith_function_kw (o:=of) (fd:=fd) (evalArgs_kw (x:=eval e env) (rest:=[]) (by rfl) ?_)
 rw[<-Ii]
 refine ZW.spliced (ZW.cons ha ZW.nil (by rw[Fd];rfl):ZW C k env U [e] [a]) hr (C.ext hg x₁) (hh.ext x₁) (hb.ext x₁) λvs s₂ k₂ r₂=>?_
 have x₂:=Zw k₂
 refine wpAny_evalAll_cons ?_
 refine Zyf (Ev.bool A s₂ _ _ P hr (C.ext (C.ext hg x₁) x₂) ((hh.ext x₁).ext x₂) ((hb.ext x₁).ext x₂) λw s₃ k₃ r₃=>?_)
 have x₃:=Zw k₃
 refine Zyf (Zx3 (Zys (wpAny_evalAll_nil ?_)))
 rw[Zr.mp r₃]
 have g₃:=C.ext (C.ext (C.ext hg x₁) x₂) x₃
 refine⟨⟨e1 _ g₃,e3⟩,?_⟩
 exact hc A s₃ _ _ P (_::vs) hr g₃ ⟨_,vs,rfl,(r₁.ext x₂).ext x₃,r₂.ext x₃⟩ (((hb.ext x₁).ext x₂).ext x₃) λv' s' k' r'=>q v' s' (Zu (Zu (Zu k₁ k₂) k₃) k') r'
end
open PySem.Sre
def good(c:Nat):Prop:=32<=c/\c≠127
noncomputable def Sk:Array Nat:=#[14,10,4,1,1,22,0,31,16,127,0,13,7,22,0,31,16,127,0,1]
noncomputable def DO:Array Nat:=#[14,14,4,1,1,9,4294966783,0,0,2147483648,0,0,0,0,0,13,11,9,4294966783,0,0,2147483648,0,0,0,0,0,1]
theorem gV  (h:good c)(seen:Sre.Seen):∃s',inSet Sk c 20 5 true seen=.ok (false,s'):=
 have n1:¬(decide (0<=c)&&decide (c<=31))=true:=λe=>absurd (of_decide_eq_true (Yk e).2) (Zjo.mpr h.1)
 have n2:¬(c==127)=true:=λe=>h.2 (eq_of_beq e)
 ⟨_,(if_neg n1).trans ((if_neg n2).trans rfl)⟩
theorem wF(c:Nat)(hc:c<256):32<=c->c≠127->(DO.getD (5+(1+c/32)) 0).testBit (c%32)=false:=by
 revert c
 decide +kernel
theorem gX  (h:good c)(seen:Sre.Seen):∃s',inSet DO c 28 5 true seen=.ok (false,s'):=
 have n1:¬(decide (c<256)&&(DO.getD (5+(1+c/32)) 0).testBit (c%32))=true:=λe=>ZyG ((wF c (of_decide_eq_true (Yk e).1) h.1 h.2).symm.trans (Yk e).2)
 ⟨_,(if_neg n1).trans rfl⟩
theorem It  (FD:∀c seen,good c->∃s',inSet m.code c m.code.size 5 true seen=.ok (false,s'))(ht:∀c∈m.text.toList,good c)(PX:m.lim<=m.text.size):
 ∀(fuel s:Nat) (seen:Sre.Seen),∃s',M.admitted m fuel s seen=.ok (none,s')
 |0,s,seen=>⟨_,rfl⟩
 | fuel+1,s,seen=>by
   by_cases h:s>=m.lim
   ·exact⟨_,if_pos h⟩
   ·have hs:s<m.text.size:=ZxM (Zjo.mp h) PX
    have e0:m.text.getD s 0=m.text[s]:=dif_pos hs
    obtain⟨s',e⟩:=FD (m.text.getD s 0) seen (ht _ (e0 ▸ Array.getElem_mem_toList hs))
    refine (It FD ht PX fuel (s+1) s').imp λs2 e2=>(if_neg h).trans ?_
    rw[e]
    exact e2
theorem Lv{code text:Array Nat}(xX:code=Sk∨code=DO)(ht:∀c∈text.toList,good c):∃m,(forSearch code text 0 0 text.size false).runFor 4=m/\m.outcome=some .failed:=by
 have fin:∀(m:M),m.outcome=none->m.frames=[]->((m.say false).runFor 4).outcome=some .failed:=by
  intro m h1 h2
  cases m
  dsimp only at h1 h2
  subst h1 h2
  rfl
 have FD:∀c seen,good c->∃s',inSet code c code.size 5 true seen=.ok (false,s'):=by
  intro c seen hc
  rcases xX with rfl |rfl
  ·exact gV hc seen
  ·exact gX hc seen
 refine⟨_,rfl,?_⟩
 unfold forSearch
 dsimp only
 split
 ·exact fin _ rfl rfl
 ·unfold M.attemptFrom
  rename_i PX
  have key:∀m:M,m.outcome=none->m.frames=[]->m.code=code->m.text=text->m.lim=text.size->
   ((if (!m.hasFirstSet)=true then m.attemptAt 0 true else match M.admitted m (m.lim+1-0) 0 m.seen with
     |.ok (some s,seen)=>{ m with mustAdvance:=false,seen }.attemptAt s true
     |.ok (none,seen)=>{ m with seen }.say false
     |.error why=>m.stick why).runFor 4).outcome=some .failed:=by
   intro m h1 h2 h3 h4 h5
   have hf:m.hasFirstSet=true:=by
    unfold M.hasFirstSet
    rw[h3]
    rcases xX with rfl |rfl<;>rfl
   rw[hf,if_neg (by simp)]
   obtain⟨s',e⟩:=It (m:=m) (by rw[h3];exact FD) (by rw[h4];exact ht) (by rw[h4,h5];exact Zy7 _) (m.lim+1-0) 0 m.seen
   rw[e]
   exact fin _ h1 h2
  exact key _ rfl rfl rfl rfl rfl
theorem B4:PlainAttrs "re.Pattern":=
 ⟨⟨"object.__getattribute__",by rw[Zx8,Zxw];kernel_rfl,by decide +kernel⟩,by rw[Zx8,Zxw];kernel_rfl⟩
theorem J4:Slot "re.Pattern" "search" "re.Pattern.search":=
 .of (owner:="re.Pattern") (n:="search") (by rw[Zx8,Zxw];kernel_rfl) (by decide +kernel) (by decide +kernel) (by decide +kernel)
  (by first |exact .inl (by decide +kernel) |exact .inr (by decide +kernel)) (by rw[isSubtype_type];kernel_rfl)
theorem CX:typeOf (.builtin "re.Pattern.search")=pure (.type "method_descriptor"):=by show builtinType _=_;rw[builtinType_eq_fast];kernel_rfl
theorem D6:entryFor table "re.Pattern.search"=some ZuW.«re.Pattern.search»:=entryFor_of_tree (by kernel_rfl)
theorem CG(a b:Zyd):argsOk "re.Pattern.search" ⟨[a,b],[]⟩:=by
 unfold argsOk;kernel_rfl!
open Builtin Builtin.Re
theorem Lq(x:Str)(t:Tok):reNamed "re.Pattern.search" "search" ["string","pos","endpos"] 1 [.str x t] []=pure [some (.str x t),none,none]:=by kernel_rfl!
structure Qd(C:Cx)(p:Zya):Prop where
 is:∃(q:Zya) (op oq:Obj) (fs xs:Array Zyd) (n:Nat),(∀h,C.G h->h.get? p=some op)/\(∀h,C.G h->h.get? q=some oq)/\op.cls=.type "re.Pattern"/\op.dict=none/\op.data=.fields fs/\oq.data=.seq xs n/\
  fs.getD 6 .none=.int 0 0/\fs.getD 5 .none=.ref q/\fs.getD 2 .none=.int 0 0/\((xs.map reRawOf).map ZjI=Sk∨(xs.map reRawOf).map ZjI=DO)
section
variable {C:Cx}{k:Nat}{U:Zx}{s s' s₁:Zym}{h h':Zyp}{env:Env}{A:Zxd}{E:Zyd->Zym->Prop}
theorem Lr    (ho:((m.runFor 4).outcome.isSome)=true)(q:Q (m.runFor 4) s):wpAny C.M A (reDrive (n+1) m) Q E s:=by
 show wpAny C.M A (if (m.runFor 4).outcome.isSome=true then pure (m.runFor 4) else _) Q E s
 rw[if_pos ho]
 exact Zys q
theorem Fo   (hf:∀i (Q':ForInStep PUnit->Zym->Prop) s,Q' (.yield ()) s->wpAny C.M A (f i ()) Q' E s):∀(l:List Nat)(s:Zym),Q () s->wpAny C.M A (forIn l Zuz f) Q E s
 |[],s,q=>by rw[Zvd];exact Zys q
 |i::r,s,q=>by rw[Zwz];exact Zyf (hf i _ s (Fo hf r s q))
theorem Lh   (ho:(m.runFor 4).outcome=some .failed)(q:Q none s):wpAny C.M A (reRunToEnd m) Q E s:=by
 unfold reRunToEnd
 refine Zyf (Lr (n:=2 ^ 64-1) (by rw[ho];rfl) ?_)
 refine Zyf (Fo (λi Q' s q'=>?_) _ _ ?_)
 ·split
  ·exact Zyf (wpAny_rule (Zys q'))
  ·exact Zys q'
 ·rw[ho]
  exact Zys q
theorem Px  (hP:Qd C p)  (hx:∀c∈x.cps.toList,good c)(hz:x.cps.size<2 ^ 62){a:Zyd}   (hg:C.G s.heap)(q:Q .none s):
 wpAny C.M A (call (.builtin "re.Pattern.search") [.ref p,.str x t]) Q E s:=by
 obtain⟨qa,op,oq,fs,xs,n,h1,h2,hc,aL,h3,h4,h5,h6,h7,h8⟩:=hP.is
 refine wpAny_call_entry J4 ⟨op,h1 _ hg,hc⟩ D6 ?_ (CG _ _)
 unfold ZuW.«re.Pattern.search» reTarget
 dsimp only
 refine Zyf ?_
 rw[Lq]
 refine Zyf (Zys ?_)
 dsimp only
 refine Zyf (Zys (Zyf (Zys (Zyf (wpAny_fieldsOf (h1 _ hg) h3 (Zyf ?_))))))
 have ht:reTextOf (.str x t)=pure (x.cps,0):=rfl
 rw[ht]
 refine Zys ?_
 dsimp only
 have e6:reRawNat (fs.getD 6 .none)=0:=by rw[h5];rfl
 rw[e6,if_neg (by decide),if_neg (by decide)]
 have V8:reNoCollectionInside (.str x t) 0=pure ():=rfl
 rw[V8]
 refine Zyf (Zys (Zyf ?_))
 unfold reRawItems
 rw[h6]
 refine Zyf (wpAny_seqItems (h2 _ hg) h4 (Zys (Zys ?_)))
 dsimp only
 unfold reAnswer
 have ep:Min.min (0:Int).toNat x.cps.size=0:=by simp
 have el:Min.min ((2:Int) ^ 63-1).toNat x.cps.size=x.cps.size:=by
  have:((2:Int) ^ 63-1).toNat=9223372036854775807:=by decide
  rw[this];exact ZvA (by lia)
 have eg:reRawNat (fs.getD 2 .none)=0:=by rw[h7];rfl
 rw[ep,el,eg]
 obtain⟨m,em,ho⟩:=Lv (code:=(xs.map reRawOf).map ZjI) (text:=x.cps) h8 hx
 refine Zyf (Lh (by show (M.runFor 4 _).outcome=_;exact em ▸ ho) ?_)
 exact Zys ⟨_,rfl,q⟩
noncomputable def VV(p:Zya):PR:=⟨λP h v=>v=.ref p,λ_ _ _ _ _ _ _ r=>r⟩
theorem YZ.search  (hP:Qd C p)  {t:Str}  (hf:Zp env)(hx:U x=some (.val (.Xk (VV p))))(Nl:Y0 x=true)(hy:U y=some (.val (.str t)))(BD:Y0 y=true)
 (ht:∀c∈t.cps.toList,good c) (hz:t.cps.size<2 ^ 62) (ZC:(apos.endLine==pos.line)=true):
 YZ C k env U (.Call (.Attribute (.Name x p1) "search" apos) [.Name y p2] [] pos) false:=by
 have o7:Ev C k env U (.Call (.Attribute (.Name x p1) "search" apos) [.Name y p2] [] pos) .none:=λA s Q E P hr hg hh hb q=>by
  have ha:ZW C k env U [.Name y p2] [.val (.str t)]:=ZW.cons (Z1.name hf hy (Yz BD).1 (Yz BD).2) ZW.nil
  refine wpAny_Call_method (T:="re.Pattern") (id:="re.Pattern.search") rfl (ha.few (by simp)) ZC B4 J4 CX ((Z1.name hf hx (Yz Nl).1 (Yz Nl).2) A s _ _ P hr hg hh hb λv s₁ k₁ r₁=>?_)
  have x₁:=Zw k₁
  have r₁:v=.ref p:=r₁
  subst r₁
  obtain⟨qa,op,oq,fs,xs,n,h1,h2,hc,aL,_⟩:=id hP.is
  refine⟨⟨op,h1 _ (C.ext hg x₁),hc⟩,λa e=>by cases e;exact⟨op,h1 _ (C.ext hg x₁),aL⟩,?_⟩
  refine ZxK ha.plain (ha.args hr (C.ext hg x₁) (hh.ext x₁) (hb.ext x₁) λvs s₂ k₂ r₂=>?_)
  have x₂:=Zw k₂
  obtain⟨w,rfl,DY⟩:=XG r₂
  obtain⟨u,rfl⟩:=Y2 DY
  exact Px hP ht hz (a:=.none) (t:=u) (C.ext (C.ext hg x₁) x₂) (q _ _ (Zu k₁ k₂) (Y9.mpr rfl))
 exact YZ.value o7 rfl (λx e=>by cases e)
end
section
variable {C:Cx}{k:Nat}{F:Y7}{U σ':Zx}{s s' s₁:Zym}{h h':Zyp}{env:Env}{A:Zxd}{E:Zyd->Zym->Prop}
noncomputable def XW(v:Zyd):PR:=⟨λP h u=>u=v,λ_ _ _ _ _ _ _ r=>r⟩
theorem VX  :Rep P h (.Xk (XW v)) u<->u=v:=Zuk
theorem Ev.Ah    (hf:Zp env)(hx:N8 C env x v)(hn:Y0 x=true):Ev C k env U (.Name x p) (.Xk (XW v)):=λA s Q E P hr hg hh hb q=>
 JN hf hx hg (q v s (Z3 s) (VX.mpr rfl)) (Yz hn).1
theorem Ev.CZ    (hf:Zp env)(hx:Ul C env x v)(hn:Y0 x=true):Ev C k env U (.Name x p) (.Xk (XW v)):=λA s Q E P hr hg hh hb q=>
 name_B hf hx hg (q v s (Z3 s) (VX.mpr rfl)) (Yz hn).1
theorem Ev.Qr    (hf:Zp env)(b:Ul C env "type" (.type "type"))(he:Ev C k env U e (.str x))(Fd:Zxn [e] env=[(false,eval e env)]):
 Ev C k env U (.Call (.Name "type" p) [e] [] pos) (.Xk (XW (.type "str"))):=λA s Q E P hr hg hh hb q=>by
 have ha:ZW C k env U [e] [.val (.str x)]:=ZW.cons he ZW.nil (by rw[Fd];rfl)
 rw[Xv]
 refine Zyf (name_B hf b hg ?_ (by decide))
 refine ZwO ha.plain (ha.args hr hg hh hb λvs s₁ k₁ r₁=>?_)
 obtain⟨w,rfl,DY⟩:=XG r₁
 obtain⟨u,rfl⟩:=Y2 DY
 exact call_type_of (typeIs_str _ _ _) (by decide) (q _ _ k₁ (VX.mpr rfl))
theorem Ev.Ow    (hf:Zp env)(b:Ul C env "type" (.type "type"))(he:Ev C k env U e (.lst l))(Fd:Zxn [e] env=[(false,eval e env)]):
 Ev C k env U (.Call (.Name "type" p) [e] [] pos) (.Xk (XW (.type "list"))):=λA s Q E P hr hg hh hb q=>by
 have ha:ZW C k env U [e] [.val (.lst l)]:=ZW.cons he ZW.nil (by rw[Fd];rfl)
 rw[Xv]
 refine Zyf (name_B hf b hg ?_ (by decide))
 refine ZwO ha.plain (ha.args hr hg hh hb λvs s₁ k₁ r₁=>?_)
 obtain⟨w,rfl,DY⟩:=XG r₁
 obtain⟨a,ws,n,rfl,e1,_⟩:=Dw (.inl rfl) DY
 exact call_type_of ⟨_,e1,rfl⟩ (by decide) (q _ _ k₁ (VX.mpr rfl))
theorem ZR.uu :ZR C k (compareOp .Is) (.Xk (XW (.type T))) (.Xk (XW (.type T))) (.bool true):=λA s Q E P va vb hr hg ra rb hb q=>by
 rw[VX] at ra rb;subst ra rb
 exact wpAny_is_self rfl (q _ _ (Z3 s) (Zr.mpr rfl))
theorem ZR.SM :ZR C k (compareOp .IsNot) (.Xk (XW (.type T))) (.Xk (XW (.type T))) (.bool false):=λA s Q E P va vb hr hg ra rb hb q=>by
 rw[VX] at ra rb;subst ra rb
 exact wpAny_isNot_self rfl (q _ _ (Z3 s) (Zr.mpr rfl))
def ZL(x:Str):Prop:=(∀c∈x.cps.toList,good c)/\x.cps.size<2 ^ 62
theorem Pu{a1 a2 a3 a4 a5 b1 b2 b3 b4 b5 b6 c1 c2 c3 c4 c5 d1 d2 e1:Pos}        (hF:XM F)
 (aO:Qd C p1) (aP:Qd C p2) (hx:ZL x) (h0:Ul C F.env "type" (.type "type")) (h1:Ul C F.env "str" (.type "str")) (h2:N8 C F.env R1 (.ref p1)) (h3:N8 C F.env R2 (.ref p2)) (n1:Y0 R1=true) (n2:Y0 R2=true)
 (hr:YW F.env.scope "regex"=true) (ZC:(c2.endLine==c4.line)=true):
 ∃σ',Ex C k F (Zi (λ_=>none) ["self","value","name"] [sl,.str x,.bool b])
  (execs (.If (.Compare (.Call (.Name "type" a1) [.Name "value" a2] [] a3) [.Is] [.Name "str" a4] a5)
   [.Assign [.Name "regex" b1] (.IfExp (.Name "name" b2) (.Name R1 b3) (.Name R2 b4) b5) b6,
    .If (.Call (.Attribute (.Name "regex" c1) "search" c2) [.Name "value" c3] [] c4) rb [] c5,
    .Return (some (.Name "value" d1)) d2] [] e1::rest) F.env) (.ret (.str x)) σ':=by
 let σ₀:Zx:=Zi (λ_=>none) ["self","value","name"] [sl,.str x,.bool b]
 let p:=if b then p1 else p2
 have hP:Qd C p:=by cases b<;>assumption
 have v0:σ₀ "value"=some (.val (.str x)):=by
  show (if ("value":Str)="name" then some (AV.val (.bool b)) else if ("value":Str)="value" then some (AV.val (.str x)) else none)=_
  rw[if_neg (by decide),if_pos rfl]
 have n0:σ₀ "name"=some (.val (.bool b)):=by
  exact (if_pos rfl:Zx.set (Zi (λ_=>none) ["self","value"] [sl,.str x]) "name" (.val (.bool b)) "name"=_)
 have v1:(σ₀.set "regex" (.val (.Xk (VV p)))) "value"=some (.val (.str x)):=by
  show (if ("value":Str)="regex" then _ else σ₀ "value")=_
  rw[if_neg (by decide)];exact v0
 have r1:(σ₀.set "regex" (.val (.Xk (VV p)))) "regex"=some (.val (.Xk (VV p))):=by
  show (if ("regex":Str)="regex" then _ else σ₀ "regex")=_
  rw[if_pos rfl]
 have oo:Ev C k F.env σ₀ (.IfExp (.Name "name" b2) (.Name R1 b3) (.Name R2 b4) b5) (.Xk (VV p)):=by
  refine Ev.x8 (c:=b) (YZ.value (Z1.name hF.Z6 n0 (by decide) (by decide)) rfl (λx e=>by cases e)) (λe=>?_) (λe=>?_)
  ·subst e;exact Ev.Ah hF.Z6 h2 n1
  ·subst e;exact Ev.Ah hF.Z6 h3 n2
 refine⟨σ₀.set "regex" (.val (.Xk (VV p))),Ex.stop ?_ (by intro e;cases e)⟩
 refine Ex.ite (b:=true) (YZ.cmp (Ev.Qr hF.Z6 h0 (Z1.name hF.Z6 v0 (by decide) (by decide)) rfl) (Ev.CZ hF.Z6 h1 (by decide)) ZR.uu rfl) (λ_=>?_) (λe=>by cases e)
 refine Ex.cons (Ex.assign hF.Z6 (Wz hF hr) oo rfl) ?_
 refine Ex.cons (σ₁:=σ₀.set "regex" (.val (.Xk (VV p)))) (Ex.ite (b:=false) (YZ.search hP hF.Z6 (x:="regex") (y:="value") (t:=x) r1 (by decide) v1 (by decide) hx.1 hx.2 ZC) (λe=>by cases e) (λ_=>Ex.nil)) ?_
 have hv:Ev C k F.env (σ₀.set "regex" (.val (.Xk (VV p)))) (.Name "value" d1) (.str x):=Z1.name hF.Z6 v1 (by decide) (by decide)
 exact Ex.stop (Ex.K9 hv rfl) (by intro e;cases e)
end
structure WN(C:Cx)(mN:Str->Option Zyd)(name:Str)(sc:Zy6)(body:List ZyF)(xs:List Str)(n:Nat)(ks:List (Str × Zyd))(ex:List Zyd):Prop where
 ex:∃f fd,Xw C mN name f/\YO C f fd body/\fd.scope=sc/\∀s vals,C.G s.heap->vals.length=n->ZxL s fd ⟨vals,ks⟩ (xs.zip (vals++ex))
section
variable {C:Cx}{k:Nat}{env:Env}{U:Zx}
theorem WN.call        {ex:List Zyd}     (D:WN C mN name sc body xs n ks ex)(hx:X0 sc xs=true)
 (hn:as.length=n) (hl:xs.length=n+DG.length) (PQ:∀P h,Zy P h DG ex) (DK:af=.ret d∨(af=.Z4/\d=.none))
 (hex:∀F:Y7,F.env.scope=sc->XM F->∃σ',Ex C k F (Zi (λ_=>none) xs (as.map AV.pv++DG)) (execs body F.env) af σ'):∃f,Xw C mN name f/\Jn C (k+1) (.ref f) as ks d:=
 D.ex.elim λf t=>t.elim λfd t=>⟨f,t.1,λA s Q E P vs hr hg r hb q=>
  t.2.1.gives (t.2.2.1 ▸ VK hx) (hl.trans (by rw[Zyn,Zyl,hn])) hr hg hb (r.Nb.append (PQ _ _)) (t.2.2.2 s vs hg (r.Nb.length.trans ((Zyl _).trans hn))) DK (λF FF=>hex F (FF.scope.trans t.2.2.1) FF.s) q⟩
end
def MD(R1 R2:Str) (body:List ZyF):Prop:=∃(pp:Nat->Pos) (rb rest:List ZyF),body=.If (.Compare (.Call (.Name "type" (pp 0)) [.Name "value" (pp 1)] [] (pp 2)) [.Is] [.Name "str" (pp 3)] (pp 4))
       [.Assign [.Name "regex" (pp 5)] (.IfExp (.Name "name" (pp 6)) (.Name R1 (pp 7)) (.Name R2 (pp 8)) (pp 9)) (pp 10),
        .If (.Call (.Attribute (.Name "regex" (pp 11)) "search" (pp 12)) [.Name "value" (pp 13)] [] (pp 14)) rb [] (pp 15),
        .Return (some (.Name "value" (pp 16))) (pp 17)] [] (pp 18)::rest/\((pp 12).endLine==(pp 14).line)=true
structure HdOK(C:Cx)(c N:Zya)(mN:Str->Option Zyd)(k2 k3:Option Zyd):Prop where
 cls:Uz C c N mN k2 k3
 conv:∃sc body R1 R2 p1 p2,(∀b,WN C mN "_convert_string_type" sc body ["self","value","name"] 2 [("name",.bool b)] [.bool b])/\MD R1 R2 body/\Qd C p1/\Qd C p2/\C.mg R1=some (.ref p1)/\C.mg R2=some (.ref p2)/\
  sc.names.lookup R1=some .globalImplicit/\sc.names.lookup R2=some .globalImplicit/\sc.names.lookup ("type":Str)=some .globalImplicit/\sc.names.lookup ("str":Str)=some .globalImplicit/\Y0 R1=true/\Y0 R2=true/\YW sc "regex"=true/\X0 sc ["self","value","name"]=true
 type:C.mg "type"=none/\C.mb "type"=some (.type "type")
 str:C.mg "str"=none/\C.mb "str"=some (.type "str")
section
variable {C:Cx}{k:Nat}{env:Env}{U:Zx}{c N:Zya}{mN:Str->Option Zyd}{k2 k3:Option Zyd}
theorem HdOK.MC(H:HdOK C c N mN k2 k3)    (hx:ZL x):∃f,Xw C mN "_convert_string_type" f/\Jn C (k+1) (.ref f) [a,.val (.str x)] [("name",.bool b)] (.str x):=by
 obtain⟨sc,body,R1,R2,p1,p2,hD,hL,aO,aP,g1,g2,s1,s2,s3,s4,n1,n2,hr,hp⟩:=H.conv
 obtain⟨pp,rb,rest,e0,ZC⟩:=hL
 subst e0
 refine (hD b).call (DG:=[.bool b]) (af:=.ret (.str x)) hp rfl rfl (λP h=>Zy.one (Zr.mpr rfl)) (.inl rfl) λF hs hF=>?_
 have kd:∀y,sc.names.lookup y=some .globalImplicit->F.env.kindOf y=some .globalImplicit:=λy e=>by unfold Zj1;rw[hs];exact e
 exact Pu (sl:=a.pv) hF aO aP hx ⟨H.type.1,H.type.2,kd _ s3⟩ ⟨H.str.1,H.str.2,kd _ s4⟩ ⟨g1,kd _ s1⟩ ⟨g2,kd _ s2⟩ n1 n2 (by rw[hs];exact hr) ZC
end
open Classical
def FP(c:Zya)(a:AV):Option (List PV):=@AV.casesOn (λ_=>Option (List PV)) a (λv=>@PV.casesOn (λ_=>Option (List PV)) v (λ_=>none) (λT ks l=>if T=Z8 c/\ks=[] then some l else none) none (λ_=>none) (λ_=>none) (λ_=>none) (λ_=>none) λ_=>none) (λ_=>none) λ_ _=>none
theorem uA    (h:FP c a=some l):a=.val (.box (Z8 c) [] l):=by
 match a,h with
 |.val (.box T ks l'),h=>exact Zl h λe h=>by rw[e.1,e.2,Zyb h]
theorem HO(c:Zya)(l:List PV):FP c (.val (.box (Z8 c) [] l))=some l:=if_pos ⟨rfl,rfl⟩
theorem xY{P:Prop}    (h:o.bind (FP c)=some l)(q:o=some (.val (.box (Z8 c) [] l))->P):P:=Zj h λa e h=>q (by rw[e,uA h])
def bU(c:Zya)(U:Zx)(e:Zyc):Option AV:=ID e λo a _=>UB o λx _=>if a=("_headers":Str)/\Y0 x=true then ((U x).bind (FP c)).map λl=>.val (.lst l) else none
def bV(c:Zya)(S:Sg)(n:Nat)(sc:Zy6)(U:Zx)(e:Zyc):Option AV:=IF e λf as ks pos=>ID f λo m apos=>UB o λx _=>Vr as λe=>
 if m=("_convert_string_type":Str)/\(∃b u v kp,ks=[⟨some "name",.Constant (.bool b) u v,kp⟩])/\Y0 x=true/\(apos.endLine==pos.line)=true/\notStar e=true then ((U x).bind (FP c)).bind λ_=>((ev S n sc U e).bind YS).bind λt=>if ZL t then some (.val (.str t)) else none else none
def Nk(c:Zya)(S:Sg)(n:Nat)(sc:Zy6)(U:Zx)(e:Zyc):Option AV:=Ua (bU c U e) (bV c S n sc U e)
section
variable {C:Cx}{k:Nat}{env:Env}{U:Zx}{c N:Zya}{mN:Str->Option Zyd}{k2 k3:Option Zyd}
theorem kI(H:HdOK C c N mN k2 k3){e:Zyc}  (hf:Zp env)(h:bU c U e=some a):Z1 C (k+1) env U e a:=
 Jr h λ_ _ _ e1 h=>Vk h λ_ _ e2 h=>Zl h λhc h=>YQ h λ_ h e3=>xY h λhs=>by
  rw[e1,e2,hc.1,e3]
  exact Ev.headers H.cls hf hs hc.2
theorem kK(H:HdOK C c N mN k2 k3){S:Sg}(HS:X9 C (k+1) S)    (hf:Zp env)(h:bV c S n env.scope U e=some a):Z1 C (k+1) env U e a:=
 Js h λ_ _ _ _ e1 h=>Jr h λ_ _ _ e2 h=>Vk h λ_ _ e3 h=>Xd h λ_ e4 h=>Zl h λhc h=>Zj h λ_ hs h=>xY hs λhs=>Zj h λ_ ht h=>Zj ht λ_ ht hv=>Zl h λWx h=>ZG (P:=Z1 C (k+1) env U e) (by
  obtain⟨b,u,v,kp,e5⟩:=hc.2.1
  rw[e1,e2,e3,e4,e5,hc.1]
  obtain⟨f,hm,Fn⟩:=H.MC (k:=k) (b:=b) (a:=.val (.box (Z8 c) [] _)) Wx
  exact Ev.Am H.cls (Z1.name hf hs (Yz hc.2.2.1).1 (Yz hc.2.2.1).2) hm ((sound HS n).ev _ _ _ _ hf (ht.trans (by rw[Xb hv]))) (Wy hc.2.2.2.2) ⟨_,_,rfl⟩ Fn rfl hc.2.2.2.1) h
theorem kJ(H:HdOK C c N mN k2 k3)  (HS:X9 C (k+1) S)(n:Nat):∀env U e a,Zp env->Nk c S n env.scope U e=some a->Z1 C (k+1) env U e a:=
 λ_ _ _ _ hf h=>QA h (kI H hf) (kK H HS hf)
def Sg.hd(S:Sg)(c:Zya)(n:Nat):Sg:=⟨S.cl,S.mt,S.gv,Nk c S n⟩
theorem X9.hd(H:HdOK C c N mN k2 k3)  (HS:X9 C (k+1) S)(n:Nat):X9 C (k+1) (S.hd c n):=
 ⟨HS.cl,HS.mt,HS.gv,kJ H HS n,HS.bi,HS.list,HS.range,HS.zip⟩
end
noncomputable def pairs(l:List (Str × Str)):List PV:=l.map λx=>.tup [.str x.1,.str x.2]
theorem Fp         (hx:Y0 x=true)(hs:U x=some (.val (.box (Z8 c) [] l))):
 Nk c S n sc U (.Attribute (.Name x p) "_headers" q)=some (.val (.lst l)):=by
 show Ua (if _ then ((U x).bind (FP c)).map _ else none) _=_
 rw[if_pos ⟨rfl,hx⟩,hs]
 rw[Zy2]
 rw[HO]
 rfl
theorem PO             (hx:Y0 x=true)(hl:(apos.endLine==pos.line)=true)(Y6:notStar e=true)
 (hs:U x=some (.val (.box (Z8 c) [] l))) (he:ev S n sc U e=some (.val (.str t))) (ht:ZL t):
 Nk c S n sc U (.Call (.Attribute (.Name x p) "_convert_string_type" apos) [e] [⟨some "name",.Constant (.bool b) bk bp,kp⟩] pos)=some (.val (.str t)):=by
 show Ua none (if _ then ((U x).bind (FP c)).bind _ else none)=_
 rw[if_pos ⟨rfl,⟨_,_,_,_,rfl⟩,hx,hl,Y6⟩,hs]
 rw[Zy2]
 rw[HO,he]
 show Ua none (if _ then _ else none)=_
 rw[if_pos ht]
 rfl
end Mine.Internal
end
section
open PySem PySem.W PyProof.Rows
namespace Mine.Internal
abbrev Zh(x:Str):List Nat:=x.cps.toList
theorem Z7(x:Str):(Zh x).length=x.length:=Zqo
theorem Qe  (h:Zh x=Zh y):x=y:=by
 obtain⟨a⟩:=x;obtain⟨b⟩:=y
 have:a=b:=Zjb.mp h
 rw[this]
theorem Cb(l:List Nat):Zh ⟨l.toArray⟩=l:=by simp [Zh]
theorem U9(x y:Str):Zh (x++y)=Zh x++Zh y:=by
 show (x.cps++y.cps).toList=_
 simp [Zh]
noncomputable def I2(x y:List Nat)(i:Nat):Bool:=y.isPrefixOf (x.drop i)
theorem subAt_eq(x y:Str)(i:Nat):ZwC x y i=I2 (Zh x) (Zh y) i:=by
 unfold ZwC I2
 have e:(x.cps.extract i (i+y.length)).toList=((Zh x).drop i).take (Zh y).length:=by
  rw[Array.toList_extract,Z7]
  simp [Zu9]
 rw[Zx9,Zxk,beq_iff_eq]
 constructor
 ·intro h
  have:=congrArg Array.toList h
  rw[e] at this
  have t:=List.take_prefix (Zh y).length ((Zh x).drop i)
  rw[this] at t
  exact t
 ·intro h
  apply Zjb.mp
  rw[e]
  exact (ZuB.mp h).symm
theorem Kg :ZyY x y=true<->Zh y<+:Zh x:=by
 unfold ZyY
 rw[subAt_eq]
 simp only[I2,ZyW,decide_eq_true_eq,Zxk,Zqv,Zxb]
 exact⟨λh=>h.2,λh=>⟨by have:=h.length_le;rwa [Z7,Z7] at this,h⟩⟩
theorem Uj :ZyJ x y=true<->Zh y<:+Zh x:=by
 unfold ZyJ
 rw[subAt_eq]
 simp only[I2,ZyW,decide_eq_true_eq,Zxk,Zxb]
 constructor
 ·rintro⟨h1,h2⟩
  have e:((Zh x).drop (x.length-y.length)).length=(Zh y).length:=by
   rw[Zwa,Z7,Z7];omega
  rw[h2.eq_of_length e.symm]
  exact List.drop_suffix _ _
 ·intro h
  have hl:=h.length_le
  rw[Z7,Z7] at hl
  refine⟨hl,?_⟩
  rw[List.suffix_iff_eq_drop.mp h,Z7,Z7]
  exact List.prefix_rfl
def ZH(x y:List Nat)(lo hi:Nat):Option Nat:=(ZvF lo (hi+1-lo)).find? λi=>decide (i+y.length<=hi)&&I2 x y i
theorem MW  (f:α->β->Id (ForInStep β))(g:β->α->β)(h:∀a b,f a b=pure (.yield (g b a))):∀(l:List α)(b:β),forIn (m:=Id) l b f=pure (l.foldl g b)
 |[],b=>rfl
 | a::l,b=>by
   rw[Zwz,h]
   exact MW f g h l (g b a)
noncomputable def Vc(x y:Str)(hi limit:Nat)(p:Array Nat × Nat)(i:Nat):Array Nat × Nat:=
 if (decide (p.1.size<limit)&&decide (p.2<=i)&&decide (i+y.length<=hi)&&ZwC x y i)=true then (p.1.push i,i+y.length) else p
theorem M5(x y:Str)(lo hi limit:Nat):Zy8 x y lo hi limit=((ZvF lo (hi+1-lo)).foldl (Vc x y hi limit) (#[],lo)).1.toList:=by
 unfold Zy8
 simp only[Zq0]
 rw[MW _ (Vc x y hi limit) (λa b=>by unfold Vc;split<;>rfl)]
 have:(ZvF lo [lo:hi+1].size)=ZvF lo (hi+1-lo):=by simp [Zif]
 rw[this]
 rfl
noncomputable def occs(x y:List Nat)(hi:Nat):Nat->Nat->List Nat
 |0,_=>[]
 |k+1,lo=>(ZH x y lo hi).elim [] λp=>p::occs x y hi k (p+y.length)
theorem Rz(x y:List Nat){lo hi:Nat}(h:lo<=hi):ZH x y lo hi=bif decide (lo+y.length<=hi)&&I2 x y lo then some lo else ZH x y (lo+1) hi:=by
 unfold ZH
 rw[show hi+1-lo=hi+1-(lo+1)+1 from (ZqZ (ZqO (Zu5 h))).symm,ZvH,Zvk]
 cases (decide (lo+y.length<=hi)&&I2 x y lo)<;>rfl
theorem VI  {lo hi k:Nat}(h:ZH x y lo hi=none):occs x y hi (k+1) lo=[]:=congrArg (λo=>Zjq o [] λp=>p::occs x y hi k (p+y.length)) h
theorem Ag  {lo hi k:Nat}(h:hi+1<=lo):occs x y hi k lo=[]:=by
 cases k with
 |zero=>rfl
 |succ k=>exact VI (by rw[ZH,ZvS h];rfl)
theorem V3  {lo hi k p:Nat}(h:ZH x y lo hi=some p):occs x y hi (k+1) lo=p::occs x y hi k (p+y.length):=congrArg (λo=>Zjq o [] λp=>p::occs x y hi k (p+y.length)) h
theorem O8  {lo ao hi k:Nat}(h:ZH x y lo hi=ZH x y ao hi):occs x y hi (k+1) lo=occs x y hi (k+1) ao:=congrArg (λo=>Zjq o [] λp=>p::occs x y hi k (p+y.length)) h
theorem O9(x y:Str)(hi limit:Nat)(l:List Nat)(p:Array Nat × Nat)(h:¬p.1.size<limit):l.foldl (Vc x y hi limit) p=p:=by
 induction l with
 |nil=>rfl
 | cons i l ih=>
   have:Vc x y hi limit p i=p:=if_neg (ZwD.mp (by rw[decide_eq_false h];rfl))
   rw[Zw0,this];exact ih
theorem KN    (h:(decide (acc.size<limit)&&decide (free<=i)&&decide (i+y.length<=hi)&&ZwC x y i)=false):Vc x y hi limit (acc,free) i=(acc,free):=if_neg (ZwD.mp h)
def kX(lo free m:Nat):Prop:=(free<=lo/\m=lo)∨(lo<free/\m=free)
theorem Bk{lo free:Nat}(h:lo<=free):kX lo free free:=(Zvu h).elim (λh=>.inr ⟨h,rfl⟩) λe=>.inl ⟨Zxc e.symm,e.symm⟩
theorem i7(x y:Str)(hi:Nat)(hy:0<y.length)(n:Nat):∀(lo:Nat)(acc:Array Nat)(free k m:Nat),lo+n=hi+1->kX lo free m->
 ((ZvF lo n).foldl (Vc x y hi (acc.size+k)) (acc,free)).1.toList=acc.toList++occs (Zh x) (Zh y) hi k m:=by
 induction n with
 | zero=>
   intro lo acc free k m h hm
   rw[Ag (h ▸ hm.elim (λq=>Zxc q.2.symm) λq=>q.2 ▸ Zx5 q.1),Zxh];rfl
 | succ n ih=>
   intro lo acc free k m h hm
   have h':lo+1+n=hi+1:=by rw[Zvv];exact h
   have Fc:lo<=hi:=ZuO (Zyi (ZyR _ n) (Zxc h'))
   rw[ZvH,Zw0]
   rcases hm with ⟨hf,rfl⟩ |⟨hf,rfl⟩
   ·cases k with
    | zero=>
      rw[KN (by rw[Zq8,decide_eq_false (Zx7 _)];rfl)]
      exact ih (m+1) acc free 0 (m+1) h' (.inl ⟨Zu4 hf,rfl⟩)
    | succ k=>
      have fa:=Rz (Zh x) (Zh y) Fc
      rw[<-subAt_eq,Z7] at fa
      cases hc:decide (m+y.length<=hi)&&ZwC x y m with
      | true=>
        rw[hc] at fa
        have e1:Vc x y hi (acc.size+(k+1)) (acc,free) m=(acc.push m,m+y.length):=if_pos (by
         rw[decide_eq_true (ZuA (Zvc k)),decide_eq_true hf,ZwF,ZwF];exact hc)
        have i:=ih (m+1) (acc.push m) (m+y.length) k _ h' (Bk (Zxl hy m))
        rw[Zv5,Zvv,Zvi,ZyC] at i
        rw[e1,V3 fa,Z7]
        exact i
      | false=>
        rw[hc] at fa
        rw[KN (by rw[Zj9,hc,Zuc]),O8 fa]
        exact ih (m+1) acc free (k+1) (m+1) h' (.inl ⟨Zu4 hf,rfl⟩)
   ·rw[KN (by rw[decide_eq_false (Zja hf),Zuc];rfl)]
    exact ih (lo+1) acc m k m h' (Bk hf)
theorem occ_eq(x y:Str)(lo hi k:Nat)(hy:0<y.length):Zy8 x y lo hi k=occs (Zh x) (Zh y) hi k lo:=by
 rw[M5]
 rcases Zq6 lo (hi+1) with h |h
 ·have:=i7 x y hi hy (hi+1-lo) lo #[] lo k lo (Zv1 h) (Bk (Zy7 _))
  rwa [show (#[]:Array Nat).size+k=k from Zxb k] at this
 ·rw[ZvS h,Ag h];rfl
theorem Uu  {lo hi p:Nat}(h:ZH x y lo hi=some p):lo<=p/\p+y.length<=hi/\y<+:x.drop p:=
 have h0:(decide (p+y.length<=hi)&&I2 x y p)=true:=Zj2 (p:=λi=>decide (i+y.length<=hi)&&I2 x y i) h
 have h1:=Yk h0
 ⟨(Zu6.mp (Zv6 (h:Zj3 _ _=_))).1,of_decide_eq_true h1.1,Zxk.mp h1.2⟩
theorem fE  {lo hi:Nat}(h:ZH x y lo hi=none)  (h1:lo<=p)(h2:p+y.length<=hi):¬y<+:x.drop p:=
 λhp=>ZqY.mp (h:Zj3 _ _=_) p (Zu6.mpr ⟨h1,by lia⟩) (Zxp.mpr ⟨decide_eq_true h2,Zxk.mpr hp⟩)
theorem SO  {lo hi p:Nat}(h1:lo<=p)(h2:p+y.length<=hi)(hp:y<+:x.drop p)(h:∀i,lo<=i->i<p->¬y<+:x.drop i):ZH x y lo hi=some p:=
 List.find?_range'_eq_some.mpr ⟨Zxp.mpr ⟨decide_eq_true h2,Zxk.mpr hp⟩,Zu6.mpr ⟨h1,by lia⟩,λj a b=>by
  have:I2 x y j=false:=ZwD.mpr λe=>h j a b (Zxk.mp e)
  rw[this,Zuc];rfl⟩
theorem C4  :∀{l:List α},(∀a∈l,p a=q a)->l.find? p=l.find? q
 |[],_=>rfl
 | a::l,h=>by
   rw[Zvk,Zvk,h a (.head _),C4 λb hb=>h b (.tail _ hb)]
theorem BV(x y:List Nat)(a lo hi:Nat)(hh:a+hi<=x.length)(Fc:lo<=hi):ZH x y (a+lo) (a+hi)=(ZH ((x.drop a).take hi) y lo hi).map (a+·):=by
 unfold ZH
 have e:a+hi+1-(a+lo)=hi+1-lo:=by rw[Zwi];exact Nat.add_sub_add_left ..
 rw[e,<-List.map_add_range',ZjY]
 congr 1
 refine C4 λi yt=>?_
 simp only[ZjB,I2]
 have e2:decide (a+i+y.length<=a+hi)=decide (i+y.length<=hi):=by
  rw[Zwi]
  exact decide_eq_decide.mpr (Nat.add_le_add_iff_left ..)
 rw[e2]
 by_cases q:i+y.length<=hi
 ·rw[decide_eq_true q,ZwF,ZwF,Zx9,Zxk,Zxk]
  rw[Zqk,Zug,List.prefix_take_iff]
  exact⟨λh=>⟨h,by lia⟩,λh=>h.1⟩
 ·rw[decide_eq_false q];rfl
theorem V1  (h:i<=n):fromIndex n (i:Int)=i:=by
 unfold fromIndex
 rw[if_neg (by lia)]
 lia
theorem Ap  {i j:Nat}(DU:i<=j)(hj:j<=x.length):Xu x "" i j=i:=by
 unfold Xu
 rw[V1 hj,V1 (Zyi DU hj),ZxA hj,M5]
 have e:j+1-i=(j-i)+1:=by lia
 rw[e,ZvH,Zw0]
 have e2:ZwC x "" i=true:=(subAt_eq ..).trans rfl
 have e1:Vc x "" j 1 (#[],i) i=(#[i],i):=if_pos (by rw[e2,decide_eq_true (Zy7 i),show ("":Str).length=0 from rfl,Zq8,decide_eq_true DU];rfl)
 rw[e1,O9 x "" j 1 _ (#[i],i) (Zx7 1)]
theorem MJ  {i j:Nat}(DU:i<=j)(hj:j<=x.length)(hy:0<y.length):Xu x y i j=(ZH (Zh x) (Zh y) i j).elim (-1) λp=>(p:Int):=by
 unfold Xu
 rw[V1 hj,V1 (Zyi DU hj),ZxA hj,occ_eq _ _ _ _ _ hy]
 cases e:ZH (Zh x) (Zh y) i j with
 |none=>rw[VI e];rfl
 |some p=>rw[V3 e];rfl
noncomputable def X4(d:List Nat):List (List Nat)->List Nat
 |[]=>[]
 |[p]=>p
 |p::q::r=>p++d++X4 d (q::r)
noncomputable def cutsOf(w:Nat)(lo:Nat):List (List Nat)->List Nat
 |[]=>[]
 |[p]=>[]
 |p::q::r=>(lo+p.length)::cutsOf w (lo+p.length+w) (q::r)
theorem xr{a b c:List Nat}:(a++(b++c)).length=a.length+b.length+c.length:=by rw[Zyn,Zyn,Zwi]
theorem O2   (h:(c::d)<+:l):l.head?=some c:=by
 obtain⟨t,rfl⟩:=h;rfl
theorem xm  {d p r pre:List Nat}(hp:c∉p)  (h1:pre.length<=i)(h2:i<pre.length+p.length):¬(c::d)<+:(pre++(p++r)).drop i:=by
 intro h
 have:=O2 h
 rw[List.head?_drop,Zue h1,ZuZ (by lia)] at this
 exact hp (ZyH this)
theorem F9  {d p r pre:List Nat}(hp:c∉p):ZH (pre++(p++(c::d)++r)) (c::d) pre.length (pre++(p++(c::d)++r)).length=some (pre.length+p.length):=
 SO (ZyR _ _) (by rw[Zyn,Zyn,Zyn];lia) (by rw[<-Zug,ZvV,ZyC,ZvV];exact ZqX _ _)
  λi a b=>by rw[ZyC p];exact xm hp a b
theorem IP  :∀(ps:List (List Nat))(p pre:List Nat)(k:Nat),(∀q∈p::ps,c∉q)->ps.length<=k->
 occs (pre++X4 (c::d) (p::ps)) (c::d) (pre++X4 (c::d) (p::ps)).length k pre.length=cutsOf (c::d).length pre.length (p::ps)
 |[],p,pre,0,_,_=>rfl
 |[],p,pre,k+1,h,_=>VI (by
  show ZH (pre++p) (c::d) pre.length (pre++p).length=none
  cases e:ZH (pre++p) (c::d) pre.length (pre++p).length with
  |none=>rfl
  | some q=>
    obtain⟨h1,h2,h3⟩:=Uu e
    rw[Zyn] at h2
    exact absurd h3 (Zxh p ▸ xm (d:=d) (p:=p) (r:=[]) (pre:=pre) (h p (.head _)) h1 (ZxM (ZuA (Zvc _)) h2)))
 |q::r,p,pre,0,_,hk=>absurd hk (Nat.not_succ_le_zero _)
 | q::r,p,pre,k+1,h,hk=>by
   have ih:=IP (d:=d) r q (pre++(p++(c::d))) k (λx hx=>h x (.tail _ hx)) (ZuO hk)
   rw[ZyC pre,xr (a:=pre) (b:=p) (c:=c::d)] at ih
   exact (V3 (F9 (h p (.head _)))).trans (congrArg (_::·) ih)
noncomputable def Bj(x:List Nat)(w:Nat)(lo:Nat)(IV:List Nat):List (List Nat):=((lo::IV.map (·+w)).zip (IV++[x.length])).map λp=>(x.drop p.1).take (p.2-p.1)
theorem F2{d:List Nat}:∀(ps:List (List Nat))(p pre:List Nat),Bj (pre++X4 d (p::ps)) d.length pre.length (cutsOf d.length pre.length (p::ps))=p::ps
 | [],p,pre=>by
   show [ZuL ((pre++p).length-pre.length) ((pre++p).drop pre.length)]=[p]
   rw[ZvV,Zyn,ZuN,Zjn]
 | q::r,p,pre=>by
   have ih:=F2 (d:=d) r q (pre++(p++d))
   rw[ZyC pre,xr (a:=pre) (b:=p) (c:=d)] at ih
   have e:((pre++(p++d++X4 d (q::r))).drop pre.length).take (pre.length+p.length-pre.length)=p:=by
    rw[ZvV,ZuN,ZyC,ZjX]
   exact congr (congrArg _ e) ih
theorem O4(x:Str)(IV:List Nat)(w:Nat):(ZyD x IV w).map Zh=Bj (Zh x) w 0 IV:=by
 unfold ZyD Bj
 rw[ZyM,Z7]
 apply Zw6
 intro p _
 simp [Builtin.Str.strSub,Zh,Zu9]
theorem KA(x:Str)(IV:List Nat)(w:Nat):(ZyD x IV w).length=IV.length+1:=by
 unfold ZyD;simp
theorem Od{a b:List Str}(h:a.map Zh=b.map Zh):a=b:=(ZvX λ_ _=>Qe).mp h
theorem MY  (h:∀c∈Zh x,c<256):Zx2 x=1:=by
 unfold Zx2
 rw[if_pos]
 rw[Array.all_eq_true_iff_forall_mem]
 intro c hc
 exact decide_eq_true (h c (by simpa [Zh] using hc))
theorem MZ(x:Str):1<=Zx2 x:=by
 unfold Zx2
 split
 ·exact Zy7 _
 ·split<;>decide
theorem S0     (hy:Zh y=c::d)(hk:Zx2 y=1)(p q:Str)(ps:List Str)(hx:Zh x=X4 (c::d) ((p::q::ps).map Zh))(hc:∀z∈p::q::ps,c∉Zh z):
 ZyE x y=p::q::ps:=by
 have LV:y.length=(c::d).length:=by rw[<-Z7,hy]
 have qQ:∀k,ps.length+1<=k->Zy8 x y 0 x.length k=cutsOf (c::d).length 0 ((p::q::ps).map Zh):=λk Q8=>by
  rw[occ_eq _ _ _ _ _ (LV ▸ Zvc _),hy,hx]
  have:=IP (c:=c) (d:=d) ((q::ps).map Zh) (Zh p) [] k (λz hz=>by
   rw[<-ZyZ] at hz
   obtain⟨w,hw,rfl⟩:=Zye.mp hz
   exact hc w hw) (Zyl Zh (as:=q::ps) ▸ Q8)
  rw[Zw1] at this
  rw[<-Z7,hx]
  exact this
 have hlen:ps.length+1<=x.length:=by
  rw[<-Z7,hx]
  have:∀(l:List (List Nat)) (a:List Nat),l.length<=(X4 (c::d) (a::l)).length:=by
   intro l
   induction l with
   |nil=>exact λa=>ZyS _
   | cons b l ih=>
     intro a
     have:=ih b
     show l.length+1<=(a++(c::d)++X4 (c::d) (b::l)).length
     rw[Zyn,Zyn]
     exact Zwe .. ▸ Zxa (Zyi (ZxX (ZyS _)) (Zwg _ _)) this
  exact Zyi (Zxc (Zyl Zh (as:=q::ps)).symm) (this ((q::ps).map Zh) (Zh p))
 unfold ZyE
 rw[hk]
 have nk:decide (Zx2 x<1)=false:=by
  have:=MZ x
  rw[decide_eq_false];lia
 rw[nk,Zqe]
 have nl:¬(decide (x.length<y.length)=true):=by
  rw[decide_eq_true_eq,LV,<-Z7,hx]
  show ¬(Zh p++(c::d)++X4 (c::d) ((q::ps).map Zh)).length<_
  rw[Zyn,Zyn];lia
 rw[if_neg nl]
 rw[qQ _ (by lia)]
 have ne:(cutsOf (c::d).length 0 ((p::q::ps).map Zh)).isEmpty=false:=rfl
 rw[ne,if_neg (by decide)]
 apply Od
 rw[O4,LV,hx]
 exact F2 (d:=c::d) ((q::ps).map Zh) (Zh p) []
end Mine.Internal
end
section
namespace Mine.Internal.Pl
variable {α:Type}
def VM(ws A:List (List α))(u:List α):Prop:=(∀w∈A,w∈ws)/\A.flatten=u
def XD(ws:List (List α))(u:List α):Prop:=∃A B,A≠B/\VM ws A u/\VM ws B u
inductive Path (ws:List (List α)):List α->List α->Prop
 |start {a b r}:a∈ws->b∈ws->a≠b->b=a++r->Path ws r b
 |shrink {r x w r'}:Path ws r x->w∈ws->r=w++r'->Path ws r' x
 |grow {r x w r'}:Path ws r x->w∈ws->w=r++r'->Path ws r' (x++r')
theorem MV  (h:l≠[]):(l++m).head?=l.head?:=by
 cases l with
 |nil=>exact absurd rfl h
 |cons a l=>rfl
theorem O3  {r x:List α}(h:Path ws r x):∃A B,VM ws A x/\(∀w∈B,w∈ws)/\B.flatten++r=x/\A≠[]/\B≠[]/\A.head?≠B.head?:=by
 induction h with
 | @start a b r ha hb hn e=>
   exact⟨[b],[a],⟨λw hw=>by simp at hw;rw[hw];exact hb,by simp⟩,λw hw=>by simp at hw;rw[hw];exact ha,by simp [e],by simp,by simp,λh=>hn (by simpa using h.symm)⟩
 | @shrink r x w r' _ hw e ih=>
   obtain⟨A,B,hA,hB,e2,n1,n2,n3⟩:=ih
   refine⟨A,B++[w],hA,λv hv=>?_,?_,n1,by simp,by rw[MV n2];exact n3⟩
   ·rcases ZyN.mp hv with hv |hv
    ·exact hB v hv
    ·simp at hv;rw[hv];exact hw
   ·rw[<-e2,e];simp
 | @grow r x w r' _ hw e ih=>
   obtain⟨A,B,hA,hB,e2,n1,n2,n3⟩:=ih
   refine⟨B++[w],A,⟨λv hv=>?_,?_⟩,hA.1,by rw[hA.2],by simp,n1,by rw[MV n2];exact λh=>n3 h.symm⟩
   ·rcases ZyN.mp hv with hv |hv
    ·exact hB v hv
    ·simp at hv;rw[hv];exact hw
   ·rw[<-e2,e];simp
theorem M1  {x:List α}(h:Path ws [] x):XD ws x:=by
 obtain⟨A,B,hA,hB,e,_,_,n⟩:=O3 h
 exact⟨A,B,λh=>n (by rw[h]),hA,hB,by simpa using e⟩
theorem HZ :∀(n:Nat){A B:List (List α)}{r x:List α},A.length+B.length<=n->Path ws r x->A.flatten=r++B.flatten->(∀w∈A,w∈ws)->(∀w∈B,w∈ws)->∃y,Path ws [] y/\y.length<=x.length+B.flatten.length:=by
 intro n
 induction n with
 | zero=>
   intro A B r x hn p e _ _
   have hA:A=[]:=Zwv (by lia)
   subst hA
   have:r=[]:=by
    have:=congrArg Zxe e
    rw[Zyn] at this
    exact Zwv (by simp only[Zvr,Zwx] at this;lia)
   subst this
   exact⟨x,p,ZyR _ _⟩
 | succ n ih=>
   intro A B r x hn p e hA hB
   by_cases hr:r=[]
   ·subst hr;exact⟨x,p,ZyR _ _⟩
   cases A with
   | nil=>
     have:=congrArg Zxe e
     rw[Zyn] at this
     exact absurd (Zwv (by simp only[Zvr,Zwx] at this;lia)) hr
   | cons w A=>
     rw[ZxP] at e
     have hw:=hA w (by simp)
     have Ig:∀v∈A,v∈ws:=λv hv=>hA v (by simp [hv])
     rcases ZuY.mp e with ⟨t,e1,e2⟩ |⟨t,e1,e2⟩
     ·exact ih (by simp at hn;lia) (.shrink p hw e1) e2 Ig hB
     ·obtain⟨y,py,hy⟩:=ih (A:=B) (B:=A) (by simp at hn;lia) (.grow p hw e1) e2 hB Ig
      refine⟨y,py,Zyi hy ?_⟩
      rw[e2];simp;lia
theorem strip  (h0:[]∉ws):∀{A B:List (List α)}{u:List α},A≠B->VM ws A u->VM ws B u->
 ∃(a b:List α) (A' B':List (List α)),a∈ws/\b∈ws/\a≠b/\(∀w∈A',w∈ws)/\(∀w∈B',w∈ws)/\a++A'.flatten=b++B'.flatten/\(a++A'.flatten).length<=u.length
 |[],[],_,h,_,_=>absurd rfl h
 | [],b::B,u,_,hA,hB=>by
   have e:=hB.2
   rw[<-hA.2] at e
   have:b=[]:=by
    have:=congrArg Zxe e
    rw[ZxP,Zyn] at this
    exact Zwv (by simp only[Zvr,Zwx] at this;lia)
   exact absurd (this ▸ hB.1 b (by simp)) h0
 | a::A,[],u,_,hA,hB=>by
   have e:=hA.2
   rw[<-hB.2] at e
   have:a=[]:=by
    have:=congrArg Zxe e
    rw[ZxP,Zyn] at this
    exact Zwv (by simp only[Zvr,Zwx] at this;lia)
   exact absurd (this ▸ hA.1 a (by simp)) h0
 | a::A,b::B,u,h,hA,hB=>by
   have Ig:∀v∈A,v∈ws:=λv hv=>hA.1 v (by simp [hv])
   have nx:∀v∈B,v∈ws:=λv hv=>hB.1 v (by simp [hv])
   have e1:=hA.2
   have e2:=hB.2
   rw[ZxP] at e1 e2
   by_cases X6:a=b
   ·subst X6
    have e3:A.flatten=B.flatten:=List.append_cancel_left (e1.trans e2.symm)
    obtain⟨a1,b1,A1,B1,h1,h2,h3,h4,h5,h6,h7⟩:=strip h0 (A:=A) (B:=B) (u:=A.flatten) (λe=>h (by rw[e])) ⟨Ig,rfl⟩ ⟨nx,e3.symm⟩
    exact⟨a1,b1,A1,B1,h1,h2,h3,h4,h5,h6,Zyi h7 (by rw[<-e1];simp)⟩
   ·exact⟨a,b,A,B,hA.1 a (by simp),hB.1 b (by simp),X6,Ig,nx,e1.trans e2.symm,by rw[e1];exact Zy7 _⟩
theorem MP  (h0:[]∉ws)  (h:XD ws u):∃y,Path ws [] y/\y.length<=u.length:=by
 obtain⟨A,B,hn,hA,hB⟩:=h
 obtain⟨a,b,A',B',ha,hb,X6,h1,h2,e,hl⟩:=strip h0 hn hA hB
 rcases ZuY.mp e with ⟨t,e1,e2⟩ |⟨t,e1,e2⟩
 ·obtain⟨y,py,hy⟩:=HZ _ (Zy7 _) (.start ha hb X6 e1) e2 h1 h2
  refine⟨y,py,Zyi hy (Zyi ?_ hl)⟩
  rw[e];simp
 ·obtain⟨y,py,hy⟩:=HZ _ (Zy7 _) (.start hb ha (λh=>X6 h.symm) e1) e2 h2 h1
  refine⟨y,py,Zyi hy (Zyi ?_ hl)⟩
  simp
theorem HQ   (h:VM ws A u):VM (ws.map ZwW) (A.map ZwW).reverse u.reverse:=by
 refine⟨λw hw=>?_,?_⟩
 ·rw[List.mem_reverse,Zye] at hw
  obtain⟨v,hv,rfl⟩:=hw
  exact ZyL (h.1 v hv)
 ·rw[<-h.2,List.reverse_flatten]
theorem rev_inj{A B:List (List α)}(h:(A.map ZwW).reverse=(B.map ZwW).reverse):A=B:=by
 have h1:=congrArg ZwW h
 rw[Zql,Zql] at h1
 have h2:=congrArg (Zqm ZwW) h1
 simpa [Zjz] using h2
theorem Bp   (h:XD ws u):XD (ws.map ZwW) u.reverse:=by
 obtain⟨A,B,hn,hA,hB⟩:=h
 exact⟨_,_,λe=>hn (rev_inj e),HQ hA,HQ hB⟩
abbrev En(α:Type):=List α × List α
structure U4(ws:List (List α))(V Q:List (En α))(m:Nat):Prop where
 path:∀p,p∈V∨p∈Q->Path ws p.1 p.2
 lo:∀p∈Q,m<=p.2.length
 hi:∀p∈V,p.2.length<=m
 start:∀a b r,a∈ws->b∈ws->a≠b->b=a++r->∃p,(p∈V∨p∈Q)/\p.1=r/\p.2.length<=b.length
 shr:∀v∈V,∀w r,w∈ws->v.1=w++r->∃p,(p∈V∨p∈Q)/\p.1=r/\p.2.length<=v.2.length
 jx:∀v∈V,∀w r,w∈ws->w=v.1++r->∃p,(p∈V∨p∈Q)/\p.1=r/\p.2.length<=v.2.length+r.length
 yd:∀p∈V,p.1≠[]
theorem U4.reach    (I:U4 ws V Q m)(hs:∀p∈Q,s<=p.2.length){r x:List α}(h:Path ws r x):(∃p∈V,p.1=r/\p.2.length<=x.length)∨(s<=x.length/\Q≠[]):=by
 have key:∀{r:List α}{l:Nat},(∃p,(p∈V∨p∈Q)/\p.1=r/\p.2.length<=l)->(∃p∈V,p.1=r/\p.2.length<=l)∨(s<=l/\Q≠[]):=λ⟨p,hp,e,hl⟩=>hp.elim (λhp=>.inl ⟨p,hp,e,hl⟩) (λhp=>.inr ⟨Zyi (hs p hp) hl,Zuh hp⟩)
 induction h with
 |start ha hb hn e=>exact key (I.start _ _ _ ha hb hn e)
 | shrink _ hw e ih=>
   rcases ih with ⟨v,hv,e1,hl⟩ |h
   ·obtain⟨p,hp,e2,BM⟩:=I.shr v hv _ _ hw (e1.trans e)
    exact key ⟨p,hp,e2,Zyi BM hl⟩
   ·exact .inr h
 | @grow r x w r' _ hw e ih=>
   rcases ih with ⟨v,hv,e1,hl⟩ |h
   ·obtain⟨p,hp,e2,BM⟩:=I.jx v hv _ _ hw (by rw[e1];exact e)
    exact key ⟨p,hp,e2,Zyi BM (by rw[Zyn];lia)⟩
   ·exact .inr ⟨Zyi h.1 (by rw[Zyn];lia),h.2⟩
theorem U4.found  (h0:[]∉ws)   (I:U4 ws V Q m)(hs:∀p∈Q,s<=p.2.length)  (h:XD ws u):s<=u.length:=by
 obtain⟨y,py,hy⟩:=MP h0 h
 rcases I.reach hs py with ⟨p,hp,e,_⟩ |h
 ·exact absurd e (I.yd p hp)
 ·exact Zyi h.1 hy
theorem U4.none  (h0:[]∉ws)   (I:U4 ws V [] m) :¬XD ws u:=λh=>by
 obtain⟨y,py,hy⟩:=MP h0 h
 rcases I.reach (s:=0) (λp hp=>by cases hp) py with ⟨p,hp,e,_⟩ |h
 ·exact absurd e (I.yd p hp)
 ·exact h.2 rfl
theorem U4.known    {p:En α}(I:U4 ws V Q m)(hp:p∈Q)(hs:∀q∈Q,p.2.length<=q.2.length)(hk:∃v∈V,v.1=p.1)(h1:∀q∈Q,q=p∨q∈Q')(h2:∀q∈Q',q∈Q):U4 ws V Q' p.2.length:=by
 obtain⟨v,hv,ev⟩:=hk
 have key:∀{r:List α}{l:Nat},(∃q,(q∈V∨q∈Q)/\q.1=r/\q.2.length<=l)->(∃q,(q∈V∨q∈Q')/\q.1=r/\q.2.length<=l):=λ⟨q,hq,e,hl⟩=>by
  rcases hq with hq |hq
  ·exact⟨q,.inl hq,e,hl⟩
  ·rcases h1 q hq with rfl |hq
   ·exact⟨v,.inl hv,ev.trans e,Zyi (Zyi (I.hi v hv) (I.lo _ hp)) hl⟩
   ·exact⟨q,.inr hq,e,hl⟩
 exact⟨λq hq=>I.path q (hq.imp_right (h2 q)),λq hq=>hs q (h2 q hq),λq hq=>Zyi (I.hi q hq) (I.lo _ hp),λa b r ha hb hn e=>key (I.start a b r ha hb hn e),
  λv hv w r hw e=>key (I.shr v hv w r hw e),λv hv w r hw e=>key (I.jx v hv w r hw e),I.yd⟩
theorem U4.fresh    {p:En α}(I:U4 ws V Q m)(hp:p∈Q)(hs:∀q∈Q,p.2.length<=q.2.length)(XA:p.1≠[])(h1:∀q∈Q,q=p∨q∈Q')(h2:∀q∈Q',q∈Q)
 (hR:∀q∈R,∃w∈ws,(p.1=w++q.1/\q.2=p.2)∨(w=p.1++q.1/\q.2=p.2++q.1)) (oK:∀w∈ws,∀r,p.1=w++r->(r,p.2)∈R) (oJ:∀w∈ws,∀r,w=p.1++r->(r,p.2++r)∈R):
 U4 ws (V++[p]) (Q'++R) p.2.length:=by
 have pp:=I.path p (.inr hp)
 have key:∀{r:List α}{l:Nat},(∃q,(q∈V∨q∈Q)/\q.1=r/\q.2.length<=l)->(∃q,(q∈V++[p]∨q∈Q'++R)/\q.1=r/\q.2.length<=l):=λ⟨q,hq,e,hl⟩=>by
  rcases hq with hq |hq
  ·exact⟨q,.inl (by simp [hq]),e,hl⟩
  ·rcases h1 q hq with rfl |hq
   ·exact⟨q,.inl (by simp),e,hl⟩
   ·exact⟨q,.inr (by simp [hq]),e,hl⟩
 refine⟨λq hq=>?_,λq hq=>?_,λq hq=>?_,λa b r ha hb hn e=>key (I.start a b r ha hb hn e),λv hv w r hw e=>?_,λv hv w r hw e=>?_,λq hq=>?_⟩
 ·rcases hq with hq |hq
  ·rcases ZyN.mp hq with hq |hq
   ·exact I.path q (.inl hq)
   ·simp at hq;rw[hq];exact pp
  ·rcases ZyN.mp hq with hq |hq
   ·exact I.path q (.inr (h2 q hq))
   ·obtain⟨w,hw,⟨e1,e2⟩ |⟨e1,e2⟩⟩:=hR q hq
    ·rw[e2];exact .shrink pp hw e1
    ·rw[e2];exact .grow pp hw e1
 ·rcases ZyN.mp hq with hq |hq
  ·exact hs q (h2 q hq)
  ·obtain⟨w,hw,⟨e1,e2⟩ |⟨e1,e2⟩⟩:=hR q hq<;>rw[e2]<;>simp
 ·rcases ZyN.mp hq with hq |hq
  ·exact Zyi (I.hi q hq) (I.lo _ hp)
  ·simp at hq;rw[hq];exact Zy7 _
 ·rcases ZyN.mp hv with hv |hv
  ·exact key (I.shr v hv w r hw e)
  ·simp at hv;subst hv
   exact⟨_,.inr (Zww _ (oK w hw r e)),rfl,Zy7 _⟩
 ·rcases ZyN.mp hv with hv |hv
  ·exact key (I.jx v hv w r hw e)
  ·simp at hv;subst hv
   exact⟨_,.inr (Zww _ (oJ w hw r e)),rfl,by rw[Zyn];exact Zy7 _⟩
 ·rcases ZyN.mp hq with hq |hq
  ·exact I.yd q hq
  ·simp at hq;rw[hq];exact XA
variable {α:Type} [DecidableEq α]
noncomputable def wh(L:List Int)(t:List α)(k:Nat)(w:List α):Option Int:=if w.length<=k+1/\(t.take (k+1)).drop (k+1-w.length)=w then some (L.getD (k+1-w.length) 0) else none
noncomputable def wl(ws:List (List α))(t:List α):Nat->List Int
 |0=>[1]
 |k+1=>wl ws t k++[(ws.filterMap (wh (wl ws t k) t k)).sum]
theorem W9(ws:List (List α))(t:List α):∀k,(wl ws t k).length=k+1
 |0=>rfl
 |k+1=>Zyn.trans (congrArg (·+1) (W9 ws t k))
def vl(ws:List (List α))(t:List α)(k:Nat):Int:=(wl ws t k).getD k 0
theorem DF(ws:List (List α))(t:List α) :∀{k:Nat},j<=k->(wl ws t k).getD j 0=vl ws t j
 |0,h=>by obtain rfl:j=0:=by lia
          rfl
 | k+1,h=>by
   by_cases hj:j=k+1
   ·subst hj;rfl
   ·show (wl ws t k++[_]).getD j 0=_
    rw[<-DF ws t (k:=k) (by lia),gD,gD,ZuZ (by rw[W9];lia)]
theorem wa(ws:List (List α))(t:List α)(k:Nat):vl ws t (k+1)=(ws.filterMap (wh (wl ws t k) t k)).sum:=by
 show (wl ws t k++[_]).getD (k+1) 0=_
 rw[gD,Zue (Zxc (W9 ..)),W9,Nat.sub_self];rfl
theorem dn  (h:β->Option Int)(l:List β):(l.filterMap h).sum=(l.map λw=>(h w).getD 0).sum:=by
 induction l with
 |nil=>rfl
 | cons a l ih=>
   rw[ZyZ,ZvC,<-ih]
   cases e:h a with
   |none=>rw[Zwk e,ZuQ,Int.zero_add]
   |some x=>rw[Zwj e,ZvC,Zvs]
section
variable {β:Type}{v:β->Int}{l:List β}{a:β}
theorem TC(h:∀w∈l,0<=v w):0<=(l.map v).sum:=by
 induction l with
 |nil=>exact Zqz 0
 | cons a l ih=>
   rw[ZyZ,ZvC]
   exact Int.add_nonneg (h a (.head _)) (ih λw hw=>h w (.tail _ hw))
theorem HK{P:β->Prop}:(∃w∈a::l,P w)<->P a∨∃w∈l,P w:=by simp only[ZyT,exists_eq_or_imp]
theorem fM{a s:Int}(ha:0<=a)(hs:0<=s):1<=a+s<->1<=a∨1<=s:=by lia
theorem fN{a s:Int}(ha:0<=a)(hs:0<=s):2<=a+s<->(2<=a∨1<=a/\1<=s)∨2<=s:=by lia
theorem RJ(h:∀w∈l,0<=v w):1<=(l.map v).sum<->∃w∈l,1<=v w:=by
 induction l with
 |nil=>exact⟨λh=>absurd (show (1:Int)<=0 from h) (by decide),λ⟨w,hw,_⟩=>absurd hw ZxY⟩
 | cons a l ih=>
   have h':∀w∈l,0<=v w:=λw hw=>h w (.tail _ hw)
   rw[ZyZ,ZvC,HK,<-ih h']
   exact fM (h a (.head _)) (TC h')
def ji(v:β->Int)(l:List β):Prop:=∃w∈l,∃u∈l,w≠u/\1<=v w/\1<=v u
theorem O1(ha:a∉l):ji v (a::l)<->(1<=v a/\∃w∈l,1<=v w)∨ji v l:=by
 have na:∀{w},w∈l->a≠w:=λhw e=>ha (e ▸ hw)
 constructor
 ·exact λh=>h.elim λw q=>q.2.elim λu r=>(ZyT.mp q.1).elim (λe=>(ZyT.mp r.1).elim (λe'=>absurd (e.trans e'.symm) r.2.1) λhu=>.inl ⟨e ▸ r.2.2.1,u,hu,r.2.2.2⟩)
   λhw=>(ZyT.mp r.1).elim (λe=>.inl ⟨e ▸ r.2.2.2,w,hw,r.2.2.1⟩) λhu=>.inr ⟨w,hw,u,hu,r.2⟩
 ·exact λh=>h.elim (λq=>q.2.elim λw r=>⟨a,.head _,w,.tail _ r.1,na r.1,q.1,r.2⟩) λh=>h.elim λw q=>q.2.elim λu r=>⟨w,.tail _ q.1,u,.tail _ r.1,r.2⟩
theorem kS(hn:l.Nodup)(h:∀w∈l,0<=v w):2<=(l.map v).sum<->(∃w∈l,2<=v w)∨ji v l:=by
 induction l with
 |nil=>exact⟨λh=>absurd (show (2:Int)<=0 from h) (by decide),λh=>h.elim (λ⟨_,hw,_⟩=>absurd hw ZxY) λ⟨_,hw,_⟩=>absurd hw ZxY⟩
 | cons a l ih=>
   have h':∀w∈l,0<=v w:=λw hw=>h w (.tail _ hw)
   have hn:=ZuS.mp hn
   rw[ZyZ,ZvC,HK,O1 hn.1,or_or_or_comm,<-ih hn.2 h',<-RJ h']
   exact fN (h a (.head _)) (TC h')
end
def Good(ws:List (List α))(t:List α)(j:Nat):Prop:=0<=vl ws t j/\(1<=vl ws t j<->∃A,VM ws A (t.take j))/\(2<=vl ws t j<->XD ws (t.take j))
theorem zK   (h:VM ws A u)(hw:w∈ws):VM ws (A++[w]) (u++w):=by
 refine⟨λv hv=>?_,by rw[Zuq,h.2];simp⟩
 rcases ZyN.mp hv with hv |hv
 ·exact h.1 v hv
 ·simp at hv;rw[hv];exact hw
section
variable {ws A F:List (List α)}{t w u:List α}{k:Nat}
def Cut(t:List α)(k:Nat)(w:List α):Prop:=w.length<=k+1/\(t.take (k+1)).drop (k+1-w.length)=w
theorem Cut.eq(h:Cut t k w):t.take (k+1)=t.take (k+1-w.length)++w:=by
 have h1:=Zwl (k+1-w.length) (t.take (k+1))
 rw[h.2,ZjW,ZxA (ZvP _ _)] at h1
 exact h1.symm
theorem fX(hk:k+1<=t.length)(e:u++w=t.take (k+1)):Cut t k w/\u=t.take (k+1-w.length):=by
 have hl:=congrArg Zxe e
 rw[Zyn,ZxZ,ZxA hk] at hl
 have hu:k+1-w.length=u.length:=hl ▸ ZqW ..
 refine⟨⟨hl ▸ Zwg _ _,by rw[hu,<-e,ZvV]⟩,?_⟩
 have:(t.take (k+1)).take (k+1-w.length)=t.take (k+1-w.length):=by rw[ZjW,ZxA (ZvP _ _)]
 rw[<-this,hu,<-e,ZjX]
theorem VM.snoc(h:Cut t k w)(hw:w∈ws)(hA:VM ws A (t.take (k+1-w.length))):VM ws (A++[w]) (t.take (k+1)):=h.eq ▸ zK hA hw
theorem Dm{P:Prop}(hk:k+1<=t.length)(h:VM ws F (t.take (k+1)))(q:∀A w,F=A++[w]->w∈ws->Cut t k w->VM ws A (t.take (k+1-w.length))->P):P:=by
 rcases List.eq_nil_or_concat F with rfl |⟨A,w,rfl⟩
 ·have e:=congrArg Zxe h.2
  rw[ZxZ,ZxA hk] at e
  cases e
 ·rw[Zqi] at h
  have e:=h.2
  rw[Zuq,Zqy] at e
  have c:=fX hk e
  exact q A w Zqi (h.1 w (Zww _ (.head _))) c.1 ⟨λv hv=>h.1 v (Zve _ hv),c.2⟩
def N1(ws:List (List α))(t:List α)(k:Nat)(w:List α):Prop:=Cut t k w/\∃A,VM ws A (t.take (k+1-w.length))
theorem u0(hk:k+1<=t.length):(∃F,VM ws F (t.take (k+1)))<->∃w∈ws,N1 ws t k w:=
 ⟨λh=>h.elim λ_ hF=>Dm hk hF λA w _ hw c hA=>⟨w,hw,c,A,hA⟩,λh=>h.elim λ_ q=>q.2.2.elim λ_ hA=>⟨_,hA.snoc q.2.1 q.1⟩⟩
theorem uE(hk:k+1<=t.length):XD ws (t.take (k+1))<->(∃w∈ws,Cut t k w/\XD ws (t.take (k+1-w.length)))∨∃w∈ws,∃u∈ws,w≠u/\N1 ws t k w/\N1 ws t k u:=by
 constructor
 ·refine λh=>h.elim λF h=>h.elim λG h=>Dm hk h.2.1 λA w eF hw c hA=>Dm hk h.2.2 λB v eG hv c' hB=>?_
  by_cases e:w=v
  ·subst e
   exact .inl ⟨w,hw,c,A,B,λq=>h.1 (by rw[eF,eG,q]),hA,hB⟩
  ·exact .inr ⟨w,hw,v,hv,e,⟨c,A,hA⟩,c',B,hB⟩
 ·exact λh=>h.elim (λh=>h.elim λw q=>q.2.2.elim λA r=>r.elim λB r=>⟨A++[w],B++[w],λe=>r.1 (List.append_cancel_right e),r.2.1.snoc q.2.1 q.1,r.2.2.snoc q.2.1 q.1⟩)
   λh=>h.elim λw q=>q.2.elim λv r=>r.2.2.1.2.elim λA hA=>r.2.2.2.2.elim λB hB=>⟨A++[w],B++[v],λe=>r.2.1 (List.singleton_inj.mp (List.append_inj' e rfl).2),hA.snoc r.2.2.1.1 q.1,hB.snoc r.2.2.2.1 r.1⟩
theorem RW  (hn:1<=n)(hw:0<w.length):n<=(wh (wl ws t k) t k w).getD 0<->Cut t k w/\n<=vl ws t (k+1-w.length):=by
 rw[wh]
 by_cases h:w.length<=k+1/\(t.take (k+1)).drop (k+1-w.length)=w
 ·rw[if_pos h,Zvs,DF ws t (Zux (Zxl hw k))]
  exact⟨λq=>⟨h,q⟩,λq=>q.2⟩
 ·rw[if_neg h,ZuQ]
  exact⟨λq=>absurd (ZqV hn q) (by decide),λq=>absurd q.1 h⟩
theorem dk(hw:0<w.length)(h:Cut t k w->0<=vl ws t (k+1-w.length)):0<=(wh (wl ws t k) t k w).getD 0:=by
 rw[wh]
 by_cases c:w.length<=k+1/\(t.take (k+1)).drop (k+1-w.length)=w
 ·rw[if_pos c,Zvs,DF ws t (Zux (Zxl hw k))]
  exact h c
 ·rw[if_neg c];exact Zqz 0
theorem MI(h0:[]∉ws)(h:VM ws A (t.take 0)):A=[]:=by
 cases A with
 |nil=>rfl
 | cons a A=>
   have e:=h.2
   rw[ZxP,ZjV,Zqx] at e
   exact absurd (e.1 ▸ h.1 a (.head _)) h0
theorem good0(h0:[]∉ws):Good ws t 0:=by
 have e:vl ws t 0=1:=rfl
 rw[Good,e]
 exact⟨by decide,⟨λ_=>⟨[],⟨λ_ hv=>absurd hv ZxY,rfl⟩⟩,λ_=>by decide⟩,λh=>absurd h (by decide),λ⟨A,B,n,hA,hB⟩=>absurd ((MI h0 hA).trans (MI h0 hB).symm) n⟩
theorem cm(hn:ws.Nodup)(h0:∀w∈ws,0<w.length)(hk:k+1<=t.length)(ih:∀j,j<=k->Good ws t j):Good ws t (k+1):=by
 have g:∀w∈ws,Good ws t (k+1-w.length):=λw hw=>ih _ (Zux (Zxl (h0 w hw) k))
 have f1:∀w∈ws,1<=(wh (wl ws t k) t k w).getD 0<->N1 ws t k w:=λw hw=>(RW (Zqz 1) (h0 w hw)).trans (and_congr_right λ_=>(g w hw).2.1)
 have f2:∀w∈ws,2<=(wh (wl ws t k) t k w).getD 0<->Cut t k w/\XD ws (t.take (k+1-w.length)):=λw hw=>(RW (by decide) (h0 w hw)).trans (and_congr_right λ_=>(g w hw).2.2)
 have nn:∀w∈ws,0<=(wh (wl ws t k) t k w).getD 0:=λw hw=>dk (h0 w hw) λ_=>(g w hw).1
 rw[Good,wa,dn,RJ nn,kS hn nn,u0 hk,uE hk]
 refine⟨TC nn,exists_congr λw=>and_congr_right (f1 w),or_congr (exists_congr λw=>and_congr_right (f2 w)) (exists_congr λw=>and_congr_right λhw=>exists_congr λu=>and_congr_right λhu=>and_congr_right λ_=>and_congr (f1 w hw) (f1 u hu))⟩
theorem good(hn:ws.Nodup)(h0:[]∉ws)(k:Nat):k<=t.length->Good ws t k:=by
 have hp:∀w∈ws,0<w.length:=λw hw=>Zvz.mpr λe=>h0 (e ▸ hw)
 induction k using Nat.strongRecOn with
 | _ k ih=>
   intro hk
   cases k with
   |zero=>exact good0 h0
   |succ k=>exact cm hn hp hk λj hj=>ih j (Zu5 hj) (Zyi hj (ZqL hk))
end
theorem yA  {t:List α}(hn:ws.Nodup)(h0:[]∉ws)  (hu:∀j,j<n->j<=t.length->¬XD ws (t.take j))  (hk:k<=t.length):∀x∈(wl ws t k).take n,x<=1:=by
 intro x hx
 obtain⟨j,hj,rfl⟩:=List.mem_take_iff_getElem.mp hx
 have DV:j<(wl ws t k).length:=ZxM hj (ZvN _ _)
 have aC:j<=k:=ZwB (Nat.lt_of_lt_of_eq DV (W9 ws t k))
 have e:=DF ws t aC
 rw[gD,gE DV,Zvs] at e
 rw[e]
 have aD:=Zyi aC hk
 exact Int.le_of_lt_add_one (Int.not_le.mp λh=>hu j (ZxM hj (Zwp _ _)) aD ((good hn h0 j aD).2.2.mp h))
noncomputable def yW:List (List Bool):=[[false],[true],[false,false],[false,true],[true,false],[true,true],[false,false,false],[false,false,true],[false,true,false],[false,true,true],[true,false,false],[true,false,true],[true,true,false],[true,true,true]]
theorem td:∀{w:List Bool},0<w.length->w.length<=3->w∈yW
 |[],h,_=>absurd h (Zx7 _)
 |[a],_,_=>by cases a<;>decide
 |[a,b],_,_=>by cases a<;>cases b<;>decide
 |[a,b,c],_,_=>by cases a<;>cases b<;>cases c<;>decide
 |_::_::_::_::_,_,h=>absurd h (Zja (Zwg 4 _))
noncomputable def subs{α:Type}:Nat->List α->List (List α)
 |0,_=>[[]]
 |n+1,[]=>[]
 |n+1,a::l=>(subs n l).map (a::·)++subs (n+1) l
theorem OV   (h:s.Sublist l):s∈subs s.length l:=by
 induction h with
 |slnil=>exact .head _
 | @cons s l a h ih=>
   cases s with
   |nil=>exact .head _
   |cons b s=>exact Zww _ ih
 | @cons_cons s l a h ih=>exact Zve _ (ZyL ih)
noncomputable def CE:List Bool->List Bool->Option (List Bool)
 |[],l=>some l
 |_::_,[]=>none
 |a::s,b::l=>if a==b then CE s l else none
theorem KG:∀{s l r:List Bool},CE s l=some r->l=s++r
 |[],l,r,h=>by cases h;rfl
 |a::s,[],r,h=>by cases h
 |a::s,b::l,r,h=>Zl h λe h=>by rw[KG h,eq_of_beq e];rfl
def gL(cs:List (List Bool))(r:List Bool):List (List Bool):=cs.flatMap λw=>(CE w r).toList++(CE r w).toList
def starts(cs:List (List Bool)):List (List Bool):=cs.flatMap λa=>cs.flatMap λb=>if a==b then [] else (CE a b).toList
noncomputable def yZ(cs:List (List Bool)):Nat->List (List Bool)->List (List Bool)->Bool
 |0,_,_=>false
 |n+1,[],_=>false
 |n+1,r::todo,seen=>if r.isEmpty then true else if seen.contains r then yZ cs n todo seen else yZ cs n (gL cs r++todo) (r::seen)
theorem Mu :∀{n:Nat}{todo seen:List (List Bool)},(∀r∈todo,∃x,Path cs r x)->yZ cs n todo seen=true->∃x,Path cs [] x
 |0,_,_,_,h=>by cases h
 |n+1,[],_,_,h=>by cases h
 | n+1,r::todo,seen,hp,h=>by
   refine Y4 h (λhe _=>(hp r (.head _)).imp λx hx=>ZuG.mp he ▸ hx) λ_ h=>Y4 h (λ_ h=>Mu (λq hq=>hp q (.tail _ hq)) h) λ_ h=>Mu (λq hq=>?_) h
   exact (ZyN.mp hq).elim (λhq=>(hp r (.head _)).elim λx hx=>(ZxH.mp hq).elim λw t=>(ZyN.mp t.2).elim (λhq=>⟨x,.shrink hx t.1 (KG (Zu7.mp hq))⟩)
    λhq=>⟨x++q,.grow hx t.1 (KG (Zu7.mp hq))⟩) λhq=>hp q (.tail _ hq)
theorem Ec :∀r∈starts cs,∃x,Path cs r x:=λr hr=>(ZxH.mp hr).elim λa t=>(ZxH.mp t.2).elim λb u=>by
 have h2:r∈(if a==b then [] else (CE a b).toList):=u.2
 by_cases he:(a==b)=true
 ·rw[if_pos he] at h2;cases h2
 ·rw[if_neg he] at h2;exact⟨b,.start t.1 u.1 (λe=>he (beq_iff_eq.mpr e)) (KG (Zu7.mp h2))⟩
noncomputable def wt(w:List Bool):Nat:=8/2 ^ w.length
def worth(cs:List (List Bool)):Nat:=(cs.map wt).sum
noncomputable def NQ(ws:List (List Bool))(fr:List Bool)(k:Nat)(E:List Nat):Bool:=ws.any λw=>fr.isSuffixOf w||(w.isSuffixOf fr&&E.any λj=>ZuV j (k-w.length))
def K5(ws:List (List Bool))(fr:List Bool)(k:Nat)(E:List Nat):List Nat:=if NQ ws fr k E then E++[k] else E
noncomputable def Wn(ws:List (List Bool))(dr:List Bool):Nat->List Nat
 |0=>[0]
 |k+1=>K5 ws (dr.take (k+1)) (k+1) (Wn ws dr k)
noncomputable def Jc(ws:List (List Bool))(dr:List Bool)(E:List Nat):Bool:=E.any λj=>ws.any λw=>(dr.drop j).isPrefixOf w
noncomputable def NI(ws:List (List Bool)):Nat->List Bool->Nat->List Nat->Bool
 |0,fr,_,E=>Jc ws fr E
 |n+1,fr,k,E=>NI ws n (fr++[false]) (k+1) (K5 ws (fr++[false]) (k+1) E)&&NI ws n (fr++[true]) (k+1) (K5 ws (fr++[true]) (k+1) E)
theorem xK  :∀{n k:Nat},dr.length=k+n->NI ws n (dr.take k) k (Wn ws dr k)=true->Jc ws dr (Wn ws dr (k+n))=true
 | 0,k,hl,h=>by
   have h:Jc ws (dr.take k) (Wn ws dr k)=true:=h
   rw[Zx6 (by lia)] at h;exact h
 | n+1,k,hl,h=>by
   have h:=Zxp.mp h
   have hk:k<dr.length:=by lia
   have ht:dr.take (k+1)=dr.take k++[dr[k]]:=by rw[Zjy,gE hk];rfl
   have he:Wn ws dr (k+1)=K5 ws (dr.take k++[dr[k]]) (k+1) (Wn ws dr k):=congrArg (λf=>K5 ws f (k+1) (Wn ws dr k)) ht
   have h2:NI ws n (dr.take (k+1)) (k+1) (Wn ws dr (k+1))=true:=by
    rw[ht,he]
    cases hb:dr[k]
    ·exact h.1
    ·exact h.2
   rw[show k+(n+1)=k+1+n from by lia]
   exact xK (by lia) h2
theorem Tx   {l m:List α}(h:∀x,x∈l<->x∈m):l.any p=m.any p:=by
 rw[Zx9,ZwZ,ZwZ]
 exact⟨λ⟨x,hx,e⟩=>⟨x,(h x).mp hx,e⟩,λ⟨x,hx,e⟩=>⟨x,(h x).mpr hx,e⟩⟩
theorem HM{l m:List (List Bool)}(h:∀x,x∈l<->x∈m)(dr:List Bool):∀k,Wn l dr k=Wn m dr k
 |0=>rfl
 |k+1=>(congrArg (K5 l _ _) (HM h dr k)).trans (congrArg (λb:Bool=>if b then Wn m dr k++[k+1] else Wn m dr k) (Tx h))
theorem Pz{l m:List (List Bool)}(h:∀x,x∈l<->x∈m)(dr:List Bool)(E:List Nat):Jc l dr E=Jc m dr E:=congrArg E.any (funext λj=>Tx h)
def uf(cs:List (List Bool)):Bool:=Nat.blt (worth cs) 8||yZ cs 100 (starts cs) []||(ZuV (worth cs) 8&&NI cs 9 [] 0 [0])
theorem wG:(subs 4 yW).all uf=true:=by decide +kernel
theorem uR   (h:∀w,w∈ws->w∈sR)  (ha:XD ws u):XD sR u:=by
 obtain⟨A,B,hn,hA,hB⟩:=ha
 exact⟨A,B,hn,⟨λw hw=>h w (hA.1 w hw),hA.2⟩,⟨λw hw=>h w (hB.1 w hw),hB.2⟩⟩
theorem x5  (hl:ws.length=4)(hn:ws.Nodup)(hs:∀w∈ws,0<w.length/\w.length<=3)(hu:∀u,¬XD ws u):worth ws<=8/\(worth ws=8->∀dr:List Bool,dr.length=9->Jc ws dr (Wn ws dr 9)=true):=by
 obtain⟨cs,R0⟩:∃cs,cs=yW.filter λw=>decide (w∈ws):=⟨_,rfl⟩
 have Ta:cs.Sublist yW:=by rw[R0];exact List.filter_sublist
 have FC:∀x,x∈cs<->x∈ws:=λx=>by
  rw[R0,List.mem_filter,decide_eq_true_iff]
  exact⟨λh=>h.2,λh=>⟨td (hs x h).1 (hs x h).2,h⟩⟩
 have BN:cs.Nodup:=Ta.nodup (by decide)
 have hp:cs.Perm ws:=(List.perm_ext_iff_of_nodup BN hn).mpr FC
 have hlen:cs.length=4:=by rw[hp.length_eq,hl]
 have hw:worth cs=worth ws:=(hp.map wt).sum_nat
 have Wb:=OV Ta
 rw[hlen] at Wb
 have hg:=ZyV.mp wG cs Wb
 refine (Zq1.mp hg).elim (λhg=>(Zq1.mp hg).elim (λhg=>?_) λhg=>?_) λhg=>?_
 ·have:worth cs<8:=by
   have h:ZqB (worth cs+1) 8=true:=hg
   exact Zva h
  rw[hw] at this
  exact⟨by lia,λh=>by lia⟩
 ·obtain⟨x,hx⟩:=Mu Ec hg
  exact absurd (uR (λw h=>(FC w).mp h) (M1 hx)) (hu x)
 ·have yr:=(Zxp.mp hg).2
  have h8:worth cs=8:=Nat.eq_of_beq_eq_true (Zxp.mp hg).1
  refine⟨by lia,λ_ dr hd=>?_⟩
  have h3:=xK (ws:=cs) (dr:=dr) (n:=9) (k:=0) (by lia) (by rw[ZjV];exact yr)
  rw[Zxb] at h3
  rw[<-Pz FC,<-HM FC];exact h3
end Mine.Internal.Pl
end
section
open PySem PySem.W PyProof.Rows
namespace Mine.Internal.L1
theorem p9  (h:x.length<=Zyk):XO [.val (.str x)]=some (.int x.length):=if_pos h
theorem a0  (h:l.length<=Zyk):XO [.val (.lst l)]=some (.int l.length):=if_pos h
theorem pZ  (h:l.length<=Zyk):XO [.own l]=some (.int l.length):=if_pos h
theorem agA :NG .Add (.int x) (.int y)=some (.int (x+y)):=rfl
theorem agB :NG .Sub (.int x) (.int y)=some (.int (x-y)):=rfl
theorem r6   (h:x.length<=Zyk):QC (.val (.str x)) a b=some (.str (Yg a b x)):=if_pos h
theorem r8   (h:l.length<=Zyk):QC (.val (.lst l)) a b=some (.lst (ZZ a b l)):=if_pos h
theorem r7   (h:l.length<=Zyk):QC (.own l) a b=some (.lst (ZZ a b l)):=if_pos h
theorem rf  (h:x.length<=Zyk):JC (.str x)=some (x.length != 0):=if_pos h
theorem rn :JC (.int i)=some (i != 0):=rfl
theorem rm :JC (.bool b)=some b:=rfl
theorem pJ  :Qj b (.val (.lst l))=some l:=rfl
theorem pU  :Qj b (.val (.str x))=some (x.cps.toList.map λc=>.str ⟨#[c]⟩):=rfl
theorem pQ :Qj false (.own l)=some l:=rfl
theorem pe :listOf (.val (.lst l))=some l:=rfl
theorem ph :listOf (.own l)=some l:=rfl
theorem flS :(AV.val (.str x)).flat=some (.val (.str x)):=rfl
theorem flI :(AV.val (.int i)).flat=some (.val (.int i)):=rfl
theorem flO :(AV.own l).flat=some (.own l):=rfl
theorem flT  :(AV.tab c l).flat=some (.tab c l):=rfl
theorem flL  (h:l.all Yv=true):(AV.val (.lst l)).flat=some (.own l):=if_pos h
theorem pX :(AV.val (.str x)).last=some (.val (.str x)):=rfl
theorem pV :(AV.val (.int i)).last=some (.val (.int i)):=rfl
theorem pW :(AV.own l).last=some (.val (.lst l)):=rfl
theorem pY  :(AV.tab c l).last=some (.val (.box (Z8 c) [] l)):=rfl
theorem oE :Yv (.str x)=true:=rfl
theorem oO :Yv (.int i)=true:=rfl
theorem oP :Yv (.lst l)=false:=rfl
theorem tT:true=true:=rfl
theorem tF:false=false:=rfl
theorem tG  (h:b=true):b=true:=h
theorem tH  (h:b=false):b=false:=h
structure Rf{α:Type}(a b:α):Prop where
 h:a=b
theorem s8 :YC .Add (.val (.int x)) (.val (.int y))=some (.int (x+y)):=rfl
theorem sb :YC .Sub (.val (.int x)) (.val (.int y))=some (.int (x-y)):=rfl
theorem cLt :Ys .Lt (.val (.int x)) (.val (.int y))=some (decide (x<y)):=rfl
theorem cLe :Ys .LtE (.val (.int x)) (.val (.int y))=some (decide (x<=y)):=rfl
theorem cGt :Ys .Gt (.val (.int x)) (.val (.int y))=some (decide (y<x)):=rfl
theorem ko :Ys .Eq (.val (.str x)) (.val (.str y))=some (eqv (.str x) (.str y)):=by unfold Ys;exact if_pos ⟨rfl,(show 0<=8 by decide)⟩
theorem sd :Ys .Eq (.val (.int x)) (.val (.int y))=some (eqv (.int x) (.int y)):=by unfold Ys;exact if_pos ⟨rfl,(show 0<=8 by decide)⟩
theorem sj :Ys .NotEq (.val (.int x)) (.val (.int y))=some (!eqv (.int x) (.int y)):=by unfold Ys;exact if_pos ⟨rfl,(show 0<=8 by decide)⟩
theorem su :Ys .NotEq (.val (.str x)) (.val (.str y))=some (!eqv (.str x) (.str y)):=by unfold Ys;exact if_pos ⟨rfl,(show 0<=8 by decide)⟩
theorem To :eqv (.str x) (.str y)=decide (x=y):=rfl
theorem tS :eqv (.int x) (.int y)=decide (x=y):=rfl
section
variable {S:Sg}{sc:Zy6}{U:Zx}{n:Nat}{p q:Pos}
theorem UO   (c:(Y0 x&&!Ym sc x)=true)(h:U x=some a):ev S (n+1) sc U (.Name x p)=some a:=by
 obtain⟨c1,c2⟩:=(ZyW _ _).mp c
 exact (if_pos c1).trans ((if_neg (ne_true_of_eq_false ((Zxg _).mp c2))).trans h)
theorem qd   (c:(Y0 x&&Ym sc x)=true)(h:S.gv x=some d):ev S (n+1) sc U (.Name x p)=some (.val d):=by
 obtain⟨c1,c2⟩:=(ZyW _ _).mp c
 refine (if_pos c1).trans ((if_pos c2).trans ?_)
 rw[h];rfl
theorem P2  :ev S (n+1) sc U (.Constant (.int i) l p)=some (.val (.int i)):=rfl
theorem Tq  :ev S (n+1) sc U (.Constant (.str i) l p)=some (.val (.str i)):=rfl
theorem TL :ev S (n+1) sc U (.Constant .none l p)=some (.val .none):=rfl
theorem d9  :ev S (n+1) sc U (.Constant (.bool b) l p)=some (.val (.bool b)):=rfl
theorem l0     (h1:ev S n sc U l=some a)(h2:ev S n sc U r=some b)(h3:YC op a b=some d):ev S (n+1) sc U (.BinOp l op r p)=some (.val d):=by
 show ((ev S n sc U l).bind λa=>(ev S n sc U r).bind λb=>(YC op a b).map AV.val)=_
 rw[h1,Zy2,h2,Zy2,h3];rfl
theorem mA   (h:ev S n sc U x=some (.val (.int i))):ev S (n+1) sc U (.UnaryOp .USub x p)=some (.val (.int (-i))):=by
 show ((ev S n sc U x).bind _)=_
 rw[h];rfl
theorem jH     (c:Zxx op r=false)(h1:ev S n sc U l=some a)(h2:ev S n sc U r=some b)(h3:Ys op a b=some d):ev S (n+1) sc U (.Compare l [op] [r] p)=some (.val (.bool d)):=by
 have e:Tw (ev S n) sc U l op r=some d:=(if_neg (ne_true_of_eq_false c)).trans (by rw[h1,Zy2,h2,Zy2,h3])
 exact congrArg (Zqh λc=>AV.val (.bool c)) e
theorem eV    (h:V2 S n sc U op vs=some b):ev S (n+1) sc U (.BoolOp op vs p)=some (.val (.bool b)):=by
 show (V2 S n sc U op vs).map _=_
 rw[h];rfl
theorem mP   (h1:Yi S n sc U t=some true)(h2:ev S n sc U a=some (.val d)):ev S (n+1) sc U (.IfExp t a b p)=some (.val d):=by
 show ((Yi S n sc U t).bind _)=_
 rw[h1];exact (congrArg (ZkN · _) h2)
theorem lz   (h1:Yi S n sc U t=some false)(h2:ev S n sc U b=some (.val d)):ev S (n+1) sc U (.IfExp t a b p)=some (.val d):=by
 show ((Yi S n sc U t).bind _)=_
 rw[h1];exact (congrArg (ZkN · _) h2)
theorem jM    (c:KX i=true)(h1:ev S n sc U o=some a)(h2:ev S n sc U i=some (.val j))(h3:ZV a j=some d):ev S (n+1) sc U (.Subscript o i p)=some (.val d):=by
 have e:ev S (n+1) sc U (.Subscript o i p)=(ev S n sc U o).bind λa=>(ev S n sc U i).bind λj=>j.ZF.bind λj=>(ZV a j).map .val:=by
  cases i<;>first |rfl |cases c
 rw[e,h1,Zy2,h2,Zy2]
 exact congrArg (Zqh _) h3
theorem mG  {lo hi:Option Zyc}     (h1:ev S n sc U (.Name x p2)=some a)(h2:Ft S n sc U lo=some l)(h3:Ft S n sc U hi=some u)(h4:QC a l u=some d):ev S (n+1) sc U (.Subscript (.Name x p2) (.Slice lo hi none p) q)=some (.val d):=by
 show ((ev S n sc U (.Name x p2)).bind λa=>(Ft S n sc U lo).bind λl=>(Ft S n sc U hi).bind λu=>(QC a l u).map AV.val)=_
 rw[h1,Zy2,h2,Zy2,h3,Zy2,h4];rfl
def LB(S:Sg)(n:Nat)(sc:Zy6)(U:Zx)(es:List Zyc)(ds:List PV):Prop:=Xl S n sc U es=some (ds.map .val)
theorem rF:LB S (n+1) sc U [] []:=rfl
theorem rD     (c:notStar e=true)(h1:ev S n sc U e=some (.val d))(h2:LB S n sc U r ds):LB S (n+1) sc U (e::r) (d::ds):=by
 refine (if_pos c).trans ?_
 rw[h1,Zy2,h2];rfl
theorem Bx{ds:List PV}:(ds.map AV.val).mapM AV.ZF=some ds:=by
 induction ds with
 |nil=>rfl
 |cons d ds ih=>rw[ZyZ,ZwH,ih];rfl
theorem m9    (h1:LB S n sc U es ds)(h3:ZqB ds.length Zyk=true):ev S (n+1) sc U (.Tuple es k p)=some (.val (.tup ds)):=by
 show ((Xl S n sc U es).bind λas=>(as.mapM AV.ZF).bind λds=>if ds.length<=Zyk then some (AV.val (.tup ds)) else none)=_
 rw[show Xl S n sc U es=_ from h1,Zy2,Bx,Zy2,if_pos (Zva h3)]
theorem mM   (h1:LB S n sc U es ds)(h3:ZqB ds.length Zyk=true):ev S (n+1) sc U (.List es p)=some (.val (.lst ds)):=by
 show ((Xl S n sc U es).bind λas=>(as.mapM AV.ZF).bind λds=>if ds.length<=Zyk then some (AV.val (.lst ds)) else none)=_
 rw[show Xl S n sc U es=_ from h1,Zy2,Bx,Zy2,if_pos (Zva h3)]
theorem uU     (h:∀x,k x=d):d1 l k d=d:=WA (r:=d1 l k d) rfl (λx _ e=>e.symm.trans (h x)) Eq.symm
theorem zP     (h:∀x as,k x as=d):LM e k d=d:=Cd (r:=LM e k d) rfl (λx _ as _ _ e=>e.symm.trans (h x as)) Eq.symm
theorem DC     (c:(!(x==("list":Str))&&(Y0 x&&Ym sc x&&decide (args.length<29)))=true)(h1:Xl S n sc U args=some as)(h2:S.cl x as=some d):ev S (n+1) sc U (.Call (.Name x p) args [] q)=some (.val d):=by
 obtain⟨c1,c2⟩:=(ZyW _ _).mp c
 have c1:=(Zxg _).mp c1
 have e:(Xl S n sc U args).bind (λas=>(S.cl x as).map AV.val)=some (.val d):=by rw[h1,Zy2,h2];rfl
 refine (if_pos c2).trans ?_
 refine (uU λe=>zP λy as=>?_).trans e
 rw[c1];rfl
theorem Kp       (c:(p.endLine==q.line&&decide (args.length<29)&&V4 o)=true)(h1:ev S n sc U o=some a)(h2:Xl S n sc U args=some as)(h3:S.mt name a as=some d):ev S (n+1) sc U (.Call (.Attribute o name p) args [] q)=some (.val d):=by
 refine (if_pos c).trans ?_
 rw[h1,Zy2,h2,Zy2,h3];rfl
theorem Ur:Xl S (n+1) sc U []=some []:=rfl
theorem VP     (c:notStar e=true)(h1:ev S n sc U e=some a)(h2:Xl S n sc U r=some as):Xl S (n+1) sc U (e::r)=some (a::as):=by
 refine (if_pos c).trans ?_
 rw[h1,Zy2,h2];rfl
theorem rS:Ft S (n+1) sc U none=some none:=rfl
theorem rT   (h:ev S n sc U e=some (.val (.int i))):Ft S (n+1) sc U (some e)=some (some i):=by
 show ((ev S n sc U e).bind _)=_
 rw[h];rfl
theorem Vp     (c:Zxx op r=false)(h1:ev S n sc U l=some a)(h2:ev S n sc U r=some b)(h3:Ys op a b=some d):Yi S (n+1) sc U (.Compare l [op] [r] p)=some d:=by
 refine (if_neg (ne_true_of_eq_false c)).trans ?_
 rw[h1,Zy2,h2,Zy2,h3]
theorem dW   (h:Wg S n sc U true vs=some b):Yi S (n+1) sc U (.BoolOp .And vs p)=some b:=h
theorem P4   (h:Wg S n sc U false vs=some b):Yi S (n+1) sc U (.BoolOp .Or vs p)=some b:=h
theorem eU    (c:Jh e=true)(h1:ev S n sc U e=some (.val d))(h2:JC d=some b):Yi S (n+1) sc U e=some b:=by
 have e1:Yi S (n+1) sc U e=if Jh e then (ev S n sc U e).bind λa=>a.ZF.bind JC else none:=by
  cases e<;>first |rfl |cases c
 rw[e1,if_pos c,h1];exact h2
theorem P6 :Wg S (n+1) sc U all []=some all:=rfl
theorem NY    (h1:Yi S n sc U e=some all)(h2:Wg S n sc U all r=some b):Wg S (n+1) sc U all (e::r)=some b:=by
 show ((Yi S n sc U e).bind λb=>if b==all then Wg S n sc U all r else some b)=_
 rw[h1,Zy2,if_pos (beq_self_eq_true _),h2]
theorem l8   (h1:Yi S n sc U e=some false):Wg S (n+1) sc U true (e::r)=some false:=by
 show ((Yi S n sc U e).bind _)=_
 rw[h1];rfl
theorem l7   (h1:Yi S n sc U e=some true):Wg S (n+1) sc U false (e::r)=some true:=by
 show ((Yi S n sc U e).bind _)=_
 rw[h1];rfl
theorem lh    (h:ev S n sc U e=some (.val (.bool b))):V2 S (n+1) sc U op [e]=some b:=by
 show ((ev S n sc U e).bind _)=_
 rw[h];rfl
theorem ll    (h1:ev S n sc U e=some (.val (.bool true)))(h2:V2 S n sc U .And (f::r)=some b):V2 S (n+1) sc U .And (e::f::r)=some b:=by
 show ((ev S n sc U e).bind _)=_
 rw[h1];exact h2
theorem dY   (h1:ev S n sc U e=some (.val (.bool false))):V2 S (n+1) sc U .And (e::f::r)=some false:=by
 show ((ev S n sc U e).bind _)=_
 rw[h1];rfl
theorem lg    (h1:ev S n sc U e=some (.val (.bool false)))(h2:V2 S n sc U .Or (f::r)=some b):V2 S (n+1) sc U .Or (e::f::r)=some b:=by
 show ((ev S n sc U e).bind _)=_
 rw[h1];exact h2
theorem dZ   (h1:ev S n sc U e=some (.val (.bool true))):V2 S (n+1) sc U .Or (e::f::r)=some true:=by
 show ((ev S n sc U e).bind _)=_
 rw[h1];rfl
theorem Tf{st:Bool}    (h1:ev S n sc U e=some a)(h2:Qj st a=some ds):Qg S (n+1) sc U st e=some ds:=by
 show ((ev S n sc U e).bind _)=_
 rw[h1];exact h2
theorem rH{st:Bool}     (c:Ym sc "range"=true)(h:Xl S n sc U args=some [.val (.int b)])(h2:ZJ (-(2 ^ 62)) (2 ^ 62) b=true):Y1 S (n+1) sc U st (.Name x p1) (.Call (.Name "range" p) args [] q)=some (ZQ 0 b):=by
 show (if Ym sc "range" then (Xl S n sc U args).bind _ else none)=_
 rw[if_pos c,h];exact if_pos h2
theorem rL{st:Bool}     (c:Ym sc "range"=true)(h:Xl S n sc U args=some [.val (.int a),.val (.int b)])(h1:ZJ (-(2 ^ 62)) (2 ^ 62) a=true)(h2:ZJ (-(2 ^ 62)) (2 ^ 62) b=true):Y1 S (n+1) sc U st (.Name x p1) (.Call (.Name "range" p) args [] q)=some (ZQ a b):=by
 show (if Ym sc "range" then (Xl S n sc U args).bind _ else none)=_
 rw[if_pos c,h];exact if_pos (by rw[h1,h2];rfl)
theorem m8       (c:Ym sc "zip"=true)(h:Xl S n sc U args=some [a,b])(h1:listOf a=some l)(h2:listOf b=some m):Y1 S (n+1) sc U false (.Tuple [.Name x p1,.Name y p2] k p3) (.Call (.Name "zip" p) args [] q)=some (Qv l m):=by
 show (if Ym sc "zip" then (Xl S n sc U args).bind _ else none)=_
 rw[if_pos c,h,Zy2]
 show ((listOf a).bind λl=>(listOf b).bind λm=>if (false&&(a.ZF.isNone||b.ZF.isNone))=true then none else some (Qv l m))=_
 rw[h1,Zy2,h2];rfl
theorem Tj{st:Bool}    (h:Qg S n sc U st (.Name y p)=some ds):Y1 S (n+1) sc U st (.Name x p1) (.Name y p)=some ds:=h
theorem mT{st:Bool}       (h:Qg S n sc U st (.Call (.Attribute o m p) args kw q)=some ds):Y1 S (n+1) sc U st (.Name x p1) (.Call (.Attribute o m p) args kw q)=some ds:=by
 cases kw<;>exact h
theorem mR{st:Bool}     (h:Qg S n sc U st (.Subscript o i p)=some ds):Y1 S (n+1) sc U st (.Name x p1) (.Subscript o i p)=some ds:=h
theorem mH{st:Bool}      (h:Qg S n sc U st (.BinOp l op r p)=some ds):Y1 S (n+1) sc U st (.Name x p1) (.BinOp l op r p)=some ds:=h
theorem mU    (h2:ev S n sc (U.set x (.val d)) elt=some (.val y)):YH S (n+1) sc U (.Name x p) [] elt d=some (some y):=congrArg (λo:Option AV=>o.bind λy=>y.ZF.map some) h2
theorem mW    (h2:ev S n sc (U.set x (.val d)) elt=none):YH S (n+1) sc U (.Name x p) [] elt d=none:=congrArg (λo:Option AV=>o.bind λy=>y.ZF.map some) h2
theorem mY    (h2:Yi S n sc (U.set x (.val d)) c=some true)(h3:ev S n sc (U.set x (.val d)) elt=some (.val y)):YH S (n+1) sc U (.Name x p) [c] elt d=some (some y):=by
 show ((Yi S n sc (U.set x (.val d)) c).bind _)=_
 rw[h2]
 exact congrArg (λo:Option AV=>o.bind λy=>y.ZF.map some) h3
theorem mV    (h2:Yi S n sc (U.set x (.val d)) c=some false):YH S (n+1) sc U (.Name x p) [c] elt d=some none:=by
 show ((Yi S n sc (U.set x (.val d)) c).bind _)=_
 rw[h2];rfl
theorem mX    (h2:Yi S n sc (U.set x (.val d)) c=some true)(h3:ev S n sc (U.set x (.val d)) elt=none):YH S (n+1) sc U (.Name x p) [c] elt d=none:=by
 show ((Yi S n sc (U.set x (.val d)) c).bind _)=_
 rw[h2]
 exact congrArg (λo:Option AV=>o.bind λy=>y.ZF.map some) h3
theorem ew  (c:KX i=true)(h1:ev S n sc U o=none):ev S (n+1) sc U (.Subscript o i p)=none:=by
 have e:ev S (n+1) sc U (.Subscript o i p)=(ev S n sc U o).bind λa=>(ev S n sc U i).bind λj=>j.ZF.bind λj=>(ZV a j).map .val:=by
  cases i<;>first |rfl |cases c
 rw[e,h1];rfl
theorem rR  (c:(Y0 x&&!Ym sc x)=true)(h:U x=none):ev S (n+1) sc U (.Name x p)=none:=by
 obtain⟨c1,c2⟩:=(ZyW _ _).mp c
 exact (if_pos c1).trans ((if_neg (ne_true_of_eq_false ((Zxg _).mp c2))).trans h)
theorem rP   (c:(!(y==x))=true)(h:U y=none):(U.set x v) y=none:=(if_neg (ne_of_beq_false ((Zxg _).mp c))).trans h
theorem eY    (h:U x=some (.own l)):U1 scope U x=none:=by
 unfold U1;rw[h];exact ite_self _
section
variable {x z:Str}{p1 p2:Pos}{k:Nat}{elt c:Zyc}{d a b y:PV}
theorem mK(h1:Rf d (.tup [a,b]))(h2:ev S n sc ((U.set x (.val a)).set z (.val b)) elt=some (.val y)):YH S (n+1) sc U (.Tuple [.Name x p1,.Name z p2] k p) [] elt d=some (some y):=by
 rw[h1.h];exact congrArg (λo:Option AV=>o.bind λy=>y.ZF.map some) h2
theorem mQ(h1:Rf d (.tup [a,b]))(h2:Yi S n sc ((U.set x (.val a)).set z (.val b)) c=some true)(h3:ev S n sc ((U.set x (.val a)).set z (.val b)) elt=some (.val y)):YH S (n+1) sc U (.Tuple [.Name x p1,.Name z p2] k p) [c] elt d=some (some y):=by
 rw[h1.h]
 show ((Yi S n sc ((U.set x (.val a)).set z (.val b)) c).bind _)=_
 rw[h2]
 exact congrArg (λo:Option AV=>o.bind λy=>y.ZF.map some) h3
theorem mJ(h1:Rf d (.tup [a,b]))(h2:Yi S n sc ((U.set x (.val a)).set z (.val b)) c=some false):YH S (n+1) sc U (.Tuple [.Name x p1,.Name z p2] k p) [c] elt d=some none:=by
 rw[h1.h]
 show ((Yi S n sc ((U.set x (.val a)).set z (.val b)) c).bind _)=_
 rw[h2];rfl
end
theorem Td  :(U.set x a) x=some a:=if_pos rfl
theorem rE   (c:(!(y==x))=true)(h:U y=some a):(U.set x v) y=some a:=(if_neg (ne_of_beq_false ((Zxg _).mp c))).trans h
theorem eQ      (h:(Zi (U.set x (.val d)) xs ds) y=o):(Zi U (x::xs) (d::ds)) y=o:=h
theorem eJ   (h:U y=o):(Zi U [] []) y=o:=h
theorem ee    (c:(scope.names.lookup x==some .free)=true)(h:U x=some (.val d)):U1 scope U x=some (.val d):=(if_pos (eq_of_beq c)).trans (by rw[h];rfl)
theorem eX    (c:(scope.names.lookup x==some .free)=true)(h:U x=some (.val d)):VT scope U x=some (.val d):=(if_pos (eq_of_beq c)).trans (by rw[h];rfl)
theorem eZ    (c:(scope.names.lookup x==some .free)=true)(h:U x=some (.own l)):VT scope U x=some (.val (.lst l)):=(if_pos (eq_of_beq c)).trans (by rw[h];rfl)
theorem er   (h1:U x=some a)(h2:a.flat=some b):U.flat x=some b:=by
 show (U x).bind _=_
 rw[h1];exact h2
theorem rO   (h1:U x=some a)(h2:a.last=some b):U.last x=some b:=by
 show (U x).bind _=_
 rw[h1];exact h2
end
section
variable {S:Sg}{ow:List Str}{sp:Zx->ZyF->Option (Z9 × Zx)}{wf:Nat}{sc:Zy6}{U σ':Zx}{n:Nat}{p q:Pos}
theorem P5    (c:(YW sc x&&!ow.contains x&&(Vb e||Va e))=true)(h:ev S n sc U e=some (.val d)):Xj ⟨S,ow,sp,wf⟩ (n+1) sc U (.Assign [.Name x p] e q)=some (.Z4,U.set x (.val d)):=by
 obtain⟨c,c3⟩:=(ZyW _ _).mp c
 obtain⟨c1,c2⟩:=(ZyW _ _).mp c
 refine (if_pos c1).trans ((if_neg (ne_true_of_eq_false ((Zxg _).mp c2))).trans ((if_pos c3).trans ?_))
 rw[h];rfl
theorem jN    (c:(YW sc x&&ow.contains x)=true)(h:FV S n sc U e=some ds):Xj ⟨S,ow,sp,wf⟩ (n+1) sc U (.Assign [.Name x p] e q)=some (.Z4,U.set x (.own ds)):=by
 obtain⟨c1,c2⟩:=(ZyW _ _).mp c
 refine (if_pos c1).trans ((if_pos c2).trans ?_)
 rw[h];rfl
theorem mB   (h1:LB S n sc U.flat es ds)(h3:ZqB ds.length Zyk=true):FV S n sc U (.List es p)=some ds:=by
 show ((Xl S n sc U.flat es).bind _)=_
 rw[show Xl S n sc U.flat es=_ from h1,Zy2,Bx];exact if_pos (Zva h3)
theorem rC       (c0:Rf (sp U (.Assign [.Tuple ts k tp] e q)) none)(c1:Rf (Dz ts) (some xs))(c:((U7 ts e&&Vb e)&&(xs.all (YW sc)&&IA xs))=true)(h:ev S n sc U e=some (.val (.tup ds)))(c2:Rf ds.length xs.length):
 Xj ⟨S,ow,sp,wf⟩ (n+1) sc U (.Assign [.Tuple ts k tp] e q)=some (.Z4,Zi U xs ds):=by
 obtain⟨c3,c4⟩:=(ZyW _ _).mp c
 show Ua (sp U (.Assign [.Tuple ts k tp] e q)) _=_
 rw[c0.h]
 refine (if_pos c3).trans ?_
 rw[c1.h]
 refine (if_pos c4).trans ?_
 rw[h];exact if_pos c2.h
theorem l5     (c:(YW sc x&&Y0 x)=true)(h1:U x=some (.val a))(h2:ev S n sc U e=some (.val b))(h3:NG op a b=some d):Xj ⟨S,ow,sp,wf⟩ (n+1) sc U (.AugAssign (.Name x p) op e q)=some (.Z4,U.set x (.val d)):=by
 refine (if_pos c).trans ?_
 rw[h1]
 show ((ev S n sc U e).bind _)=_
 rw[h2]
 exact congrArg (Zqh λd=>(Z9.Z4,U.set x (.val d))) h3
theorem Ue    (h1:Yi S n sc U t=some true)(h2:Xm ⟨S,ow,sp,wf⟩ n sc U body=some r):Xj ⟨S,ow,sp,wf⟩ (n+1) sc U (.If t body LN p)=some r:=by
 show ((Yi S n sc U t).bind _)=_
 rw[h1];exact h2
theorem QX    (h1:Yi S n sc U t=some false)(h2:Xm ⟨S,ow,sp,wf⟩ n sc U LN=some r):Xj ⟨S,ow,sp,wf⟩ (n+1) sc U (.If t body LN p)=some r:=by
 show ((Yi S n sc U t).bind _)=_
 rw[h1];exact h2
theorem Kb   (h:QY sc S n U e=some d):Xj ⟨S,ow,sp,wf⟩ (n+1) sc U (.Return (some e) p)=some (.ret d,U):=by
 show (QY sc S n U e).map _=_
 rw[h];rfl
theorem Nd   (h:ev S n sc U e=some (.val d))(c:Yv d=true):QY sc S n U e=some d:=by
 unfold QY;rw[h];exact if_pos c
theorem qf   (h:∀a,ev S n sc U e=some (.val a)->Yv a=true->a=d)(h2:ev S n sc U.last e=some (.val d)):QY sc S n U e=some d:=by
 have l:(ev S n sc U.last e).bind AV.ZF=some d:=by rw[h2];rfl
 unfold QY
 cases he:ev S n sc U e with
 |none=>exact l
 | some a=>cases a with
   | val a=>
     show (if Yv a then some a else _)=_
     by_cases hf:Yv a=true
     ·rw[if_pos hf,h a he hf]
     ·rw[if_neg hf];exact l
   |own _=>exact l
   |tab _ _=>exact l
theorem qg   (h:ev S n sc U e=none)(h2:ev S n sc U.last e=some (.val d)):QY sc S n U e=some d:=qf (λa ha=>by rw[h] at ha;cases ha) h2
theorem rN    (h:ev S n sc U e=some (.own l))(h2:ev S n sc U.last e=some (.val d)):QY sc S n U e=some d:=qf (λa ha=>by rw[h] at ha;cases ha) h2
theorem rM   (h:ev S n sc U e=some (.val d))(h2:ev S n sc U.last e=some (.val d)):QY sc S n U e=some d:=qf (λa ha _=>by rw[h] at ha;cases ha;rfl) h2
theorem TM    (h1:Xl S n sc U es=some as)(h2:Rf (as.mapM AV.ZF) none):ev S (n+1) sc U (.Tuple es k p)=none:=by
 show ((Xl S n sc U es).bind λas=>(as.mapM AV.ZF).bind λds=>if ds.length<=Zyk then some (AV.val (.tup ds)) else none)=_
 rw[h1,Zy2,h2.h];rfl
theorem l6   (h:Yi S n sc U t=some true):Xj ⟨S,ow,sp,wf⟩ (n+1) sc U (.Assert t om p)=some (.Z4,U):=by
 show ((Yi S n sc U t).bind _)=_
 rw[h];rfl
theorem lj       (c:Y0 x=true)(h1:U x=some (.own ds))(h2:ev S n sc U i=some (.val (.int j)))(h3:seqIndex? j ds.length=some m)(h4:m<ds.length/\Zwb j=true/\ds.length<=Zyk):
 Xj ⟨S,ow,sp,wf⟩ (n+1) sc U (.Delete [.Subscript (.Name x p) i p2] q)=some (.Z4,U.set x (.own (ds.eraseIdx m))):=by
 refine (if_pos c).trans ?_
 rw[h1]
 show ((ev S n sc U i).bind _)=_
 rw[h2]
 show ((seqIndex? j ds.length).bind _)=_
 rw[h3];exact if_pos h4
theorem jT      (c0:Rf (sp U (.Expr (.Call (.Attribute (.Name x p) "append" ap) [e] [] cp) q)) none)(c:(Y0 x&&ap.endLine==cp.line&&notStar e)=true)(h1:U x=some (.own ds))(h2:ev S n sc U.flat e=some (.val d))(h3:ds.length<=Zyk):
 Xj ⟨S,ow,sp,wf⟩ (n+1) sc U (.Expr (.Call (.Attribute (.Name x p) "append" ap) [e] [] cp) q)=some (.Z4,U.set x (.own (ds++[d]))):=by
 show Ua (sp U (.Expr (.Call (.Attribute (.Name x p) "append" ap) [e] [] cp) q)) _=_
 rw[c0.h]
 refine (if_pos c).trans ?_
 rw[h1]
 show ((ev S n sc U.flat e).bind _)=_
 rw[h2];exact if_pos h3
theorem mF       (c0:Rf (sp U (.Expr (.Call (.Attribute (.Name x p) "remove" ap) [e] [] cp) q)) none)(c:(Y0 x&&ap.endLine==cp.line&&notStar e)=true)(h1:U x=some (.own ds))(h2:ev S n sc U e=some (.val d))(h3:WU d ds=some j)(h4:ds.all (λa=>alike a d&&decide (dep a<=5))=true)(h5:ds.length<=Zyk):
 Xj ⟨S,ow,sp,wf⟩ (n+1) sc U (.Expr (.Call (.Attribute (.Name x p) "remove" ap) [e] [] cp) q)=some (.Z4,U.set x (.own (ds.eraseIdx j))):=by
 show Ua (sp U (.Expr (.Call (.Attribute (.Name x p) "remove" ap) [e] [] cp) q)) _=_
 rw[c0.h]
 refine (if_pos c).trans ?_
 rw[h1]
 show ((ev S n sc U e).bind _)=_
 rw[h2]
 show ((WU d ds).bind _)=_
 rw[h3];exact if_pos ((ZyW _ _).mpr ⟨h4,decide_eq_true h5⟩)
theorem mI     (h:sp U (.Expr (.Call (.Attribute (.Name x p1) m p2) [e] [] p3) q)=some r):Xj ⟨S,ow,sp,wf⟩ (n+1) sc U (.Expr (.Call (.Attribute (.Name x p1) m p2) [e] [] p3) q)=some r:=by
 show Ua (sp U (.Expr (.Call (.Attribute (.Name x p1) m p2) [e] [] p3) q)) _=_
 rw[h];rfl
theorem rB      (h:sp U (.Assign [.Tuple ts k tp] e q)=some r):Xj ⟨S,ow,sp,wf⟩ (n+1) sc U (.Assign [.Tuple ts k tp] e q)=some r:=by
 show Ua (sp U (.Assign [.Tuple ts k tp] e q)) _=_
 rw[h];rfl
theorem VA:Xm ⟨S,ow,sp,wf⟩ (n+1) sc U []=some (.Z4,U):=rfl
theorem Ub{st:ZyF}   (h1:Xj ⟨S,ow,sp,wf⟩ n sc U st=some (.Z4,σ'))(h2:Xm ⟨S,ow,sp,wf⟩ n sc σ' ss=some r):Xm ⟨S,ow,sp,wf⟩ (n+1) sc U (st::ss)=some r:=by
 show ((Xj ⟨S,ow,sp,wf⟩ n sc U st).bind _)=_
 rw[h1];exact h2
theorem Iv{st:ZyF}   (h1:Xj ⟨S,ow,sp,wf⟩ n sc U st=some (.ret d,σ')):Xm ⟨S,ow,sp,wf⟩ (n+1) sc U (st::ss)=some (.ret d,σ'):=by
 show ((Xj ⟨S,ow,sp,wf⟩ n sc U st).bind _)=_
 rw[h1];rfl
theorem um   (h:U x=some (.val v)):Jg U (.Name x p)=U:=by
 show (match U x with |some v=>(match v with |.own ds=>U.set x (.val (.lst ds)) |_=>U) |none=>U)=U
 rw[h]
theorem HV   (h:U x=some (.own ds)):Jg U (.Name x p)=U.set x (.val (.lst ds)):=by
 show (match U x with |some v=>(match v with |.own ds=>U.set x (.val (.lst ds)) |_=>U) |none=>U)=_
 rw[h]
theorem uh  (h:isName e=false):Jg U e=U:=Xy (e:=e) (d:=U) (r:=Jg U e) rfl (λx p e1 _=>by rw[e1] at h;cases h) Eq.symm
theorem KQ        (h0:Jg U iter=σ2)(h1:YW sc x=true)(h2:Xe iter=true)(h4:Y1 T.sg n sc σ2 true (.Name x p1) iter=some ds):
 Xj T (n+1) sc U (.For (.Name x p1) iter body [] p2)=QK (λU d=>Xm T n sc (U.set x (.val d)) body) ds σ2:=by
 refine (if_pos (show (([x].all (YW sc))&&Xe iter)=true from by rw[Zxj,h1,h2];rfl)).trans ?_
 show ((Y1 T.sg n sc (Jg U iter) true (.Name x p1) iter).bind λes=>QK _ es (Jg U iter))=_
 rw[h0,h4];rfl
end
end Mine.Internal.L1
end
section
open PySem PySem.W PyProof.Rows
open Sem (wp)
namespace Mine.Internal
open Mine.Internal.L1
noncomputable def gA(pp:Nat->Pos)(nn:Nat->Nat):ZyF:=.Assign [.Name "name" (pp 0)] (.Call (.Attribute (.Name "self" (pp 1)) "_convert_string_type" (pp 2)) [.Call (.Attribute (.Name "name" (pp 3)) "lower" (pp 4)) [] [] (pp 5)] [⟨some "name",.Constant (.bool true) (nn 0) (pp 6),(pp 7)⟩] (pp 8)) (pp 9)
noncomputable def gT(pp:Nat->Pos)(nn:Nat->Nat):Zyc:=.Tuple [.Name "k" (pp 10),.Name "v" (pp 11)] (nn 1) (pp 12)
noncomputable def gB(pp:Nat->Pos):ZyF:=.If (.Compare (.Call (.Attribute (.Name "k" (pp 15)) "lower" (pp 16)) [] [] (pp 17)) [.Eq] [.Name "name" (pp 18)] (pp 19)) [.Return (some (.Name "v" (pp 20))) (pp 21)] [] (pp 22)
def gF(pp:Nat->Pos)(nn:Nat->Nat):ZyF:=.For (gT pp nn) (.Attribute (.Name "self" (pp 13)) "_headers" (pp 14)) [gB pp] [] (pp 23)
noncomputable def gR(pp:Nat->Pos):ZyF:=.Return (some (.Name "default" (pp 24))) (pp 25)
def Bt(body:List ZyF):Prop:=∃(pp:Nat->Pos)(nn:Nat->Nat),body=[gA pp nn,gF pp nn,gR pp]/\((pp 4).endLine==(pp 5).line)=true/\((pp 2).endLine==(pp 8).line)=true/\((pp 16).endLine==(pp 17).line)=true
noncomputable def locs(sc:Zy6)(xs:List Str):Bool:=xs.all λx=>sc.names.lookup x==some .local
theorem WW   (h:locs sc xs=true)  (hx:x∈xs):Ym sc x=false/\YW sc x=true:=by
 have:=ZyV.mp h x hx
 have:=beq_iff_eq.mp this
 constructor
 ·unfold Ym;rw[this];rfl
 ·unfold YW;rw[this];rfl
def Tg(c:Zya):St:=⟨(⟨I1,Xx,λ_=>none,λ_ _ _=>none⟩:Sg).hd c 20,[],λ_ _=>none,100⟩
noncomputable def DA:Option Str->PV
 |some v=>.str v
 |none=>.none
noncomputable def YE(l:List (Str × Str))(nm:Str):Option Str:=(l.find? λkv=>ZyU kv.1==ZyU nm).map (·.2)
set_option maxHeartbeats 2000000 in
theorem zZ      (hk:Ym sc "k"=false)(hv:Ym sc "v"=false)(hn:Ym sc "name"=false)(hl:((pp 16).endLine==(pp 17).line)=true)
 (hs:U "name"=some (.val (.str L))) (ha:a.length<=5592405):Xm (Tg c) 15 sc (Zi U ["k","v"] [.str a,.str b]) [gB pp]=some (if (ZyU a==L)=true then .ret (.str b) else .Z4,Zi U ["k","v"] [.str a,.str b]):=by
 have e1:∀x as,(Tg c).sg.mt x as=Xx x as:=λ_ _=>rfl
 have e2:Xx "lower" (.val (.str a)) []=some (.str (ZyU a)):=by
  exact (if_pos ha).trans rfl
 have hb:Yi (Tg c).sg 13 sc (Zi U ["k","v"] [.str a,.str b]) (.Compare (.Call (.Attribute (.Name "k" (pp 15)) "lower" (pp 16)) [] [] (pp 17)) [.Eq] [.Name "name" (pp 18)] (pp 19))=some (ZyU a==L):=
  Vp tF (Kp (by rw[hl];rfl) (UO (by rw[hk];rfl) (a:=.val (.str a)) rfl) Ur e2) (UO (by rw[hn];rfl) (a:=.val (.str L)) hs) (ko.trans (congrArg some To))
 cases h:(ZyU a==L) with
 |true=>rw[h] at hb;exact Iv (Ue hb (Iv (Kb (Nd (UO (by rw[hv];rfl) (a:=.val (.str b)) rfl) rfl))))
 |false=>rw[h] at hb;exact Ub (QX hb VA) VA
theorem zX   (hf:∀U a b,U "name"=some (.val (.str L))->a.length<=5592405->f U (.tup [.str a,.str b])=some (if (ZyU a==L)=true then .ret (.str b) else .Z4,Zi U ["k","v"] [.str a,.str b]))(l:List (Str × Str)):
 ∀U:Zx,(∀x∈l,x.1.length<=5592405)->U "name"=some (.val (.str L))->
 ∃σ',QK f (pairs l) U=some ((match (l.find? λkv=>ZyU kv.1==L).map (·.2) with |some v=>Z9.ret (.str v) |none=>.Z4),σ')/\σ' "default"=U "default":=by
 induction l with
 |nil=>exact λU _ _=>⟨U,rfl,rfl⟩
 | cons x l ih=>
   intro U hx hs
   show ∃σ',((f U (.tup [.str x.1,.str x.2])).bind _)=_/\_
   rw[hf U x.1 x.2 hs (hx x (.head _)),Zvk]
   cases h:(ZyU x.1==L) with
   |true=>exact⟨_,rfl,rfl⟩
   | false=>
     obtain⟨σ',h1,h2⟩:=ih _ (λy hy=>hx y (.tail _ hy)) (show (Zi U ["k","v"] [.str x.1,.str x.2]) "name"=some (.val (.str L)) from hs)
     exact⟨σ',h1,h2⟩
def σG(d:PV)(nm:Str):Zx:=Zx.set (Zx.set (Zx.set (λ_=>none) "self" (.val d)) "name" (.val (.str nm))) "default" (.val .none)
def σL(d:PV)(nm L:Str):Zx:=(σG d nm).set "name" (.val (.str L))
theorem yF  :σG d nm "self"=some (.val d):=(Zx.Vx (by decide)).trans ((Zx.Vx (by decide)).trans (Zx.UC))
theorem dq  :σG d nm "name"=some (.val (.str nm)):=(Zx.Vx (by decide)).trans (Zx.UC)
theorem dy  :σL d nm L "self"=some (.val d):=(Zx.Vx (by decide)).trans yF
theorem dw  :σL d nm L "name"=some (.val (.str L)):=Zx.UC
theorem du  :σL d nm L "default"=some (.val .none):=(Zx.Vx (by decide)).trans (Zx.UC)
section
variable {c:Zya}{sc:Zy6}{l:List (Str × Str)}{nm:Str}{pp:Nat->Pos}{nn:Nat->Nat}
theorem ub(gn:Ym sc "name"=false)(sn:YW sc "name"=true)(hn:nm.length<=5592405)(Wx:ZL (ZyU nm))(l1:((pp 4).endLine==(pp 5).line)=true)(l2:((pp 2).endLine==(pp 8).line)=true):
 Xj (Tg c) 17 sc (σG (.box (Z8 c) [] (pairs l)) nm) (gA pp nn)=some (.Z4,σL (.box (Z8 c) [] (pairs l)) nm (ZyU nm)):=
 have e2:Xx "lower" (.val (.str nm)) []=some (.str (ZyU nm)):=(if_pos hn).trans rfl
 have eL:ev ⟨I1,Xx,λ_=>none,λ_ _ _=>none⟩ 20 sc (σG (.box (Z8 c) [] (pairs l)) nm) (.Call (.Attribute (.Name "name" (pp 3)) "lower" (pp 4)) [] [] (pp 5))=some (.val (.str (ZyU nm))):=Kp (by rw[l1];rfl) (UO (by rw[gn];rfl) dq) Ur e2
 P5 (by rw[sn];rfl) (PO (p:=pp 1) (by decide) l2 rfl yF eL Wx)
theorem uc(gk:Ym sc "k"=false)(gv:Ym sc "v"=false)(gn:Ym sc "name"=false)(sk:YW sc "k"=true)(sv:YW sc "v"=true)(hl:∀x∈l,x.1.length<=5592405)(l3:((pp 16).endLine==(pp 17).line)=true):
 ∃σ',Xj (Tg c) 16 sc (σL (.box (Z8 c) [] (pairs l)) nm (ZyU nm)) (gF pp nn)=some ((match (l.find? λkv=>ZyU kv.1==ZyU nm).map (·.2) with |some v=>Z9.ret (.str v) |none=>.Z4),σ')/\σ' "default"=some (.val .none):=
 (zX (f:=λU d=>(partsOf (gT pp nn) d).bind λps=>Xm (Tg c) 15 sc (Zi U (Zc (gT pp nn)) ps) [gB pp]) (λU a b hs ha=>zZ (c:=c) gk gv gn l3 hs ha) l _ hl dw).imp λσ' z=>⟨by
  have tg:(Zc (gT pp nn)).all (YW sc)=true:=by
   show [("k":Str),"v"].all (YW sc)=true
   rw[Zxj,Zxj,sk,sv];rfl
  have x2:Nk c ⟨I1,Xx,λ_=>none,λ_ _ _=>none⟩ 20 sc (σL (.box (Z8 c) [] (pairs l)) nm (ZyU nm)) (.Attribute (.Name "self" (pp 13)) "_headers" (pp 14))=some (.val (.lst (pairs l))):=Fp (by decide) dy
  have ei:Y1 (Tg c).sg 15 sc (σL (.box (Z8 c) [] (pairs l)) nm (ZyU nm)) true (gT pp nn) (.Attribute (.Name "self" (pp 13)) "_headers" (pp 14))=some (pairs l):=by
   show ((Nk c ⟨I1,Xx,λ_=>none,λ_ _ _=>none⟩ 20 sc _ _).bind _)=_
   rw[x2]
   refine if_pos ?_
   unfold pairs
   rw[List.all_map,ZyV]
   intro x _;rfl
  refine (if_pos (by rw[tg];rfl)).trans ?_
  show ((Y1 (Tg c).sg 15 sc (σL (.box (Z8 c) [] (pairs l)) nm (ZyU nm)) true (gT pp nn) (.Attribute (.Name "self" (pp 13)) "_headers" (pp 14))).bind _)=_
  rw[ei]
  exact z.1
  ,z.2.trans du⟩
end
theorem ud    (hB:Bt body)(Q5:locs sc ["self","name","default","k","v"]=true)   (hl:∀x∈l,x.1.length<=5592405)(hn:nm.length<=5592405)(Wx:ZL (ZyU nm)):
 ∃σ',Xm (Tg c) 18 sc (Zi (λ_=>none) ["self","name","default"] [.box (Z8 c) [] (pairs l),.str nm,.none]) body=some (.ret (DA (YE l nm)),σ'):=
 hB.elim λpp t=>t.elim λnn t=>(uc (c:=c) (l:=l) (nm:=nm) (pp:=pp) (nn:=nn) (WW Q5 (.tail _ (.tail _ (.tail _ (.head _))))).1 (WW Q5 (.tail _ (.tail _ (.tail _ (.tail _ (.head _)))))).1 (WW Q5 (.tail _ (.head _))).1 (WW Q5 (.tail _ (.tail _ (.tail _ (.head _))))).2 (WW Q5 (.tail _ (.tail _ (.tail _ (.tail _ (.head _)))))).2 hl t.2.2.2).elim λσ' z=>⟨σ',by
  have gn:=WW Q5 (.tail _ (.head _))
  have h1:=ub (c:=c) (l:=l) (nn:=nn) gn.1 gn.2 hn Wx t.2.1 t.2.2.1
  rw[t.1]
  unfold YE
  have h2:=z.1
  revert h2
  cases (l.find? λkv=>ZyU kv.1==ZyU nm).map (·.2) with
  |some v=>exact λh=>Ub h1 (Iv h)
  |none=>exact λh=>Ub h1 (Ub h (Iv (Kb (Nd (UO (by rw[(WW Q5 (.tail _ (.tail _ (.head _)))).1];rfl) z.2) rfl))))⟩
section
variable {C:Cx}{k:Nat}{F:Y7}{U σ':Zx}{s s' s₁:Zym}{h h':Zyp}{env:Env}{A:Zxd}{E:Zyd->Zym->Prop}
theorem Lz       (h1:Ev C k env U e1 (.str a))(h2:Ev C k env U e2 (.str b))(n1:notStar e1=true)(n2:notStar e2=true)
 (hr:Yw k A) (hg:C.G s.heap) (hh:X7 P env U s.heap) (hb:ZD P s.heap)
 (q:∀s' u w,ZyA s s'->Q (.ref s'.heap.objs.size) { s' with heap:=s'.heap.push { cls:=.type "tuple",data:=.seq #[.str a u,.str b w] } }):
 wpAny C.M A (eval (.Tuple [e1,e2] n pos) env) Q E s:=by
 have ha:ZW C k env U [e1,e2] [.val (.str a),.val (.str b)]:=ZW.cons h1 (ZW.cons h2 ZW.nil (Wy n2)) (Wy n1)
 show wpAny C.M A (do standAt pos;newTuple (<-spliced (backTo pos (Zxn [e1,e2] env)))) Q E s
 refine Zyf (Zx3 (Zyf (ha.spliced hr hg hh hb λvs s₁ k₁ r₁=>?_)))
 obtain⟨v,w,rfl,r1,r2⟩:=VE r₁
 obtain⟨u,rfl⟩:=Y2 r1
 obtain⟨t,rfl⟩:=Y2 r2
 exact wpAny_newTuple (q s₁ u t k₁) (by show 2<=Zyk;decide)
noncomputable def Kl(c x d b:Zya):ja where
 R:=λP _ vs h v=>v=.ref x/\P x/\P d/\P b/\TabAt h c x d b vs
 mono:=λP P' ks vs h h' v hP hk t=>have T:=t.2.2.2.2
  ⟨t.1,T.lives.1.elim λo e=>hP _ _ e t.2.1,T.lives.2.1.elim λo e=>hP _ _ e t.2.2.1,T.lives.2.2.elim λo e=>hP _ _ e t.2.2.2.1,T.at λa o q e=>hk a o (q.elim (λq=>q ▸ t.2.1) λq=>q.elim (λq=>q ▸ t.2.2.1) λq=>q ▸ t.2.2.2.1) e⟩
theorem z8      (r:Rep P h (.box (Kl c x d b) [] l) v):Rep P h (.box (Z8 c) [] l) v:=ZyK (λvs t=>⟨⟨x,d,b,t.1⟩,t.2⟩) r
theorem H8      {R:Prop}(r:Rep P h (.box (Kl c x d b) [] l) v)(q:∀vs,v=.ref x->P x->P d->P b->TabAt h c x d b vs->Zy P h l vs->R):R:=
 Zxm r λvs t=>q vs t.1.1 t.1.2.1 t.1.2.2.1 t.1.2.2.2.1 t.1.2.2.2.2 t.2
theorem Ev.xF    (h:Ev C k env U e (.box (Kl c x d b) [] l)):Ev C k env U e (.box (Z8 c) [] l):=λA s Q E P hr hg hh hb q=>
 h A s Q E P hr hg hh hb λv s' ks r=>q v s' ks (z8 r)
variable {N M:Zya->Prop}{c Nc:Zya}{mN:Str->Option Zyd}{k2 k3:Option Zyd}
theorem B3(H:Uz C c Nc mN k2 k3)      {tk:Nat}  (hf:Zp F.env)(hr:Yw k A)(I:Inv C F N M U s.heap)
 (hs:U "self"=some (.val (.box (Kl c x d b) [] l))) (h1:Ev C k F.env U e1 (.str nm)) (h2:Ev C k F.env U e2 (.str val)) (n1:notStar e1=true) (n2:notStar e2=true) (ZC:(p3.endLine==p5.line)=true) (hi:interactive F.env=false)
 (Yh:l.length<=Zyk)
 (q:∀s₁ u w h' vs n,ZyA s s₁->s.heap.get? b=some { cls:=.type "list",data:=.seq vs n }->s₁.heap.get? s₁.heap.objs.size=none->Zwu b (s₁.heap.push { cls:=.type "tuple",data:=.seq #[.str nm u,.str val w] }) h'->
  h'.PlainList b (vs.push (.ref s₁.heap.objs.size))->Q .next { s₁ with heap:=h' }):
 wpAny C.M A (exec (.Expr (.Call (.Attribute (.Attribute (.Name "self" p1) "_headers" p2) "append" p3) [.Tuple [e1,e2] tk p4] [] p5) p6) F.env) Q E s:=by
 refine wpAny_Expr ?_ hi rfl
 refine wpAny_Call_method (T:="list") (id:="list.append") rfl rfl ZC Zw4 slot_list_append Zv8 ?_
 have es:Z1 C k F.env U (.Name "self" p1) (.val (.box (Kl c x d b) [] l)):=Z1.name hf hs (by decide) (by decide)
 refine Ib H rfl (es A s _ _ (F.out M) hr I.G I.has I.YB λv s₁ k₁ r₁=>H8 r₁ λvs ev px pd pb T ra=>T.list.elim λws t=>t.elim λn t=>?_)
 have x₁:=Zw k₁
 have ea:vs.length=l.length:=ra.length
 refine⟨x,d,b,vs,ev,T,C.ext I.G x₁,⟨_,t.1,rfl⟩,λa e=>⟨_,Zvp e ▸ t.1,rfl⟩,ZxK rfl (Zvh ?_)⟩
 have I₁:Inv C F N M U ({ s₁ with toks:=s₁.toks+1 }:Zym).heap:=I.keeps x₁
 show wpAny C.M A (spliced (backTo p5 (Zxn [.Tuple [e1,e2] tk p4] F.env))) _ E _
 refine ZxR (Lz (P:=F.out M) h1 h2 n1 n2 hr I₁.G I₁.has I₁.YB λs₂ u w k₂=>ZwV ?_) rfl
 have xo:ZyA s₁ s₂:=Zu (ZU s₁ _) k₂
 have R5:s.heap.get? b=some { cls:=.type "list",data:=.seq ws n }:=(I.has _ _ hs).elim λv0 z=>H8 z.2 λRd _ _ _ _ T0 _=>T0.list.elim λbI t0=>t0.elim λn0 t0=>t0.1.trans ((x₁ _ _ t0.1).symm.trans t.1)
 exact wpAny_list_append_plain ⟨n,Zyo _ (Zw xo _ _ t.1)⟩ (λh' Qz Q6=>q s₂ u w h' ws n (Zu k₁ xo) R5 (YN _) Q6 Qz) (Zyi (Zxc ((congrArg Zxe t.2).trans ea)) Yh)
noncomputable def de(pp:Nat->Pos):Zyc:=.Call (.Attribute (.Name "self" (pp 1)) "get" (pp 2)) [.Name "name" (pp 3)] [] (pp 4)
def aj(pp:Nat->Pos):ZyF:=.Assign [.Name "result" (pp 0)] (de pp) (pp 5)
noncomputable def au(pp:Nat->Pos)(nn:Nat->Nat):Zyc:=.Compare (.Name "result" (pp 6)) [.Is] [.Constant .none (nn 0) (pp 7)] (pp 8)
noncomputable def rV(pp:Nat->Pos)(nn:Nat->Nat):Zyc:=.Call (.Attribute (.Name "self" (pp 15)) "_convert_string_type" (pp 16)) [.Name "name" (pp 17)] [⟨some "name",.Constant (.bool true) (nn 1) (pp 18),(pp 19)⟩] (pp 20)
noncomputable def rX(pp:Nat->Pos)(nn:Nat->Nat):Zyc:=.Call (.Attribute (.Name "self" (pp 21)) "_convert_string_type" (pp 22)) [.Name "value" (pp 23)] [⟨some "name",.Constant (.bool false) (nn 2) (pp 24),(pp 25)⟩] (pp 26)
def aq(pp:Nat->Pos)(nn:Nat->Nat):ZyF:=.Expr (.Call (.Attribute (.Attribute (.Name "self" (pp 9)) "_headers" (pp 10)) "append" (pp 11)) [.Tuple [rV pp nn,rX pp nn] (nn 3) (pp 12)] [] (pp 13)) (pp 14)
noncomputable def qj(pp:Nat->Pos):ZyF:=.Return (some (.Name "value" (pp 27))) (pp 28)
noncomputable def rW(pp:Nat->Pos):ZyF:=.Return (some (.Name "result" (pp 29))) (pp 30)
def Ce(body:List ZyF):Prop:=∃(pp:Nat->Pos)(nn:Nat->Nat),body=[aj pp,.If (au pp nn) [aq pp nn,qj pp] [rW pp] (pp 31)]/\
 ((pp 2).endLine==(pp 4).line)=true/\((pp 11).endLine==(pp 13).line)=true/\((pp 16).endLine==(pp 20).line)=true/\((pp 22).endLine==(pp 26).line)=true
end
noncomputable abbrev jk:Sg:=⟨I1,Xx,λ_=>none,λ_ _ _=>none⟩
structure HdOK2(C:Cx)(c N:Zya)(mN:Str->Option Zyd)(k2 k3:Option Zyd):Prop extends HdOK C c N mN k2 k3 where
 sg:Xs C 0 jk
structure VR(C:Cx)(c N:Zya)(mN:Str->Option Zyd)(k2 k3:Option Zyd):Prop extends HdOK2 C c N mN k2 k3 where
 get:∃sc body,WN C mN "get" sc body ["self","name","default"] 2 [] [.none]/\Bt body/\locs sc ["self","name","default","k","v"]=true/\X0 sc ["self","name","default"]=true
 Cw:∃sc body,WN C mN "setdefault" sc body ["self","name","value"] 3 [] []/\Ce body/\locs sc ["self","name","value","result"]=true/\X0 sc ["self","name","value"]=true
section
variable {C:Cx}{k:Nat}{F:Y7}{U σ':Zx}{s s' s₁:Zym}{h h':Zyp}{env:Env}{A:Zxd}{E:Zyd->Zym->Prop}
variable {c N:Zya}{mN:Str->Option Zyd}{k2 k3:Option Zyd}
theorem VR.ua(H:VR C c N mN k2 k3){l:List (Str × Str)}{nm:Str}(hl:∀x∈l,x.1.length<=5592405)(hn:nm.length<=5592405)(Wx:ZL (ZyU nm)):
 ∃f,Xw C mN "get" f/\ZM C (k+2) (.ref f) [.val (.box (Z8 c) [] (pairs l)),.val (.str nm)] (DA (YE l nm)):=by
 obtain⟨sc,body,hD,hL,Fc,hp⟩:=H.get
 obtain⟨σ',he⟩:=ud (c:=c) hL Fc hl hn Wx
 obtain⟨f,h1,h2⟩:=hD.call (k:=k+1) (as:=[.val (.box (Z8 c) [] (pairs l)),.val (.str nm)]) (DG:=[.none]) (af:=.ret (DA (YE l nm))) hp rfl rfl (λP h=>Zy.one (Y9.mpr rfl)) (.inl rfl) λF hs hF=>
  ⟨σ',(QM (T:=Tg c) (X9.hd H.toHdOK (H.sg _ (ZyS _)) 20) hF (J6 _ _ F rfl) 18).2 _ _ _ _ (by rw[hs];exact he)⟩
 exact⟨f,h1,h2.nil⟩
theorem Ev.conv(H:HdOK C c N mN k2 k3)       (hf:Zp env)(hs:Ev C (k+1) env U (.Name x p1) (.box (Z8 c) [] l))(hy:U y=some (.val (.str t)))(BD:Y0 y=true)(ht:ZL t)
 (ZC:(p2.endLine==p6.line)=true):Ev C (k+1) env U (.Call (.Attribute (.Name x p1) "_convert_string_type" p2) [.Name y p3] [⟨some "name",.Constant (.bool b) bk p4,p5⟩] p6) (.str t):=by
 obtain⟨f,hm,hc⟩:=H.MC (k:=k) (b:=b) (a:=.val (.box (Z8 c) [] l)) ht
 exact Ev.Am H.cls hs hm (Z1.name hf hy (Yz BD).1 (Yz BD).2) rfl ⟨_,_,rfl⟩ hc rfl ZC
def σS(d:PV)(nm val:Str):Zx:=Zx.set (Zx.set (Zx.set (λ_=>none) "self" (.val d)) "name" (.val (.str nm))) "value" (.val (.str val))
def σR(d:PV)(nm val:Str)(r:PV):Zx:=(σS d nm val).set "result" (.val r)
section
variable {d r:PV}{nm val:Str}{l:List (Str × Str)}{pp:Nat->Pos}{nn:Nat->Nat}
theorem TF:σS d nm val "self"=some (.val d):=(Zx.Vx (by decide)).trans ((Zx.Vx (by decide)).trans (Zx.UC))
theorem yQ:σS d nm val "name"=some (.val (.str nm)):=(Zx.Vx (by decide)).trans (Zx.UC)
theorem fO:σS d nm val "value"=some (.val (.str val)):=Zx.UC
theorem yK:σR d nm val r "self"=some (.val d):=(Zx.Vx (by decide)).trans TF
theorem dz:σR d nm val r "name"=some (.val (.str nm)):=(Zx.Vx (by decide)).trans yQ
theorem yJ:σR d nm val r "value"=some (.val (.str val)):=(Zx.Vx (by decide)).trans fO
theorem yI:σR d nm val r "result"=some (.val r):=Zx.UC
theorem RI(H:VR C c N mN k2 k3)(hF:XM F)(Y6:YW F.env.scope "result"=true)(hl:∀x∈l,x.1.length<=5592405)(hn:nm.length<=5592405)(Wx:ZL (ZyU nm))(l1:((pp 2).endLine==(pp 4).line)=true)
 (Te:Ev C (k+2) F.env (σS d nm val) (.Name "self" (pp 1)) (.box (Z8 c) [] (pairs l))):Ex C (k+2) F (σS d nm val) (exec (aj pp) F.env) .Z4 (σR d nm val (DA (YE l nm))):=
 (H.ua (k:=k) (l:=l) (nm:=nm) hl hn Wx).elim λfg z=>Ex.assign hF.Z6 (Wz hF Y6) (Ev.MU H.cls Te z.1 (ZW.cons (Z1.name hF.Z6 yQ (by decide) (by decide)) ZW.nil) z.2 rfl l1 (show 1<29 by decide)) rfl
theorem Hc(hF:XM F)(hp:Yn r=true):YZ C (k+2) F.env (σR d nm val r) (au pp nn) (eqv r .none):=YZ.cmp (a:=r) (b:=.none) (Z1.name hF.Z6 yI (by decide) (by decide)) Ev.none (ZR.is_none hp) rfl
theorem ij       (hF:XM F)(I:Inv C F (λ_=>False) M (σR d nm val r) s.heap)(ks:ZyA s s₁)(hb:s.heap.get? b=some { cls:=.type "list",data:=.seq ws n })(BA:Zwu b (s₁.heap.push o) h')
 (q:∀t,Q (.ret (.str val t)) { s₁ with heap:=h' }):wpAny C.M A (exec (qj pp) F.env) Q E { s₁ with heap:=h' }:=
 (((I.keeps (Zw ks)).has _ _ yJ:U3 _ _ _ _ (.val (.str val)))).elim λv z=>(Zt.mp z.2).elim λtv e=>I.ns.elim λm hm=>
   have lv:Loc F.env h' "value" v:=(z.1.ext λb o e=>Zyo _ e).sameBut BA (λq=>C0 hm (q ▸ hb)) λw c=>Vg c (Zyo _ (Zw ks _ _ hb))
   wpAny_Return_some (wpAny_Name (Xc hF.Z6.kind lv (by decide) (e ▸ q tv)) (by decide))
end
theorem ik          (H:HdOK2 C c N mN k2 k3)(hF:XM F)(hr:Yw (k+2) A)(T:TabAt s.heap c x d b vs)(Q7:l.length<=Zyk)(Km:ZL nm)(Kn:ZL val)
 (l2:((pp 11).endLine==(pp 13).line)=true) (l3:((pp 16).endLine==(pp 20).line)=true) (l4:((pp 22).endLine==(pp 26).line)=true) (ks:ZyA s s₁) (I:Inv C F (λ_=>False) M (σR (.box (Kl c x d b) [] (pairs l)) nm val r) s₁.heap)
 (q:∀s₁ u w h' ws n,ZyA s s₁->s.heap.get? b=some { cls:=.type "list",data:=.seq ws n }->s₁.heap.get? s₁.heap.objs.size=none->Zwu b (s₁.heap.push { cls:=.type "tuple",data:=.seq #[.str nm u,.str val w] }) h'->
  h'.PlainList b (ws.push (.ref s₁.heap.objs.size))->∀t,Q (.ret (.str val t)) { s₁ with heap:=h' }):
 wpAny C.M A (execs [aq pp nn,qj pp] F.env) Q E s₁:=
 have Te:∀p,Ev C (k+2) F.env (σR (.box (Kl c x d b) [] (pairs l)) nm val r) (.Name "self" p) (.box (Z8 c) [] (pairs l)):=λp=>Ev.xF (Z1.name hF.Z6 yK (by decide) (by decide))
 wpAny_execs_cons (B3 (k:=k+2) H.cls hF.Z6 hr I yK (Ev.conv (k:=k+1) H.toHdOK hF.Z6 (Te _) dz (by decide) Km l3) (Ev.conv (k:=k+1) H.toHdOK hF.Z6 (Te _) yJ (by decide) Kn l4) rfl rfl l2 (KU hF.Z6) ((Zyl _).symm ▸ Q7) λs₄ u w h' ws n k₄ R3 QQ BA qW=>
  wpAny_execs_cons (ij hF I k₄ R3 BA λtv=>T.list.elim λbI z=>z.elim λn0 z=>q s₄ u w h' ws n (Zu ks k₄) (by rw[<-R3,Zw ks _ _ z.1];exact z.1) QQ BA qW tv))
theorem VR.iq(H:VR C c N mN k2 k3){x d b:Zya}{l:List (Str × Str)}{nm val:Str}{t1 t2:Tok}{vs:List Zyd}{Q:Zyd->Zym->Prop}{f:Zya}(hf:Xw C mN "setdefault" f)(hr:Yw (k+3) A)(hg:C.G s.heap)(T:TabAt s.heap c x d b vs)
 (r:Zy (λ_=>True) s.heap (pairs l) vs) (hl:∀x∈l,x.1.length<=5592405) (Q7:l.length<=Zyk) (hn:nm.length<=5592405) (Wx:ZL (ZyU nm)) (Km:ZL nm) (Kn:ZL val) (cq:YE l nm=none)
 (q:∀s₁ u w h' ws n,ZyA s s₁->s.heap.get? b=some { cls:=.type "list",data:=.seq ws n }->s₁.heap.get? s₁.heap.objs.size=none->Zwu b (s₁.heap.push { cls:=.type "tuple",data:=.seq #[.str nm u,.str val w] }) h'->
  h'.PlainList b (ws.push (.ref s₁.heap.objs.size))->∀t,Q (.str val t) { s₁ with heap:=h' }):
 wpAny C.M A (call (.ref f) [.ref x,.str nm t1,.str val t2]) Q E s:=
 H.Cw.elim λsc t=>t.elim λbody t=>t.1.ex.elim λf' z=>z.elim λfd z=>t.2.1.elim λpp w=>w.elim λnn w=>
  have ef:f'=f:=Zvp (Zyb (z.1.is.symm.trans hf.is))
  have D:YO C f fd _:=ef ▸ w.1 ▸ z.2.1
  have ra:Zy (λ_=>True) s.heap [.box (Kl c x d b) [] (pairs l),.str nm,.str val] [.ref x,.str nm t1,.str val t2]:=Zy.cons ⟨vs,⟨rfl,trivial,trivial,trivial,T⟩,r⟩ (Zy.cons (Zt.mpr ⟨_,rfl⟩) (Zy.one (Zt.mpr ⟨_,rfl⟩)))
  D.enter (P:=λ_=>True) (z.2.2.1 ▸ VK t.2.2.2) rfl (IS hr) hg (λ_ n=>absurd trivial n) ra (z.2.2.2 s _ hg rfl) λF M s₁ E' FF _ _ _ I ok=>
   have Q5:F.env.scope=sc:=FF.scope.trans z.2.2.1
   have hF:=FF.s
   have Nt:Yw (k+2) (A.deeper F.env):=Yw.deeper hr
   wpAny_execs_cons (RI (k:=k) (d:=.box (Kl c x d b) [] (pairs l)) (val:=val) H hF (Q5 ▸ (WW t.2.2.1 (.tail _ (.tail _ (.tail _ (.head _))))).2) hl hn Wx w.2.1 (Ev.xF (Z1.name hF.Z6 TF (by decide) (by decide))) (λ_=>False) M _ s₁ _ _ Nt I λfl M₂ s₂ XY I₂ Vo=>by
    rw[UI XY]
    rw[cq] at I₂
    exact wpAny_execs_cons (wpAny_If (Hc (k:=k) hF rfl _ s₂ _ _ (F.out M₂) Nt I₂.G I₂.has I₂.YB λs₃ k₃=>(if_pos (rfl:eqv (DA none) PV.none=true)).mpr (ik H.toHdOK2 hF Nt T Q7 Km Kn w.2.2.1 w.2.2.2.1 w.2.2.2.2 (Zu (ok.trans Vo).keeps k₃) (I₂.keeps (Zw k₃)) q))))
theorem VR.iu(H:VR C c N mN k2 k3){l:List (Str × Str)}{nm val v:Str}(hl:∀x∈l,x.1.length<=5592405)(hn:nm.length<=5592405)(Wx:ZL (ZyU nm))(hv:YE l nm=some v):
 ∃f,Xw C mN "setdefault" f/\ZM C (k+3) (.ref f) [.val (.box (Z8 c) [] (pairs l)),.val (.str nm),.val (.str val)] (.str v):=
 H.Cw.elim λsc t=>t.elim λbody t=>t.2.1.elim λpp w=>w.elim λnn w=>
  (t.1.call (k:=k+2) (as:=[.val (.box (Z8 c) [] (pairs l)),.val (.str nm),.val (.str val)]) (DG:=[]) (af:=.ret (.str v)) (d:=.str v) t.2.2.2 rfl rfl (λP h=>Zy.nil) (.inl rfl) λF Q5 hF=>by
   have g:=RI (k:=k) (val:=val) (d:=.box (Z8 c) [] (pairs l)) H hF (Q5 ▸ (WW t.2.2.1 (.tail _ (.tail _ (.tail _ (.head _))))).2) hl hn Wx w.2.1 (Z1.name hF.Z6 TF (by decide) (by decide))
   rw[hv] at g
   rw[w.1]
   exact⟨_,Ex.cons g (Ex.stop (Ex.ite (Hc (k:=k) hF rfl) (λe=>nomatch e) λ_=>Ex.stop (Ex.K9 (Z1.name hF.Z6 yI (by decide) (by decide)) rfl) λe=>nomatch e) λe=>nomatch e)⟩).imp λf z=>⟨z.1,z.2.nil⟩
end
section
variable {C:Cx}{k:Nat}{F:Y7}{N M:Zya->Prop}{U σ':Zx}{s s' s₁:Zym}{h h':Zyp}{A:Zxd}{E:Zyd->Zym->Prop}
variable {cT c Nc:Zya}{mN:Str->Option Zyd}{k2 k3:Option Zyd}
theorem TabAt.apart   (T:TabAt h cT a d b vs):a≠b/\d≠b:=by
 obtain⟨ws,n,e,_⟩:=T.list
 have h1:a≠b:=λq=>by
  have t:=T.inst
  rw[q,e] at t;cases t
 exact⟨h1,λq=>C0 T.ns.ns (q ▸ e)⟩
theorem Inv.vQ       (I:Inv C F N M U h)(hx:U x=some (.tab cT l))(f:QI F N M U h ow)(g:U2 U ow)
 (hl:Loc F.env h x (.ref a)) (how:ow x=[a,d,b])  (T:TabAt h cT a d b vs) (hs:Zwu b h h') (hn:h'.get? b=some { cls:=.type "list",data:=.seq ws n }) (hr:Zy (YK F.base M) h l' ws.toList):
 Inv C F N M (U.set x (.tab cT l')) h':=
 have m:b∈ow x:=how ▸ .tail _ (.tail _ (.head _))
 have kept:∀q o,q≠b->h.get? q=some o->h'.get? q=some o:=λq o n e=>(hs.2 q n).trans e
 I.Hr hx rfl rfl f g m hl hs ⟨_,hn⟩ (Thing.ag rfl how rfl ⟨kept _ _ T.apart.1 T.inst,T.ns.at λo e=>kept _ _ T.apart.2 e,ws,n,hn,rfl⟩ (hr.mono (λ_ _ _ p=>p) λq o p eb=>kept q o (λq'=>p.1 (q' ▸ ((f x _ hx rfl).2 b m).1)) eb))
theorem Lu(l m:List (Str × Str)):pairs (l++m)=pairs l++pairs m:=by unfold pairs;rw[Zy9]
theorem Hb{P:Zya->Prop}  :YD P h (.val (.str x)) (.str x t):=(Zt (P:=P) (h:=h)).mpr ⟨t,rfl⟩
theorem w5{x a d b:Zya}   (T:TabAt h c a d b vs)(r:Zy (λ_=>True) h (pairs l) vs):YD (λ_=>True) h (.val (.box (Z8 c) [] (pairs l))) (.ref a):=⟨vs,⟨a,d,b,rfl,trivial,trivial,trivial,T⟩,r⟩
section
variable {f a d b:Zya}{l:List (Str × Str)}{nm val:Str}{t1 t2:Tok}{vs:List Zyd}{Q:Zyd->Zym->Prop}{x:Str}
theorem Om(H:VR C c Nc mN k2 k3){v:Str}(hm:Xw C mN "setdefault" f)(hr:Yw (k+3) A)(G:C.G s.heap)(T:TabAt s.heap c a d b vs)(r:Zy (λ_=>True) s.heap (pairs l) vs)(hl:∀x∈l,x.1.length<=5592405)(hn:nm.length<=5592405)(Wx:ZL (ZyU nm))(BR:YE l nm=some v)
 (q:∀s' t,ZyA s s'->Q (.str v t) s'):wpAny C.M A (call (.ref f) [.ref a,.str nm t1,.str val t2]) Q E s:=by
 obtain⟨f',qF,hc⟩:=H.iu (k:=k) (l:=l) (nm:=nm) (val:=val) (v:=v) hl hn Wx BR
 cases qF.is.symm.trans hm.is
 exact hc A s _ _ (λ_=>True) [.ref a,.str nm t1,.str val t2] hr G ⟨_,_,rfl,w5 (x:=a) T r,_,_,rfl,Hb,_,_,rfl,Hb,rfl⟩ (λ_ n=>absurd trivial n) λw s' ks DY=>(Zt.mp DY).elim λt e=>e ▸ q s' t ks
theorem Ol(H:VR C c Nc mN k2 k3)  (hm:Xw C mN "setdefault" f)(hr:Yw (k+3) A)(I:Inv C F N M U s.heap)(hx:U x=some (.tab c (pairs l)))
 (ff:QI F N M U s.heap ow) (gg:U2 U ow)
 (lv:Loc F.env s.heap x (.ref a)) (how:ow x=[a,d,b]) (T:TabAt s.heap c a d b vs) (ra:Zy (YK F.base M) s.heap (pairs l) vs) (hl:∀x∈l,x.1.length<=5592405) (Q7:l.length<=Zyk) (hn:nm.length<=5592405) (Wx:ZL (ZyU nm)) (Km:ZL nm) (Kn:ZL val) (BR:YE l nm=none)
 (q:∀s' t,Inv C F N M (U.set x (.tab c (pairs (l++[(nm,val)])))) s'.heap->Z5 N M s M s'->(∀y v,Loc F.env s.heap y v->Loc F.env s'.heap y v)->Q (.str val t) s'):wpAny C.M A (call (.ref f) [.ref a,.str nm t1,.str val t2]) Q E s:=by
 have mb:=(ff x _ hx rfl).2 b (how ▸ .tail _ (.tail _ (.head _)))
 refine H.iq (k:=k) (l:=l) hm hr I.G T (ra.mono (λ_ _ _ _=>trivial) λ_ _ _ e=>e) hl Q7 hn Wx Km Kn BR λs₄ u w h' ws n k₄ R3 QQ BA qW t=>?_
 have x₄:=Zw k₄
 have xp:ZT s.heap (s₄.heap.push { cls:=.type "tuple",data:=.seq #[.str nm u,.str val w] }):=λb o e=>Zyo _ (x₄ b o e)
 obtain⟨n',pO⟩:=qW
 obtain⟨bI,n0,e0,rfl⟩:=T.list
 cases R3.symm.trans e0
 have fP:YK F.base M s₄.heap.objs.size:=⟨λm=>(I.alive _ m).elim λo e=>nS (QQ.symm.trans (x₄ _ _ e)),Yd (λb o e=>x₄ b o (I.ext b o e)) QQ⟩
 refine q { s₄ with heap:=h' } t ((I.keeps xp).vQ hx (ff.keeps xp) gg (lv.ext λb o e=>xp b o e) how (T.at λa o _ e=>xp a o e) BA pO ?_) ⟨(Xg.of_keeps k₄).trans ⟨h',s₄.toks,rfl⟩,λb' o nb e=>(BA.2 b' λq=>?_).trans (xp b' o e),λb m=>.inl m⟩ λy w l=>?_
 ·rw[Zvi,Lu]
  exact (ra.ext xp).append (Zy.one (Yt.mpr ⟨s₄.heap.objs.size,#[.str nm u,.str val w],0,rfl,fP,ZyX _ rfl,Zy.cons (Zt.mpr ⟨_,rfl⟩) (Zy.one (Zt.mpr ⟨_,rfl⟩))⟩))
 ·subst q
  exact nb.elim (λnb=>nb mb.1) mb.2.1
 ·exact (l.ext xp).sameBut BA (λq=>mb.2.2 q.symm) λw c=>Vg c (xp _ _ R3)
end
theorem Zx.set_same    (h:U x=some a):U.set x a=U:=funext λy=>(Zvf (y=x)).elim (λq=>(if_pos q).trans (q ▸ h.symm)) λq=>if_neg q
theorem Dp(H:VR C c Nc mN k2 k3)        (hf:Zp F.env)(hr:Yw (k+3) A)(I:Inv C F N M U s.heap)(hm:Xw C mN "setdefault" f)
 (hx:U x=some (.tab c (pairs l))) (Nl:Y0 x=true) (h1:Ev C (k+3) F.env U.flat e1 (.str nm)) (h2:Ev C (k+3) F.env U.flat e2 (.str val)) (n1:notStar e1=true) (n2:notStar e2=true) (ZC:(p3.endLine==p5.line)=true)
 (hl:∀x∈l,x.1.length<=5592405) (Q7:l.length<=Zyk) (hn:nm.length<=5592405) (Wx:ZL (ZyU nm)) (Km:ZL nm) (Kn:ZL val)
 (q:∀s' t,Inv C F N M (U.set x (.tab c (pairs (match YE l nm with |some _=>l |none=>l++[(nm,val)])))) s'.heap->Z5 N M s M s'->(∀y v,Loc F.env s.heap y v->Loc F.env s'.heap y v)->Q (.str ((YE l nm).getD val) t) s'):
 wpAny C.M A (eval (.Call (.Attribute (.Name x p1) "setdefault" p3) [e1,e2] [] p5) F.env) Q E s:=by
 obtain⟨of,fd,g1,g2,g3⟩:=hm.fn
 obtain⟨y,hB⟩:=hm.no
 have ha:ZW C (k+3) F.env U.flat [e1,e2] [.val (.str nm),.val (.str val)]:=ZW.cons h1 (ZW.cons h2 ZW.nil (Wy n2)) (Wy n1)
 obtain⟨ow,ff,gg⟩:=I.own
 obtain⟨⟨v,lv,TT⟩,mm⟩:=ff x _ hx rfl
 obtain⟨a,d,b,how,rfl,vs,T,ra⟩:=TT
 refine Uk H.cls rfl (ha.few (by simp)) ZC hm.is g1 g2 hm.ne hB ?_
 refine wpAny_Name (Xc hf.kind lv (Yz Nl).2 ?_) (Yz Nl).1
 refine⟨a,d,b,vs,rfl,T,I.G,?_⟩
 refine ZvU (o:=of) (fd:=fd) (ha.args hr I.G I.VU I.W7 λws s₁ k₁ r₁=>?_)
 have x₁:=Zw k₁
 have I₁:Inv C F N M U s₁.heap:=I.keeps x₁
 refine⟨⟨g1 _ I₁.G,g3⟩,?_⟩
 obtain⟨u1,u2,rfl,rJ,rQ⟩:=VE r₁
 obtain⟨t1,rfl⟩:=Y2 rJ
 obtain⟨t2,rfl⟩:=Y2 rQ
 have T₁:TabAt s₁.heap c a d b vs:=T.at λa o _ e=>x₁ a o e
 have yP:Zy (YK F.base M) s₁.heap (pairs l) vs:=ra.ext x₁
 cases BR:YE l nm with
 | some v=>
   rw[BR] at q
   exact Om H hm hr I₁.G T₁ (yP.mono (λ_ _ _ _=>trivial) λ_ _ _ e=>e) hl hn Wx BR λs' t ks=>q s' t (by
    show Inv C F N M (U.set x (.tab c (pairs l))) s'.heap
    rw[Zx.set_same hx]
    exact I₁.keeps (Zw ks)) (Z5.of_keeps (Zu k₁ ks)) (λy v l=>l.ext (Zw (Zu k₁ ks)))
 | none=>
   rw[BR] at q
   exact Ol H hm hr I₁ hx (ff.keeps x₁) gg (lv.ext x₁) how T₁ yP hl Q7 hn Wx Km Kn BR λs' t I' ok lc=>q s' t I' (ok.after k₁) λy v l=>lc y v (l.ext x₁)
theorem yv   (x:h.IsCell c u)(y:h.IsCell c v):u=v:=x.elim λo t=>y.elim λo' t'=>Data.cell.inj (t.2.symm.trans ((congrArg Obj.data (Zyb (t.1.symm.trans t'.1))).trans t'.2))
theorem H6{k:Option ZwR}{P:Prop}(e:k=some .local)(c:k=some .cell∨k=some .free):P:=c.elim (λc=>nomatch e.symm.trans c) λc=>nomatch e.symm.trans c
theorem Loc.unique{env:Env}{y:Str}  (a:Loc env h y v)(b:Loc env h y w):v=w:=
 a.elim (λt=>b.elim (λu=>t.2.elim λm z=>u.2.elim λm' z'=>Zyb (z.2.symm.trans ((congrFun (xn z.1 z'.1) y).trans z'.2))) λu=>H6 t.1 u.1)
  λt=>b.elim (λu=>H6 u.1 t.1) λu=>t.2.elim λc z=>u.2.elim λc' z'=>Zyb (yv z.2 (Zyb (z'.1.symm.trans z.1) ▸ z'.2))
theorem Sh      (I:Inv C F N M U s₁.heap)(ok:Z5 N M s M s₁)(hy:U y=some (.own ds))(lv:Loc F.env s₁.heap y (.ref a))(qE:ds.length<=Zyk)
 (q:∀h',Inv C F N M (U.set y (.own (ds++[.tup [.str r,.str v]]))) h'->Z5 N M s M { s₁ with heap:=h' }->Q .none { s₁ with heap:=h' }):
 wpAny C.M A (call (.builtin "list.append") [.ref a,.ref s₁.heap.objs.size]) Q E { s₁ with heap:=s₁.heap.push { cls:=.type "tuple",data:=.seq #[.str r t0,.str v t] } }:=
 have xp:ZT s₁.heap (s₁.heap.push { cls:=.type "tuple",data:=.seq #[.str r t0,.str v t] }):=λb o e=>Zyo _ e
 have I₃:=I.keeps xp
 JA I₃ hy λow a₂ vs n f g how l₂ eb rr len=>
  have ea:a₂=a:=Zvp (Loc.unique l₂ (lv.ext xp))
  have fP:YK F.base M s₁.heap.objs.size:=⟨λm=>(I.alive _ m).elim λo e=>nS ((YN _).symm.trans e),Yd I.ext (YN _)⟩
  ea ▸ wpAny_list_append_plain ⟨n,eb⟩ (λh' Qz Q6=>
   have m:=I₃.Jp (s:=s) (s₁:={ s₁ with heap:=s₁.heap.push { cls:=.type "tuple",data:=.seq #[.str r t0,.str v t] } }) (Ic:=ds++[.tup [.str r,.str v]]) (ok.trans (.of_keeps (YL s₁ _))) hy f g l₂ how Q6 Qz
    ((congrArg (Zy _ _ _) Zvi).mpr (rr.append (Zy.one (Yt.mpr ⟨s₁.heap.objs.size,#[.str r t0,.str v t],0,rfl,fP,ZyX _ rfl,Zy.cons (Zt.mpr ⟨_,rfl⟩) (Zy.one (Zt.mpr ⟨_,rfl⟩))⟩))))
   q h' m.1 m.2) (len ▸ qE)
theorem Ex.Es(H:VR C c Nc mN k2 k3)         (hf:Zp F.env)(hm:Xw C mN "setdefault" f)
 (hx:U x=some (.tab c (pairs l))) (Nl:Y0 x=true) (hy:U y=some (.own ds)) (BD:Y0 y=true) (LX:y≠x) (h0:Ev C (k+3) F.env U.flat e0 (.str r0)) (h1:Ev C (k+3) F.env U.flat e1 (.str nm)) (h2:Ev C (k+3) F.env U.flat e2 (.str val))
 (n0:notStar e0=true) (n1:notStar e1=true) (n2:notStar e2=true) (ZC:(p3.endLine==p5.line)=true) (gG:(apos.endLine==Yj.line)=true)
 (hl:∀x∈l,x.1.length<=5592405) (Q7:l.length<=Zyk) (hn:nm.length<=5592405) (Wx:ZL (ZyU nm)) (Km:ZL nm) (Kn:ZL val) (qE:ds.length<=Zyk):
 Ex C (k+3) F U (exec (.Expr (.Call (.Attribute (.Name y py) "append" apos) [.Tuple [e0,.Call (.Attribute (.Name x p1) "setdefault" p3) [e1,e2] [] p5] tk tp] [] Yj) pos) F.env) .Z4
  ((U.set x (.tab c (pairs (match YE l nm with |some _=>l |none=>l++[(nm,val)])))).set y (.own (ds++[.tup [.str r0,.str ((YE l nm).getD val)]]))):=λN M A s Q E hr I q=>by
 refine JA I hy λow a vs n ff gg how lv eb rr len=>?_
 refine wpAny_Expr ?_ (KU hf) rfl
 refine wpAny_Call_method (T:="list") (id:="list.append") rfl rfl gG Zw4 slot_list_append Zv8 ?_
 refine wpAny_Name (Xc hf.kind lv (Yz BD).2 ?_) (Yz BD).1
 refine⟨⟨_,eb,rfl⟩,λb e=>⟨_,Zvp e ▸ eb,rfl⟩,?_⟩
 refine ZxK rfl (Zvh ?_)
 show wpAny C.M A (spliced (backTo Yj (Zxn [.Tuple [e0,.Call (.Attribute (.Name x p1) "setdefault" p3) [e1,e2] [] p5] tk tp] F.env))) _ E _
 refine ZxR ?_ rfl
 show wpAny C.M A (do standAt tp;newTuple (<-spliced (backTo tp (Zxn [e0,.Call (.Attribute (.Name x p1) "setdefault" p3) [e1,e2] [] p5] F.env)))) _ E _
 refine Zyf (Zx3 (Zyf ?_))
 refine ZxR (h0 A s _ _ (YK F.base M) hr I.G I.VU I.W7 λu s₁ k₁ r₁=>?_) (Wy n0)
 refine (Zt.mp r₁).elim λt0 z=>z ▸ ?_
 refine ZxR (Dp H hf hr (I.keeps (Zw k₁)) hm hx Nl h1 h2 n1 n2 ZC hl Q7 hn Wx Km Kn λs₂ t I₂ Vo hL=>?_) (Wy rfl)
 exact ZwV (wpAny_newTuple (ZwV (Sh (t0:=t0) (t:=t) I₂ (Z5.after k₁ Vo) ((if_neg LX:(Zx.set U x _) y=U y).trans hy) (hL y _ (lv.ext (Zw k₁))) qE λh' I' Iq=>q _ M _ trivial I' Iq)) (show 2<=Zyk by decide))
end
def H5(body:List ZyF):Prop:=∃(p1 p2 p3 p4 p5:Pos),body=[.Return (some (.Call (.Name "len" p1) [.Attribute (.Name "self" p2) "_headers" p3] [] p4)) p5]
def Aa(body:List ZyF):Prop:=∃(p1 p2 p3 p4 p5:Pos),body=[.Return (some (.Subscript (.Attribute (.Name "self" p1) "_headers" p2) (.Slice none none none p3) p4)) p5]
structure HdOK3(C:Cx)(c N:Zya)(mN:Str->Option Zyd)(k2 k3:Option Zyd):Prop extends HdOK2 C c N mN k2 k3 where
 len:∃sc body,WN C mN "__len__" sc body ["self"] 1 [] []/\H5 body/\locs sc ["self"]=true/\X0 sc ["self"]=true/\Ym sc "len"=true
structure NC(C:Cx)(c N:Zya)(mN:Str->Option Zyd)(k2 k3:Option Zyd):Prop extends HdOK3 C c N mN k2 k3 where
 items:∃sc body,WN C mN "items" sc body ["self"] 1 [] []/\Aa body/\locs sc ["self"]=true/\X0 sc ["self"]=true
section
variable {C:Cx}{k:Nat}{F:Y7}{U σ':Zx}{s s' s₁:Zym}{h h':Zyp}{env:Env}{A:Zxd}{E:Zyd->Zym->Prop}
variable {c N:Zya}{mN:Str->Option Zyd}{k2 k3:Option Zyd}
theorem HdOK3.vR(H:HdOK3 C c N mN k2 k3)  (hl:l.length<=Zyk):∃f,Xw C mN "__len__" f/\ZM C (k+2) (.ref f) [.val (.box (Z8 c) [] l)] (.int l.length):=by
 obtain⟨sc,body,hD,⟨p1,p2,p3,p4,p5,rfl⟩,Fc,hp,Ro⟩:=H.len
 let σ₀:Zx:=Zi (λ_=>none) ["self"] [.box (Z8 c) [] l]
 have s0:σ₀ "self"=some (.val (.box (Z8 c) [] l)):=by simp (decide:=true) [σ₀,Zi,Zx.set]
 have x2:Nk c jk 20 sc σ₀ (.Attribute (.Name "self" p2) "_headers" p3)=some (.val (.lst l)):=Fp (by decide) s0
 have he:Xm (Tg c) 10 sc σ₀ [.Return (some (.Call (.Name "len" p1) [.Attribute (.Name "self" p2) "_headers" p3] [] p4)) p5]=some (.ret (.int l.length),σ₀):=
  L1.Iv (L1.Kb (L1.Nd (L1.DC (by rw[Ro];rfl) (L1.VP rfl x2 L1.Ur) (show I1 "len" [.val (.lst l)]=some (.int l.length) from L1.a0 hl)) rfl))
 obtain⟨f,h1,h2⟩:=hD.call (k:=k+1) (as:=[.val (.box (Z8 c) [] l)]) (DG:=[]) (af:=.ret (.int l.length)) (d:=.int l.length) hp rfl rfl (λP h=>Zy.nil) (.inl rfl) λF hs hF=>
  ⟨σ₀,(QM (T:=Tg c) (X9.hd H.toHdOK (H.sg _ (ZyS _)) 20) hF (J6 _ _ F rfl) 10).2 _ _ _ _ (by rw[hs];exact he)⟩
 exact⟨f,h1,h2.nil⟩
theorem NS:∃y,typeLookup (.type "object") "__len__"=pure y:=⟨none,by rw[Zx8,Zxw];kernel_rfl⟩
theorem HdOK3.Ew(H:HdOK3 C c N mN k2 k3)   (ha:a=.tab c l∨a=.val (.box (Z8 c) [] l))(hl:l.length<=Zyk):ZM C (k+3) (.builtin "len") [a] (.int l.length):=λA s Q E P vs hr hg r hb q=>by
 obtain⟨f,hm,hc⟩:=H.vR (k:=k) hl
 obtain⟨v,rfl,r1⟩:=XG r
 have Ve:Rep (λ_=>True) s.heap (.box (Z8 c) [] l) v:=by
  rcases ha with rfl |rfl
  ·exact r1.pv
  ·exact r1.pv
 refine Ca Ve λws x d b e' _ _ _ T _=>?_
 subst e'
 obtain⟨of,fd,g1,g2,g3⟩:=hm.fn
 obtain⟨y,hB⟩:=NS
 have X:s.heap.OwnSpecial x c f "object" "__len__":=⟨_,of,_,_,N,_,_,_,_,_,_,_,_,_,_,_,_,_,_,mN,y,T.inst,rfl,H.cls.obj _ hg,H.cls.ns _ hg,hm.is,g1 _ hg,g2,Zj4,hB⟩
 obtain⟨hh,g,dr,t,os⟩:=s
 refine len_own X ?_
 refine hc A.in1 _ _ _ (λ_=>True) [.ref x] ⟨hr.handled,by have:=hr.depth;show A.depth+(k+2)<_;lia,by have:=hr.units;show A.units+1+16*(k+2)+16<_;lia⟩ hg ⟨_,_,rfl,Ve,rfl⟩ (λ_ n=>absurd trivial n) λw s' ks DY=>?_
 obtain⟨u,rfl⟩:=Zf.mp DY
 refine⟨l.length,u,rfl,by lia,?_,q _ _ (Zu ks (ZU _ _)) (Zf.mpr ⟨_,rfl⟩)⟩
 rw[Zx1] at hl
 lia
end
section
variable {C:Cx}{k:Nat}{F:Y7}{U σ':Zx}{s s' s₁:Zym}{h h':Zyp}{env:Env}{A:Zxd}{E:Zyd->Zym->Prop}
variable {c N:Zya}{mN:Str->Option Zyd}{k2 k3:Option Zyd}
theorem Bo
 (h:wpAny C.M A (eval value env) (λo s₁=>∃l items,o=.ref l/\s₁.heap.IsList l items/\items.size<=Zyk/\
  Q (.ref (s₁.heap.objs.size+1)) { s₁ with heap:=(s₁.heap.push { cls:=.type "slice",data:=.fields #[.none,.none,.none] }).push { cls:=.type "list",data:=.seq (slicePick items none none none) } }) E s):
 wpAny C.M A (eval (.Subscript value (.Slice Zxz Zxz Zxz p) pos) env) Q E s:=by
 rw[eval_Subscript]
 refine Zyf (ZyB h (λo s₁ h₁=>?_) λ_ _ e=>e)
 obtain⟨l,items,rfl,hl,Yh,q⟩:=h₁
 refine Zyf (ZyP (wpAny_Slice ?_))
 rw[evalPart_none]
 refine Zys (Zys (Zys (Zyf (Zx3 ?_))))
 have Qz:=hl.push { cls:=.type "slice",data:=.fields #[.none,.none,.none] }
 have hT:=Qz.typeIs (s:={ s₁ with heap:=s₁.heap.push { cls:=.type "slice",data:=.fields #[.none,.none,.none] } })
 have fin:wpAny C.M A (operate [.ref s₁.heap.objs.size,.ref l] (getItem (.ref l) (.ref s₁.heap.objs.size))) (λr s₃=>wpAny C.M A (letTemporaryGo value (.ref l) r>>=λ_=>pure r) Q E s₃) E
  { s₁ with heap:=s₁.heap.push { cls:=.type "slice",data:=.fields #[.none,.none,.none] } }:=by
  refine wpAny_operating (wpAny_getItem_list_slice Qz (Zg3 ..) .none .none .none (by simp) ?_ Yh)
  rw[Zw9]
  exact Zyf (wpAny_letTemporaryGo (Zys q))
 first
  |(refine Zyf ?_
    rw[getitemInPython_of_ne hT.not_modules]
    refine Zyf (wpAny_specialOf hT list_getitem_lookup ?_)
    first
     |exact Zys (Zyf fin)
     |exact Zyf (Zys (Zyf fin))
     |exact Zyf fin)
  |(refine Zyf (wpAny_specialOf hT list_getitem_lookup ?_)
    first
     |exact Zyf (Zys (Zyf fin))
     |exact Zyf fin)
theorem S9  (l:List α):ZZ none none l=l:=by
 unfold ZZ YM;simp
theorem Ev.OK    (ho:Qx C k env U o ds)(hx:ds.length<=Zyk):Ev C k env U (.Subscript o (.Slice Zxz Zxz Zxz p) pos) (.lst ds):=λA s Q E P hr hg hh hb q=>by
 refine Bo (ho A s _ _ P hr hg hh hb λb vs n s₁ k₁ g₁ r₁=>?_)
 refine⟨b,vs,rfl,⟨_,g₁,rfl,_,rfl⟩,?_,?_⟩
 ·have:vs.size=ds.length:=by rw[<-r₁.length];simp
  lia
 have x₁:=Zw k₁
 have sz:(s₁.heap.push { cls:=.type "slice",data:=.fields #[.none,.none,.none] }).objs.size=s₁.heap.objs.size+1:=Zw9 ..
 have al:ZD P (s₁.heap.push { cls:=.type "slice",data:=.fields #[.none,.none,.none] }):=(hb.ext x₁).ext λ_ _ e=>Zyo _ e
 refine q _ _ (Zu k₁ (Zu (YL _ _) (YL _ _))) (ZP.mpr ⟨_,slicePick vs Zxz Zxz Zxz,0,rfl,sz ▸ al.new,?_,?_⟩)
 ·rw[<-sz];exact ZyX _ rfl
 ·rw[Jx,S9]
  simpa using r₁.ext λ_ _ e=>Zyo _ (Zyo _ e)
theorem NC.EG(H:NC C c N mN k2 k3){l:List PV}(hl:l.length<=Zyk):∃f,Xw C mN "items" f/\Jn C (k+1) (.ref f) [.val (.box (Z8 c) [] l)] [] (.lst l):=by
 obtain⟨sc,body,hD,⟨p1,p2,p3,p4,p5,rfl⟩,Fc,hp⟩:=H.items
 refine hD.ex.elim λf t=>t.elim λfd t=>⟨f,t.1,λA s Q E P vs hr hg r hb q=>(XG r).elim λv z=>z.1 ▸
  t.2.1.enter (P:=P) (ds:=[.box (Z8 c) [] l]) (t.2.2.1 ▸ VK hp) rfl (IS hr) hg hb (Zy.one z.2) (t.2.2.2 s _ hg rfl) λF M s₁ E' FF e5 _ _ I ok=>?_⟩
 exact wpAny_execs_cons (wpAny_Return_some (Ev.OK (C:=C) (k:=k) (U:=Zi (λ_=>none) ["self"] [.box (Z8 c) [] l]) (Qx.of (Ev.headers H.cls FF.Z6 (if_pos rfl) (by decide))) hl (A.deeper F.env) s₁ _ _ _ hr.deeper I.G I.has I.YB λw s₂ k₂ r₂=>
  q _ s₂ (Zu ok.keeps k₂) (r₂.mono (λa o e p=>e5 ▸ p.1) λ_ _ _ e=>e)))
end
section
variable {C:Cx}{k:Nat}{F:Y7}{N M:Zya->Prop}{U σ':Zx}{s s' s₁:Zym}{h h':Zyp}{env:Env}{A:Zxd}{E:Zyd->Zym->Prop}
variable {c Nc:Zya}{mN:Str->Option Zyd}{k2 k3:Option Zyd}
theorem Inv.rebase   (I:Inv C F N M U h)(ho:∀x a,U x=some a->Xr a=false)(hc:∀y c,F.env.cells.lookup y=some c->y∈F.cs)(hs:∀a o,a≠dx->h.get? a=some o->h'.get? a=some o)
 (oY:∃o,F.base.get? dx=some o) (hP:∀a,F.P a->a≠dx) (hG:C.G h0) (he:ZT h0 F.base) (hn:h0.get? dx=none):Inv C ⟨F.env,h0,λ_=>True,F.cs⟩ N M U h':=
 have nM:∀a,M a->a≠dx:=λa m q=>oY.elim λo e=>nS ((I.fresh a m).symm.trans (q ▸ e))
 have lO:∀x v,Loc F.env h x v->Loc F.env h' x v:=λx v l=>l.elim (λt=>.inl ⟨t.1,t.2.elim λm r=>⟨m,r.1.at λo e=>hs _ o (nM _ I.Un) e,r.2⟩⟩)
  λt=>.inr ⟨t.1,t.2.elim λc r=>⟨c,r.1,(I.cell x (hc _ _ r.1)).2.elim λc' z=>z.elim λv' z=>r.2.elim λo g=>⟨o,hs _ _ (nM _ (Zyb (z.1.symm.trans r.1) ▸ z.2.2.1)) g.1,g.2⟩⟩⟩
 ⟨hG,λa n=>absurd trivial n,λa o e=>hs _ _ (λq=>nS (hn.symm.trans (q ▸ e))) (I.ext _ _ (he _ _ e)),λa m=>Yd he (I.fresh a m),λa m=>(I.alive a m).imp λo e=>hs _ _ (nM a m) e,I.Un,I.V7,I.pin,
  I.ns.imp λm e=>e.at λo e=>hs _ o (nM _ I.Un) e,λx hx=>(I.cell x hx).imp_right λt=>t.imp λc t=>t.imp λv t=>⟨t.1,ZyK (λo g=>⟨hs _ _ (nM _ t.2.2.1) g.1,g.2⟩) t.2.1,t.2.2⟩,I.apart,λy c e=>.inl (hc y c e),
  λx d e=>(I.val x d e).imp λv t=>⟨lO x v t.1,t.2.mono (λa o _ p=>⟨trivial,p.2⟩) λa o p e=>hs a o (hP a p.1) e⟩,λ_=>[],λx a e i=>absurd ((ho x a e).symm.trans i) ZyG,λx y a b c e i=>absurd ((ho x a e).symm.trans i) ZyG⟩
noncomputable def iA(pp:Nat->Pos)(nn:Nat->Nat):ZyF:=.Assign [.Name "headers" (pp 0)] (.IfExp (.Compare (.Name "headers" (pp 1)) [.IsNot] [.Constant .none (nn 0) (pp 2)] (pp 3)) (.Name "headers" (pp 4)) (.List [] (pp 5)) (pp 6)) (pp 7)
noncomputable def iB(pp:Nat->Pos)(rb:List ZyF):ZyF:=.If (.Compare (.Call (.Name "type" (pp 8)) [.Name "headers" (pp 9)] [] (pp 10)) [.IsNot] [.Name "list" (pp 11)] (pp 12)) rb [] (pp 13)
noncomputable def iC(pp:Nat->Pos):ZyF:=.Assign [.Attribute (.Name "self" (pp 14)) "_headers" (pp 15)] (.Name "headers" (pp 16)) (pp 17)
noncomputable def iD(pp:Nat->Pos)(nn:Nat->Nat)(fb:List ZyF):ZyF:=.If (.Constant (.bool true) (nn 1) (pp 18)) [.For (.Tuple [.Name "k" (pp 19),.Name "v" (pp 20)] (nn 2) (pp 21)) (.Name "headers" (pp 22)) fb [] (pp 23)] [] (pp 24)
def Dd(body:List ZyF):Prop:=∃(pp:Nat->Pos)(nn:Nat->Nat)(rb fb:List ZyF),body=[iA pp nn,iB pp rb,iC pp,iD pp nn fb]
theorem Ww.gU    (ht:YZ C k env U t false)(hb:Ww C k env U b av):Ww C k env U (.IfExp t a b pos) av:=⟨hb.1,λA s Q E P hr hg hh yp q=>by
 refine wpAny_IfExp (ht A s _ _ P hr hg hh yp λs₁ k₁=>?_)
 show wpAny C.M A (eval b env) Q E s₁
 exact hb.2 A s₁ Q E P hr (C.ext hg (Zw k₁)) (hh.ext (Zw k₁)) (yp.ext (Zw k₁)) λv ow s' k' new T=>q v ow s' (Zu k₁ k') (λb m=>by
  have:=new b m
  cases e:s.heap.get? b with
  |none=>rfl
  |some o=>rw[Zw k₁ _ _ e] at this;cases this) T⟩
noncomputable def Jd(c dx:Zya):Obj:={ cls:=.ref c,dict:=some dx,data:=.plain }
noncomputable def Ti:St:=⟨jk,[],λ_ _=>none,5⟩
theorem EC      (h2:U "headers"=some (.val (.lst [])))(gk:YW sc "k"=true)(gv:YW sc "v"=true)(gh:Ym sc "headers"=false):
 Xm Ti 10 sc U [.If (.Constant (.bool true) n2 s1) [.For (.Tuple [.Name "k" s2,.Name "v" s3] n3 s4) (.Name "headers" s5) fb [] s6] [] s7]=some (.Z4,U):=by
 have PI:(Zc (.Tuple [.Name "k" s2,.Name "v" s3] n3 s4)).all (YW sc)=true:=by
  show [("k":Str),"v"].all (YW sc)=true
  simp [gk,gv]
 have ei:Y1 Ti.sg 6 sc U true (.Tuple [.Name "k" s2,.Name "v" s3] n3 s4) (.Name "headers" s5)=some []:=by
  have e:ev Ti.sg 4 sc U (.Name "headers" s5)=some (.val (.lst [])):=L1.UO (by rw[gh];rfl) h2
  show ((ev Ti.sg 4 sc U (.Name "headers" s5)).bind _)=_
  rw[e];rfl
 have hF:Xj Ti 7 sc U (.For (.Tuple [.Name "k" s2,.Name "v" s3] n3 s4) (.Name "headers" s5) fb [] s6)=some (.Z4,U):=by
  refine (if_pos (by rw[PI];rfl)).trans ?_
  have fz:Jg U (.Name "headers" s5)=U:=by
   show (match U "headers" with |some v=>(match v with |.own ds=>U.set "headers" (.val (.lst ds)) |_=>U) |none=>U)=U
   rw[h2]
  show ((Y1 Ti.sg 6 sc (Jg U (.Name "headers" s5)) true (.Tuple [.Name "k" s2,.Name "v" s3] n3 s4) (.Name "headers" s5)).bind λes=>QK _ es (Jg U (.Name "headers" s5)))=_
  rw[fz,ei];rfl
 have eb:Yi Ti.sg 8 sc U (.Constant (.bool true) n2 s1)=some true:=rfl
 exact L1.Ub (L1.Ue eb (L1.Ub hF L1.VA)) L1.VA
theorem zi      (h2:U "headers"=some (.val (.lst [])))(gk:YW sc "k"=true)(gv:YW sc "v"=true)(gh:Ym sc "headers"=false):Xm Ti 10 sc U [iD pp nn fb]=some (.Z4,U):=EC h2 gk gv gh
theorem Sp(HC:Uz C c Nc mN k2 k3)    (G:C.G s.heap)(Q3:s.heap.get? x=some (Jd c dx))(hd2:s.heap.Ns1 dx (λ_=>none))(Na:dx≠x)(Rc:x≠c)
 (q:∀h' Ng,(∀a o,a≠dx->s.heap.get? a=some o->h'.get? a=some o)->h'.Ns1 dx (λy=>if y=("_headers":Str) then some v else none)->Q () { s with heap:=h',toks:=Ng }):wpAny C.M A (setAttr (.ref x) "_headers" v) Q E s:=by
 obtain⟨hh,g,dr,t,os⟩:=s
 refine store_attr (ns:=[]) PySem.F.store_object (HC.obj _ G) (HC.ns _ G) HC.sa HC.hd C2 Rc ⟨_,Q3,rfl,(λc e=>nomatch e),.inr ⟨dx,rfl,Na,hd2⟩⟩ (λh' Ng J kp sx=>?_) Within.nil (ZyS _)
 have same:∀a o,a≠dx->hh.get? a=some o->h'.get? a=some o:=λa o na e=>by
  by_cases q:a=x
  ·subst q
   obtain⟨o₁,g1,g2,g3,g4,g5⟩:=sx _ Q3
   have g6:=g5 dx rfl
   cases (show hh.get? a=_ from Q3).symm.trans e
   rw[g1]
   rcases o₁ with ⟨a1,a2,a3,a4⟩
   cases g2;cases g3;cases g4;cases g6
   rfl
  ·exact kp a o q (λo₀ d' e1 e2=>by
    cases (show hh.get? x=_ from Q3).symm.trans e1;cases e2;exact na) e
 refine q h' Ng same ?_
 obtain⟨oj,e1,e2,e3,e4⟩:=J
 cases (same x _ (λq=>Na q.symm) Q3).symm.trans e1
 rcases e4 with ⟨e4,_⟩ |⟨d',e4,_,e5⟩
 ·cases e4
 ·cases e4
  exact e5
theorem zf   (hF:XM F)(stH:Yc F.env F.cs "headers")(e0:U.flat "headers"=some (.val .none)):
 Ex C (k+1) F U (exec (iA pp nn) F.env) .Z4 (U.set "headers" (.own [])):=
 Ex.Fv hF.Z6 stH (Ww.gU (YZ.cmp (Ev.name hF.Z6 e0) Ev.none (ZR.isNot_none rfl)) (Ww.list (ds:=[]) ZW.nil (ZyS _))) rfl
theorem uk    (hF:XM F)(hB:Ul C F.env "type" (.type "type"))(jz:Ul C F.env "list" (.type "list"))(h2:U "headers"=some (.val (.lst [])))(hr:Yw (k+1) A)(I:Inv C F N M U s.heap)
 (q:∀s₂,ZyA s s₂->Q .next s₂):wpAny C.M A (exec (iB pp rb) F.env) Q E s:=
 wpAny_If ((YZ.cmp (k:=k+1) (Ev.Ow hF.Z6 hB (Ev.name hF.Z6 h2) rfl) (Ev.CZ hF.Z6 jz (by decide)) ZR.SM:YZ C (k+1) F.env U _ false) A s _ _ _ hr I.G I.has I.YB λs₂ k₂=>wpAny_execs_nil (q s₂ k₂))
theorem zg    (HC:Uz C c Nc mN k2 k3)(hF:XM F)(I:Inv C F N M U s.heap)(lv:Loc F.env s.heap "headers" (.ref b))(h3:U "self"=some (.val (.Xk (XW (.ref x)))))
 (Q3:s.heap.get? x=some (Jd c dx)) (hd2:s.heap.Ns1 dx (λ_=>none)) (Na:dx≠x) (Rc:x≠c)
 (q:∀h' Ng,(∀a o,a≠dx->s.heap.get? a=some o->h'.get? a=some o)->h'.Ns1 dx (λy=>if y=("_headers":Str) then some (.ref b) else none)->Q .next { s with heap:=h',toks:=Ng }):wpAny C.M A (exec (iC pp) F.env) Q E s:=by
 obtain⟨vx,lx,rx⟩:=I.val _ _ h3
 cases VX.mp rx
 exact plainObj_wpAny_Assign_Attribute (wpAny_Name (Xc hF.Z6.kind lv (by decide) (wpAny_Name (Xc hF.Z6.kind lx (by decide) (Sp HC I.G Q3 hd2 Na Rc q)) (by decide))) (by decide)) rfl
def σI(x:Zya):Zx:=Zi (λ_=>none) ["self","headers"] [.Xk (XW (.ref x)),.none]
def σJ(x:Zya):Zx:=((σI x).set "headers" (.own [])).set "headers" (.val (.lst []))
theorem AL :σJ x "headers"=some (.val (.lst [])):=by
 show (((σI x).set "headers" (.own [])).set "headers" (.val (.lst []))) "headers"=_
 exact if_pos rfl
theorem yG :σJ x "self"=some (.val (.Xk (XW (.ref x)))):=by
 show (((σI x).set "headers" (.own [])).set "headers" (.val (.lst []))) "self"=_
 exact (if_neg (by decide)).trans ((if_neg (by decide)).trans rfl)
theorem wq    (e:σJ x y=some a):Xr a=false:=by
 by_cases w8:y="headers"
 ·subst w8
  cases e.symm.trans AL;rfl
 ·by_cases w9:y="self"
  ·subst w9
   cases e.symm.trans yG;rfl
  ·have e:(if y="headers" then _ else if y="headers" then _ else if y="headers" then _ else if y="self" then _ else none)=some a:=e
   rw[if_neg w8,if_neg w8,if_neg w8,if_neg w9] at e
   exact nS e
theorem ED    (hL:Dd body)(H:HdOK2 C c Nc mN k2 k3)(hF:XM F)(hB:Ul C F.env "type" (.type "type"))(jz:Ul C F.env "list" (.type "list"))
 (Fc:locs F.env.scope ["self","headers","k","v"]=true) (hP:∀a,F.P a->a≠dx) (hc:∀y c,F.env.cells.lookup y=some c->y∈F.cs)
 (LQ:F.base.get? x=some (Jd c dx)) (R4:F.base.Ns1 dx (λ_=>none)) (hG:C.G h0) (he:ZT h0 F.base) (hn:h0.get? dx=none) (hr:Yw (k+1) A)
 (I:Inv C F (λ_=>False) M (Zi (λ_=>none) ["self","headers"] [.Xk (XW (.ref x)),.none]) s.heap)
 (q:∀b s',(∃h' tk,s'={ s with heap:=h',toks:=tk })->ZT h0 s'.heap->F.base.get? b=none->TabAt s'.heap c x dx b []->Q .next s'):wpAny C.M A (execs body F.env) Q E s:=by
 obtain⟨pp,nn,rb,fb,e0⟩:=hL
 subst e0
 have gl:∀x∈(["self","headers","k","v"]:List Str),Ym F.env.scope x=false/\YW F.env.scope x=true:=λx hx=>WW Fc hx
 have gD:=R4.ns.elim λoD r=>r.elim λ_ r=>r.elim λ_ r=>(⟨oD,r.1⟩:∃o,F.base.get? dx=some o)
 have Na:dx≠x:=by
  intro q
  subst q
  obtain⟨o,es,ep,g1,g2,_⟩:=R4
  rw[LQ] at g1;cases g1;cases g2
 refine wpAny_execs_cons (zf (U:=σI x) hF (Wz hF (gl _ (.tail _ (.head _))).2) rfl _ M A s _ _ hr I λfl M₁ s₁ XY I₁ UQ=>?_)
 rw[UI XY]
 have o1:((σI x).set "headers" (.own [])) "headers"=some (.own []):=if_pos rfl
 refine JA I₁ o1 λow b vs n ff gg e1 lv eb rr len=>?_
 have nq:=I₁.fresh b ((ff "headers" _ o1 rfl).2 b (e1 ▸ .head _)).1
 refine (I₁.freeze o1).elim λM₂ z=>?_
 have I₂:=z.1
 have pj:¬M₂ b:=(I₂.val _ _ AL).elim λv' t=>(ZP.mp t.2).elim λa' t'=>t'.elim λX1 t'=>t'.elim λn' t'=>Zvp (t'.1.symm.trans (Loc.unique t.1 lv)) ▸ t'.2.1.2
 refine wpAny_execs_cons (uk (U:=σJ x) hF hB jz AL hr I₂ λs₂ k₂=>?_)
 have I₃:=I₂.of_keeps k₂
 have Q3:s₂.heap.get? x=some (Jd c dx):=I₃.ext _ _ LQ
 have Rc:x≠c:=λq=>by cases Q3.symm.trans (q ▸ H.cls.obj _ I₃.G)
 refine wpAny_execs_cons (zg H.cls hF I₃ (lv.ext (Zw k₂)) yG Q3 (R4.at λo e=>I₃.ext _ _ e) Na Rc λh' Ng same kd=>?_)
 have I₄:=I₃.rebase (h':=h') (h0:=h0) (dx:=dx) (λy a e=>wq e) hc same gD hP hG he hn
 have oB:XM ⟨F.env,h0,λ_=>True,F.cs⟩:=⟨hF.Z6,hF.cs,trivial⟩
 have rh:=zi (pp:=pp) (nn:=nn) (fb:=fb) (AL (x:=x)) (gl "k" (.tail _ (.tail _ (.head _)))).2 (gl "v" (.tail _ (.tail _ (.tail _ (.head _))))).2 (gl "headers" (.tail _ (.head _))).1
 refine (QM (C:=C) (k:=k+1) (T:=Ti) (H.sg (k+1) (ZyS _)) oB (J6 _ _ _ rfl) 10).2 _ _ _ _ rh _ M₂ A _ _ _ hr I₄ λfl M₃ s₃ XY I₅ Vd=>?_
 rw[UI XY]
 have ai:∀a o,F.base.get? a=some o->¬M₂ a:=λa o e m=>nS ((I₃.fresh a m).symm.trans e)
 have pq:b≠dx:=λq=>gD.elim λo e=>nS ((q ▸ nq:F.base.get? dx=none).symm.trans e)
 have qZ:vs.toList=[]:=rr
 refine q b _ (Xg.trans UQ.same ((Xg.of_keeps k₂).trans (Xg.trans ⟨h',Ng,rfl⟩ Vd.same))) I₅.ext nq ⟨Vd.kept x _ (.inl (ai _ _ LQ)) (same x _ (λq=>Na q.symm) Q3),kd.at λo e=>Vd.kept dx o (.inl (gD.elim λo e=>ai _ _ e)) e,
  vs,n,Vd.kept b _ (.inl pj) (same b _ pq (Zw k₂ _ _ eb)),qZ⟩
end
section
variable {C:Cx}{k:Nat}{N M:Zya->Prop}{U σ':Zx}{s s' s₁:Zym}{h h':Zyp}{env:Env}{A:Zxd}{E:Zyd->Zym->Prop}
variable {c Nc:Zya}{mN:Str->Option Zyd}{k2 k3:Option Zyd}
def made(h:Zyp)(c:Zya):Zyp:=(h.push { cls:=.type "dict",data:=.dict #[] }).push (Jd c h.objs.size)
theorem M9:ZT h (made h c):=λ_ _ e=>Zyo _ (Zyo _ e)
theorem Sd    (H:Uz C c Nc mN k2 k3)(hg:C.G s.heap)(hi:mN "__init__"=some (.ref fI))(o6:s.heap.get? fI=some oI)(LU:oI.cls=.type "function")
 (hq:wpAny C.M (A.under (.builtin "type.__call__" ⟨[.ref c],[]⟩)) (call (.ref fI) [.ref (s.heap.objs.size+1)]) (λr s'=>r=.none/\Q (.ref (s.heap.objs.size+1)) s') E { s with heap:=made s.heap c }):
 wpAny C.M A (call (.ref c) []) Q E s:=by
 obtain⟨h,g,d,t,os⟩:=s
 have hC:=H.obj _ hg
 have hn:=H.ns _ hg
 have f1:=tc_lookup
 have f2:=tc_bind (.ref c)
 have hT:(⟨h,g,d,t,os⟩:Zym).TypeIs (.ref c) "type":=⟨_,hC,rfl⟩
 have FN:=PySem.F.objNew
 refine wpAny_call (codeAny_of_tree ?_)
 show wpAny _ _ (callAny (.ref c) _) _ _ _
 repeat (any_goals (first |assumption |with_reducible refine wpAny_loadPart_at hC ?_ |wp_step))
 refine⟨rfl,?_⟩
 refine codeAny_call_builtin_at (ZqU _ (by decide +kernel)) entry_typeCall (wpAny_check_type_call_sub hC ?_)
 have th:mroOf (.type "object")=pure [.type "object"]:=Zj4
 have Nr:typeLookup (.type "object") "__init__"=pure (some (.builtin "object.__init__")):=by rw[Zx8,Zxw];kernel_rfl
 repeat (first |with_reducible refine wpAny_loadPart_at hC ?_ |with_reducible refine wpAny_madeBy_exc hC ?_ |wp_step)
 refine codeAny_call_builtin_code (ZqU _ FN.quiet) (wpAny_check_obj_new FN hC ?_)
 refine codeAny_obj_new FN hC hn hi ?_
 show wpAny _ _ _ _ _ _
 have ext:=M9 (h:=h) (c:=c)
 have xW:=ext _ _ hC
 have gC:=ext _ _ o6
 have cu:(made h c).Ns Nc mN:=hn.keeps ext
 have tW:(made h c).get? (h.objs.size+1)=some { cls:=.ref c,dict:=some h.objs.size,data:=.plain }:=by unfold made Jd;heap_get
 have oU:(ZjK c::[Value.type "object"]).contains (.ref c)=true:=by simp
 unfold isInstance
 show wpAny _ _ _ _ _ ⟨made h c,g,d,t,os⟩
 repeat (first |with_reducible refine wpAny_loadPart_at tW ?_ |(with_reducible refine wpAny_isSubtype_exc xW ?_;rw[oU]) |wp_step)
 show wpAny _ _ (typeLookup (.ref c) _) _ _ _
 refine wpAny_typeLookup_exc xW cu th Nr ?_
 rw[hi]
 refine ZyP (Zyf ?_)
 unfold bindSpecial
 refine Zyf (wpAny_typeOf (T:="function") ⟨_,gC,LU⟩ ?_)
 rw[if_pos (by decide)]
 refine Zys (Zyf (ZyB hq (λr s' hr=>?_) λ_ _ x=>x))
 obtain⟨rfl,hQ⟩:=hr
 wp_walk
 exact hQ
structure G5(C:Cx)(c N:Zya)(mN:Str->Option Zyd)(k2 k3:Option Zyd):Prop extends HdOK3 C c N mN k2 k3 where
 init:∃sc body,WN C mN "__init__" sc body ["self","headers"] 1 [] [.none]/\Dd body/\locs sc ["self","headers","k","v"]=true/\X0 sc ["self","headers"]=true/\Ym sc "type"=true/\Ym sc "list"=true
 list:C.mg "list"=none/\C.mb "list"=some (.type "list")
 glob:C.mg "Headers"=some (.ref c)
theorem RS{F:Y7}    (hs:F.env.scope=sc)(hm:C.mg x=none)(hb:C.mb x=some v)(hg:Ym sc x=true):Ul C F.env x v:=
 ⟨hm,hb,by rw[<-hs] at hg;exact beq_iff_eq.mp hg⟩
theorem G5.make(H:G5 C c Nc mN k2 k3)  (hr:Yw (k+3) A)(hg:C.G s.heap)
 (q:∀x d b s',ZyA s s'->s.heap.get? x=none->s.heap.get? d=none->s.heap.get? b=none->x≠d->x≠b->d≠b->TabAt s'.heap c x d b []->Q (.ref x) s'):wpAny C.M A (call (.ref c) []) Q E s:=by
 obtain⟨sc,body,hD,hL,Fc,hp,gt,gl⟩:=H.init
 obtain⟨f,fd,h1,h2,h3,h4⟩:=hD.ex
 obtain⟨of,fd',g1,g2,g3⟩:=h1.fn
 refine Sd H.cls hg h1.is (g1 _ hg) g2 ?_
 let Fh:=made s.heap c
 have ext:=M9 (h:=s.heap) (c:=c)
 have aM:C.G Fh:=C.ext hg ext
 have aI:s.heap.get? s.heap.objs.size=none:=Zqt (Zy7 _)
 have qK:s.heap.get? (s.heap.objs.size+1)=none:=Zqt (Nat.le_succ _)
 have LQ:Fh.get? (s.heap.objs.size+1)=some (Jd c s.heap.objs.size):=by show (made s.heap c).get? _=_;unfold made Jd;heap_get
 have qM:Fh.get? s.heap.objs.size=some { cls:=.type "dict",data:=.dict #[] }:=Zyo _ (Heap.get?_push_at rfl rfl)
 have R4:Fh.Ns1 s.heap.objs.size (λ_=>none):=Heap.Ns1.of_empty ⟨_,#[],_,qM,rfl,λe he=>absurd he (by simp),λ_=>rfl⟩
 have Zo:ZD (λa=>a≠s.heap.objs.size) Fh:=λa n=>by
  have:a=s.heap.objs.size:=ZyO n
  rw[this];exact⟨_,qM⟩
 have dp:(A.under (.builtin "type.__call__" ⟨[.ref c],[]⟩)).depth=A.depth+1:=rfl
 have up:(A.under (.builtin "type.__call__" ⟨[.ref c],[]⟩)).units=A.units+1:=rfl
 have ye:(A.under (.builtin "type.__call__" ⟨[.ref c],[]⟩)).handled=none:=hr.handled
 have hr1:=hr.depth
 have Nt:=hr.units
 have rA:Yw (k+2) (A.under (.builtin "type.__call__" ⟨[.ref c],[]⟩)):=⟨ye,by lia,by lia⟩
 refine h2.enter (s:={ s with heap:=Fh }) (P:=λa=>a≠s.heap.objs.size) (ds:=[.Xk (XW (.ref (s.heap.objs.size+1))),.none]) (h3 ▸ VK hp) rfl (by lia) aM Zo (Zy.cons (VX.mpr rfl) (Zy.one (Y9.mpr rfl))) (h4 _ [.ref (s.heap.objs.size+1)] aM rfl) λF M s₁ E' FF e5 e6 e7 I ok=>?_
 have Q5:=FF.scope.trans h3
 refine ED (k:=k) hL H.toHdOK2 FF.s (RS Q5 H.type.1 H.type.2 gt) (RS Q5 H.list.1 H.list.2 gl) (by rw[Q5];exact Fc) (λa p=>by rw[e5] at p;exact p) e7 (by rw[e6];exact LQ) (by rw[e6];exact R4) hg (by rw[e6];exact ext) aI rA.deeper I λb s' sm qS Ve hT=>?_
 rw[e6] at Ve
 exact⟨rfl,q _ _ b _ (Xg.keeps (Xg.trans ⟨Fh,s.toks,rfl⟩ (Xg.trans ok.same sm)) qS) qK aI (Yd ext Ve) (Nat.succ_ne_self _) (λe=>nS (Ve.symm.trans (e ▸ LQ))) (λe=>nS (Ve.symm.trans (e ▸ qM))) hT⟩
theorem Ww.headers(H:G5 C c Nc mN k2 k3)  (hf:Zp env)(hk:env.kindOf "Headers"=some .globalImplicit):Ww C (k+3) env U (.Call (.Name "Headers" p) [] [] pos) (.tab c []):=⟨rfl,λA s Q E P hr hg hh hb q=>by
 rw[Xv]
 refine Zyf (JN hf ⟨H.glob,hk⟩ hg ?_ (by decide))
 refine PyProof.Rows.callWith_cls0 (h₀:=s.heap) ⟨⟨_,_,_,_,_,_,_,_,_,_,_,_,H.cls.obj _ hg⟩,H.cls.ns _ hg⟩ (λ_ _ e=>e) ?_
 refine H.make hr hg λx d b s' ks n1 n2 n3 a1 a2 a3 T=>q _ [x,d,b] s' ks (λy hy=>?_) ⟨x,d,b,rfl,rfl,[],T,Zy.nil⟩
 simp only[ZyT,ZxY,or_false] at hy
 rcases hy with rfl |rfl |rfl<;>assumption⟩
end
section
variable {C:Cx}{k:Nat}{F:Y7}{N M:Zya->Prop}{U σ':Zx}{s s' s₁:Zym}{h h':Zyp}{env:Env}{A:Zxd}{E:Zyd->Zym->Prop}
theorem X7.mono  (H:X7 P env U h)(hP:∀a o,h.get? a=some o->P a->P' a):X7 P' env U h:=λx a e=>by
 have:=H x a e
 cases a with
 |val d=>obtain⟨v,l,r⟩:=this;exact⟨v,l,r.mono hP λ_ _ _ e=>e⟩
 |own ds=>obtain⟨a,vs,n,l,e,r⟩:=this;exact⟨a,vs,n,l,e,r.mono hP λ_ _ _ e=>e⟩
 |tab c ds=>obtain⟨a,d,b,vs,l,T,r⟩:=this;exact⟨a,d,b,vs,l,T,r.mono hP λ_ _ _ e=>e⟩
theorem Aq      (hf:F.env.scope.kind=.function)(hx:Yc F.env F.cs x)(hy:Yc F.env F.cs y)
 (I:Inv C F N M U s.heap) (ks:ZyA s s₁) (QW:∀b∈Vt,s.heap.get? b=none) (We:∀b∈Vh,s.heap.get? b=none) (N7:∀b∈Vt,b∉Vh) (i1:Xr a1=true) (i2:Xr a2=true)
 (T1:Thing (λb=>YK F.base M b/\b∉Vt/\b∉Vh) s₁.heap v1 a1 Vt) (T2:Thing (λb=>YK F.base M b/\b∉Vt/\b∉Vh) s₁.heap v2 a2 Vh)
 (q:∀M' s',Inv C F N M' ((U.set x a1).set y a2) s'.heap->Z5 N M s M' s'->Q () s'):Stores C A F.env Q E [x,y] [v1,v2] s₁:=by
 have I₁:=I.Qp (λb=>b∈Vt∨b∈Vh) (Zw ks) (λb m=>m.elim (QW b) (We b)) λb m=>m.elim (T1.lives b) (T2.lives b)
 have nN:∀b,(b∈Vt∨b∈Vh)->¬N b:=λb m n=>by
  obtain⟨o,e⟩:=I.alive b (I.pin b n)
  rw[m.elim (QW b) (We b)] at e;cases e
 have fr:∀b o,s₁.heap.get? b=some o->(YK F.base M b/\b∉Vt/\b∉Vh)->YK F.base (λb=>M b∨b∈Vt∨b∈Vh) b:=λb o _ p=>⟨λm=>m.elim p.1.1 λm=>m.elim p.2.1 p.2.2,p.1.2⟩
 have T1':=T1.mono (h':=s₁.heap) (λ_ _ _ e=>e) fr λ_ _ _ e=>e
 have T2':=T2.mono (h':=s₁.heap) (λ_ _ _ e=>e) fr λ_ _ _ e=>e
 refine W4 hf hx I₁ (N₂:=λb=>N b∨b∈Vh) (λb n=>n.elim .inl λm=>.inr (.inr m)) (λb m=>⟨.inr (.inl m),λn=>n.elim (nN b (.inl m)) (N7 b m)⟩) (.inr ⟨i1,T1'⟩) λs₂ I₂ Vo _=>?_
 have sF:=T2'.mono (h':=s₂.heap) (λb o m e=>Vo.kept b o (.inr (.inr (.inr m))) e) (λ_ _ _ p=>p) λb o p e=>Vo.kept b o (.inl p.1) e
 refine W4 hf hy I₂ (N₂:=N) (λb n=>.inl n) (λb m=>⟨.inr m,nN b (.inr m)⟩) (.inr ⟨i2,sF⟩) λs₃ I₃ Vd _=>q _ s₃ I₃ ?_
 obtain⟨h1,t1,rfl,x1⟩:=ks
 obtain⟨h2,t2,e2⟩:=Vo.same
 obtain⟨h3,t3,e3⟩:=Vd.same
 refine⟨⟨h3,t3,by rw[e3,e2]⟩,λb o n e=>?_,λb m=>?_⟩
 ·have nr:¬(b∈Vt∨b∈Vh):=λm=>by rw[m.elim (QW b) (We b)] at e;cases e
  refine Vd.kept b o (n.elim (λn=>.inl λm=>m.elim n nr) λn=>.inr (.inl n)) (Vo.kept b o (n.elim (λn=>.inl λm=>m.elim n nr) λn=>.inr (.inl n)) (x1 b o e))
 ·exact m.elim .inl λm=>.inr (m.elim (QW b) (We b))
theorem Ex.dA      (hf:Zp F.env)(hx:Yc F.env F.cs x)(hy:Yc F.env F.cs y)(q7:x≠y)(h1:Ww C k F.env U.flat e1 a1)(h2:Ww C k F.env U.flat e2 a2)
 (n1:notStar e1=true) (pg:notStar e2=true) (hs:swapsWithSole [.Tuple [.Name x p1,.Name y p2] n tp] (.Tuple [e1,e2] n2 Ir) pos.line F.env=pure false)
 (ho:U7 [.Name x p1,.Name y p2] (.Tuple [e1,e2] n2 Ir)=true):
 Ex C k F U (exec (.Assign [.Tuple [.Name x p1,.Name y p2] n tp] (.Tuple [e1,e2] n2 Ir) pos) F.env) .Z4 ((U.set x a1).set y a2):=λN M A s Q E hr I q=>by
 have ev:∀Q':Zyd->Zym->Prop,(∀tv v1 v2 Vt Vh s₁,ZyA s s₁->(∀b∈Vt,s.heap.get? b=none)->(∀b∈Vh,s.heap.get? b=none)->(∀b∈Vt,b∉Vh)->
  Thing (λb=>YK F.base M b/\b∉Vt/\b∉Vh) s₁.heap v1 a1 Vt->Thing (λb=>YK F.base M b/\b∉Vt/\b∉Vh) s₁.heap v2 a2 Vh->s₁.heap.get? tv=some { cls:=.type "tuple",data:=.seq #[v1,v2] }->Q' (.ref tv) s₁)->wpAny C.M A (eval (.Tuple [e1,e2] n2 Ir) F.env) Q' E s:=by
  intro Q' q'
  show wpAny C.M A (do standAt Ir;newTuple (<-spliced (backTo Ir (Zxn [e1,e2] F.env)))) _ E _
  refine Zyf (Zx3 (Zyf ?_))
  refine ZxR (h1.2 A s _ _ (YK F.base M) hr I.G I.VU I.W7 λv1 Vt s₁ k₁ QW T1=>?_) (Wy n1)
  have x₁:=Zw k₁
  refine ZxR (h2.2 A s₁ _ _ (λb=>YK F.base M b/\b∉Vt) hr (C.ext I.G x₁) ((I.VU.mono λa o e p=>⟨p,λm=>by rw[QW a m] at e;cases e⟩).ext x₁) (λb nb=>?_) λv2 Vh s₂ k₂ We T2=>?_) (Wy pg)
  ·by_cases m:b∈Vt
   ·exact T1.lives b m
   ·exact (I.W7.ext x₁) b λp=>nb ⟨p,m⟩
  refine ZwV (wpAny_newTuple ?_ (by show 2<=Zyk;decide))
  have x₂:=Zw k₂
  have N7:∀b∈Vt,b∉Vh:=λb m1 m2=>by obtain⟨o,e⟩:=T1.lives b m1;rw[We b m2] at e;cases e
  have dB:∀b∈Vh,s.heap.get? b=none:=λb m=>by
   cases e:s.heap.get? b with
   |none=>rfl
   |some o=>have:=We b m;rw[x₁ _ _ e] at this;cases this
  have xp:ZT s₂.heap (s₂.heap.push { cls:=.type "tuple",data:=.seq #[v1,v2] }):=λ_ _ e=>Zyo _ e
  refine q' _ v1 v2 Vt Vh _ (Zu (Zu k₁ k₂) (YL _ _)) QW dB N7 ?_ ?_ (ZyX _ rfl)
  ·exact (T1.mono (λb o _ e=>xp _ _ (x₂ _ _ e)) (λb o e p=>⟨p.1,p.2,λm=>by rw[We b m] at e;cases e⟩) λb o _ e=>xp _ _ (x₂ _ _ e))
  ·exact (T2.mono (λb o _ e=>xp _ _ e) (λb o e p=>⟨p.1.1,p.1.2,p.2⟩) λb o _ e=>xp _ _ e)
 rcases Mm (tp:=tp) (kk:=n) (env:=F.env) ho with hw |hw
 ·refine Assign_Tuple (ev _ λtv v1 v2 Vt Vh s₁ k₁ QW We N7 T1 T2 et=>?_) hs hw
  refine wpAny_assign_Tuple hr.handled (Xa et) rfl rfl λh' Ie=>RA (C:=C) ?_
  have k₂:ZyA s₁ { s₁ with heap:=h' }:=⟨h',s₁.toks,rfl,λb o e=>Ie b o (Zwd (Zxf e)) e⟩
  exact Aq hf.kind hx hy I (Zu k₁ k₂) QW We N7 h1.1 h2.1 (T1.mono (λb o _ e=>Zw k₂ _ _ e) (λ_ _ _ p=>p) λb o _ e=>Zw k₂ _ _ e) (T2.mono (λb o _ e=>Zw k₂ _ _ e) (λ_ _ _ p=>p) λb o _ e=>Zw k₂ _ _ e)
   λM' s' I' ok=>q _ M' s' trivial I' ok
 ·refine Zqa (ev _ λtv v1 v2 Vt Vh s₁ k₁ QW We N7 T1 T2 et=>?_) hs hw
  refine wpAny_unpackItems_tuple (items:=#[v1,v2]) hr.handled (Xa et) λh' Ie=>Ha (C:=C) ?_
  have k₂:ZyA s₁ { s₁ with heap:=h' }:=⟨h',s₁.toks,rfl,λb o e=>Ie b o (Zwd (Zxf e)) e⟩
  refine Aq hf.kind hy hx I (Zu k₁ k₂) We QW (λb m1 m2=>N7 b m2 m1) h2.1 h1.1 (T2.mono (λb o _ e=>Zw k₂ _ _ e) (λb _ _ p=>⟨p.1,p.2.2,p.2.1⟩) λb o _ e=>Zw k₂ _ _ e) (T1.mono (λb o _ e=>Zw k₂ _ _ e) (λb _ _ p=>⟨p.1,p.2.2,p.2.1⟩) λb o _ e=>Zw k₂ _ _ e)
   λM' s' I' ok=>q _ M' s' trivial ?_ ok
  rw[<-QL q7]
  exact I'
end
section
variable {C:Cx}{A:Zxd}{E:Zyd->Zym->Prop}{R:Zqu->Zym->Prop}{s:Zym}
theorem AD(elt t1 i1 target iter:Zyc)(J8 ifs:List Zyc)(scope:Zy6)(pos:Pos)(it acc:Zyd)(env:Env):
 compTurn (.ListComp elt [⟨t1,i1,J8,0⟩,⟨target,iter,ifs,0⟩] scope pos) 1 it acc env=(do
  standAt iter.pos
  match <-pyNext it with
  |none=>pure (.done .next)
  | some v=>
    letOwnedTupleGo target it v
    assign target env v
    let mut ok:=true
    for c in ifs do
     if ok then ok <-isTrue c env (eval c env)
    if ok then
     (do let _ <-call (.builtin "list.append") [acc,<-eval elt env])
    again (.compLoop (.ListComp elt [⟨t1,i1,J8,0⟩,⟨target,iter,ifs,0⟩] scope pos) 1 it acc env)):=by rfl
theorem CK       (I:Nat->Zym->Prop)
 (turn:Nu C A (notedBy C.M A env λe s'=>R (.error e) s') R target elt ifs it acc env I)
 (n:Nat) (h:I n s):codeAny C.M A (.compLoop (.ListComp elt [⟨t1,i1,J8,0⟩,⟨target,iter,ifs,0⟩] scope pos) 1 it acc env) R s:=by
 refine codeAny_loop rfl I (λn s hI=>?_) n h
 show wpAny _ A ((compTurn (.ListComp elt [⟨t1,i1,J8,0⟩,⟨target,iter,ifs,0⟩] scope pos) 1 it acc env).onRaise (λx=>do noteFrame x env;theTreesLotGoes x)) _ _ s
 refine wpAny_noted ?_
 rw[AD]
 refine Zyf (Zx3 (Zyf (ZyB (turn n s hI) (λr s₁ h₁=>?_) λ_ _ h'=>h')))
 cases r with
 |none=>exact Zys h₁
 | some v=>
   refine Zyf (ZyB h₁ (λ_ Gm DT=>?_) λ_ _ h'=>h')
   refine Zyf (ZyB DT (λ_ s₂ h₂=>Zyf (ZyB h₂ (λok s₃ h₃=>?_) λ_ _ h'=>h')) λ_ _ h'=>h')
   cases ok with
   |false=>exact Zys ⟨rfl,h₃⟩
   | true=>
     exact Zyf (Zyf (ZyB h₃ (λx s₄ h₄=>Zyf (ZyB h₄ (λ_ s₅ h₅=>Zys (Zys ⟨rfl,h₅⟩)) λ_ _ h'=>h')) λ_ _ h'=>h'))
theorem AB(elt t1 i1 target iter:Zyc)(ifs:List Zyc)(scope:Zy6)(pos:Pos)(it acc:Zyd)(env:Env):
 compTurn (.ListComp elt [⟨t1,i1,[],0⟩,⟨target,iter,ifs,0⟩] scope pos) 0 it acc env=(do
  standAt i1.pos
  match <-pyNext it with
  |none=>pure (.done .next)
  | some v=>
    letOwnedTupleGo t1 it v
    assign t1 env v
    let x <-eval iter env
    standAt iter.pos
    let x <-Zxs iter env x
    let _ <-runOwn (.compStart (.ListComp elt [⟨t1,i1,[],0⟩,⟨target,iter,ifs,0⟩] scope pos) 1 (<-holding [x] (pyIter x)) acc env) env
    again (.compLoop (.ListComp elt [⟨t1,i1,[],0⟩,⟨target,iter,ifs,0⟩] scope pos) 0 it acc env)):=by rfl
theorem CI       (I:Nat->Zym->Prop)(hs:∀x,Zxs iter env x=pure x)
 (turn:∀n s,I n s->wpAny C.M A (pyNext it) (λr s₁=>match r with
  |none=>R (.ok .next) s₁
  |some v=>wpAny C.M A (letOwnedTupleGo t1 it v) (λ_ Gm=>wpAny C.M A (assign t1 env v) (λ_ s₂=>
   wpAny C.M A (eval iter env) (λx s₃=>wpAny C.M A (pyIter x) (λaX s₄=>
    codeAny C.M (A.mark none) (.compStart (.ListComp elt [⟨t1,i1,[],0⟩,⟨target,iter,ifs,0⟩] scope pos) 1 aX acc env) (λr s₅=>match r with
     |.ok _=>∃m,m<n/\I m s₅
     |.error e=>cameBackBy C.M A env (notedBy C.M A env λe s'=>R (.error e) s') e s₅) s₄) (notedBy C.M A env λe s'=>R (.error e) s') s₃) (notedBy C.M A env λe s'=>R (.error e) s') s₂)
    (notedBy C.M A env λe s'=>R (.error e) s') Gm) (notedBy C.M A env λe s'=>R (.error e) s') s₁) (notedBy C.M A env λe s'=>R (.error e) s') s)
 (n:Nat) (h:I n s):codeAny C.M A (.compLoop (.ListComp elt [⟨t1,i1,[],0⟩,⟨target,iter,ifs,0⟩] scope pos) 0 it acc env) R s:=by
 refine codeAny_loop rfl I (λn s hI=>?_) n h
 show wpAny _ A ((compTurn (.ListComp elt [⟨t1,i1,[],0⟩,⟨target,iter,ifs,0⟩] scope pos) 0 it acc env).onRaise (λx=>do noteFrame x env;theTreesLotGoes x)) _ _ s
 refine wpAny_noted ?_
 rw[AB]
 refine Zyf (Zx3 (Zyf (ZyB (turn n s hI) (λr s₁ h₁=>?_) λ_ _ h'=>h')))
 cases r with
 |none=>exact Zys h₁
 | some v=>
   refine Zyf (ZyB h₁ (λ_ Gm DT=>?_) λ_ _ h'=>h')
   refine Zyf (ZyB DT (λ_ s₂ h₂=>?_) λ_ _ h'=>h')
   refine Zyf (ZyB h₂ (λx s₃ h₃=>Zyf (Zx3 (Zyf (wpAny_of_eq (hs x) (Zyf (ZyP (ZyB h₃ (λaX s₄ h₄=>?_) λ_ _ h'=>h')))))) ) λ_ _ h'=>h')
   refine Zyf (wpAny_runOwn ?_)
   refine codeAny_mono h₄ λr s₅ h₅=>?_
   cases r with
   |ok f=>exact Zys ⟨rfl,h₅⟩
   |error e=>exact h₅
end
def Uv(C:Cx)(k:Nat)(env:Env)(U:Zx)(t1 t2 i2:Zyc)(ifs:List Zyc)(elt:Zyc)(ds ys:List PV):Prop:=Zkc (motive:=λ_=>List PV->Prop) (λys=>ys=[])
 (λd _ R ys=>∃ps UD Q1 Fg,partsOf t1 d=some ps/\ys=Q1++Fg/\YV C k env (Zi U (Zc t1) ps) true t2 i2 UD/\XE C k env (Zi U (Zc t1) ps) t2 ifs elt UD Q1/\R Fg) ds ys
section
variable {C:Cx}{k:Nat}{F:Y7}{N M:Zya->Prop}{U σ':Zx}{s s' s₁:Zym}{h h':Zyp}{env:Env}{A:Zxd}{E:Zyd->Zym->Prop}{R:Zqu->Zym->Prop}{k':Nat}
theorem JI
 (h0:codeAny C.M A (.compLoop (.ListComp elt [⟨t1,i1,J8,0⟩,⟨target,iter,ifs,0⟩] scope pos) 1 it acc env) R s)
 (h:wpAny C.M A (pyIter it) (λqp s'=>codeAny C.M A (.compLoop (.ListComp elt [⟨t1,i1,J8,0⟩,⟨target,iter,ifs,0⟩] scope pos) 1 qp acc env) R s')
  (notedBy C.M A env λx s'=>R (.error x) s') s):
 codeAny C.M A (.compStart (.ListComp elt [⟨t1,i1,J8,0⟩,⟨target,iter,ifs,0⟩] scope pos) 1 it acc env) R s:=by
 refine codeAny_of_tree ?_
 show wpAny _ _ ((compStart (.ListComp elt [⟨t1,i1,J8,0⟩,⟨target,iter,ifs,0⟩] scope pos) 1 it acc env).onRaise (λx=>do noteFrame x env;standAt theWindowsPlace)) _ _ s
 refine wpAny_notedAt ?_
 unfold compStart
 show wpAny _ _ (ask>>=_) _ _ s
 refine Zyf (wpAny_askSetting (wpAny_ite ?_))
 split
 ·first
   |exact Zyf (Zys (Zys (ZqQ rfl h0)))
   |exact Zys (ZqQ rfl h0)
 ·first
   |exact Zyf (wpAny_rule (Zyf (Zx3 (Zyf (ZyB h (λqp s' h'=>Zys (ZqQ rfl h')) λ_ _ x=>x)))))
   |(refine Zyf (wpAny_rule ?_);show wpAny _ _ (standAt iter.pos>>=_) _ _ s;exact Zyf (Zx3 (Zyf (ZyB h (λqp s' h'=>Zys (ZqQ rfl h')) λ_ _ x=>x))))
section
variable {t1 t2 i2 elt:Zyc}{ifs:List Zyc}{D J2:Zya}{kp:Zya->Prop}{St:Zyp->Prop}{vs:Array Zyd}{y₁ Q1:List PV}{fp jw wr VB:List Zya}{s₀:Zym}{d:PV}{ps UD:List PV}
theorem LI.inner   (L:LI C F N M D kp s₀ σ' St vs y₁ s)(k:ZyA s s')(Ji:∀b,kp b->¬M b)(VN:∀b∈wr,N b)(Wa:∀b∈fp,b∈wr∨¬M b)(hD:N D)(V9:D∉wr)
 (We:∀b∈VB,s.heap.get? b=none) (fr:∀h h',St h->(∀b∈fp,∀o,h.get? b=some o->h'.get? b=some o)->St h')
 (sm:Xg s' s₅) (pl:s₅.heap.PlainList D X1) (ra:Zy (F.out λb=>M b∨b∈VB) s₅.heap (y₁++Q1) X1.toList) (I5:Inv C F N (λb=>(M b∨b∈VB)/\b∉VB) σ' s₅.heap)
 (qr:∀b o,b≠D->b∉VB->(¬(M b∨b∈VB)∨(N b∨b∈VB))->s'.heap.get? b=some o->s₅.heap.get? b=some o):LI C F N M D kp s₀ σ' St X1 (y₁++Q1) s₅:=
 have CA:∀b o,s.heap.get? b=some o->b∉VB:=λb o e m=>nS ((We b m).symm.trans e)
 have kk:∀b o,b≠D->(¬M b∨N b)->s.heap.get? b=some o->s₅.heap.get? b=some o:=λb o nd n e=>
  qr b o nd (CA b o e) (n.elim (λn=>.inl λq=>q.elim n (CA b o e)) λn=>.inr (.inl n)) (Zw k b o e)
 have nD:∀b,¬M b->b≠D:=λb nm q=>nm (q ▸ L.inv.pin D hD)
 ⟨(L.same.trans (.of_keeps k)).trans sm,I5.sets (λ_=>Zuk) λb=>⟨λq=>q.1.elim id λw=>absurd w q.2,λm=>⟨.inl m,(L.inv.alive b m).elim λo e=>CA b o e⟩⟩,
   fr _ _ L.st λb hb o e=>(Wa b hb).elim (λw=>kk b o (λq=>V9 (q ▸ w)) (.inr (VN b w)) e) λn=>kk b o (nD b n) (.inl n) e,pl,ra.mono (λ_ _ _ p=>⟨p.1,λm=>p.2 (.inl m)⟩) λ_ _ _ e=>e,
   λb o n e=>kk b o (nD b (Ji b n)) (.inl (Ji b n)) (L.hk b o n e)⟩
theorem LI.dM  {dep:Nat}   (L:LI C F N M D kp s₀ (Zi U (Zc t1) ps) St vs y₁ s)(k:ZyA s s')
 (go:∀(I:Nat->Zym->Prop),Nu C A (notedBy C.M A F.env λe s'=>R (.error e) s') R t2 elt ifs (.ref J2) (.ref D) F.env I->∀n s,I n s->codeAny C.M A (.compLoop e dep (.ref J2) (.ref D) F.env) R s)
 (hf:F.env.scope.kind=.function) (Q3:∀x∈Zc t2,Yc F.env F.cs x) (ZO:Yw k' A) (Tr:∀x∈Zc t2,x∉Zc t1/\U x=none) (Ji:∀b,kp b->¬M b) (VN:∀b∈wr,N b) (Wa:∀b∈fp,b∈wr∨¬M b) (hD:N D) (V9:D∉wr)
 (fr:∀h h',St h->(∀b∈fp,∀o,h.get? b=some o->h'.get? b=some o)->St h')
 (W2:VZ C A t2 J2 jw VB UD.length nF nI) (DZ:nI 0 s'.heap) (We:∀b∈VB,s.heap.get? b=none) (Pr:∀b∈jw,b∈VB∨F.out M b)
 (qY:∀j vals,nF j vals->∃d ps,UD[j]?=some d/\partsOf t2 d=some ps/\Zy (λb=>F.out M b/\b∉VB) s'.heap ps vals) (hc:XE C k' F.env (Zi U (Zc t1) ps) t2 ifs elt UD Q1) (Yh:(y₁++Q1).length<=Zyk)
 (q:∀X1 s₅,LI C F N M D kp s₀ (Zi U (Zc t1) ps) St X1 (y₁++Q1) s₅->R (.ok .next) s₅):codeAny C.M A (.compLoop e dep (.ref J2) (.ref D) F.env) R s':=
 have CA:∀b o,s.heap.get? b=some o->b∉VB:=λb o e m=>nS ((We b m).symm.trans e)
 have kW:∀b,M b->b∉VB:=λb m=>(L.inv.alive b m).elim λo e=>CA b o e
 have x:=Zw k
 Gf (N₀:=N) (N:=λb=>N b∨b∈VB) (M:=λb=>M b∨b∈VB) (y0:=y₁) (Rd:=vs) go hf Q3 ZO W2 rfl (λb n=>kW b (L.inv.pin b n)) (L.inv.Qp (λb=>b∈VB) x We (W2.lives 0 _ DZ)) (λb m=>.inr m)
  (λb m=>(Zvf (b∈VB)).elim .inl λw=>.inr λq=>(Pr b m).elim w λo=>q.elim o.2 w) DZ (.inl hD) (kW D (L.inv.pin D hD)) (L.pl.at λo e=>x _ o e)
  (L.rep.mono (λb o e p=>⟨p.1,λq=>q.elim p.2 (CA b o e)⟩) λb o _ e=>x b o e) (λy m=>(Qn (Tr y m).1).trans (Tr y m).2)
  (λj vals pv=>(qY j vals pv).elim λd q=>q.elim λps q=>⟨d,ps,q.1,q.2.1,q.2.2.mono (λ_ _ _ p=>⟨p.1.1,λq=>q.elim p.1.2 p.2⟩) λ_ _ _ e=>e⟩) hc Yh
  λs₅ vs5 r5 eK rG I5 qr=>q _ _ (L.inner k Ji VN Wa hD V9 We fr r5 eK rG I5 qr)
end
theorem Uv.head      {P:Prop}(h:Uv C k env U t1 t2 i2 ifs elt (d::ds) ys)(hp:partsOf t1 d=some ps)
 (q:∀UD Q1 Fg,ys=Q1++Fg->YV C k env (Zi U (Zc t1) ps) true t2 i2 UD->XE C k env (Zi U (Zc t1) ps) t2 ifs elt UD Q1->Uv C k env U t1 t2 i2 ifs elt ds Fg->P):P:=
 Zxm h λyf h=>h.elim λUD h=>h.elim λQ1 h=>h.elim λFg h=>
  have e:yf=ps:=Zyb (h.1.symm.trans hp)
  q UD Q1 Fg h.2.1 (e ▸ h.2.2.1) (e ▸ h.2.2.2.1) h.2.2.2.2
theorem Lm  {ifs:List Zyc}    {fp wr:List Zya}  {St:Nat->Zyp->Prop}
 (hf:F.env.scope.kind=.function) (hx:∀x∈Zc t1,Yc F.env F.cs x) (Q3:∀x∈Zc t2,Yc F.env F.cs x) (ZO:Yw k A) (hs:∀x,Zxs i2 F.env x=pure x)
 (W:VZ C A t1 J fp wr ds.length Pt St) (I:Inv C F N M U s.heap) (VN:∀b∈wr,N b) (Wa:∀b∈fp,b∈wr∨¬M b) (st:St 0 s.heap)
 (hD:N D) (V9:D∉wr) (CR:s.heap.PlainList D #[]) (V8:∀x∈Zc t1,U x=none) (Tr:∀x∈Zc t2,x∉Zc t1/\U x=none)
 (hv:∀i vals,Pt i vals->∃d ps,ds[i]?=some d/\partsOf t1 d=some ps/\Zy (F.out M) s.heap ps vals)
 (hr:Uv C k F.env U t1 t2 i2 ifs elt ds ys) (Yh:ys.length<=Zyk)
 (hR:∀s' vs,Xg s s'->s'.heap.PlainList D vs->Zy (F.out M) s'.heap ys vs.toList->(∃m,s'.heap.Ns F.env.locals m)->(∀b o,¬M b->s.heap.get? b=some o->s'.heap.get? b=some o)->R (.ok .next) s'):
 codeAny C.M A (.compLoop (.ListComp elt [⟨t1,i1,[],0⟩,⟨t2,i2,ifs,0⟩] scope pos) 0 (.ref J) (.ref D) F.env) R s:=
 have nW:∀b,¬M b->b∉wr:=λb nm m=>nm (I.pin b (VN b m))
 let K:Nat->Zym->Prop:=λn s'=>∃i vs y₁ y₂,n=ds.length-i/\i<=ds.length/\LI C F N M D (λb=>¬M b) s U (St i) vs y₁ s'/\y₁++y₂=ys/\Uv C k F.env U t1 t2 i2 ifs elt (ds.drop i) y₂
 CI K hs (λn s' hK=>hK.elim λi q=>q.elim λvs q=>q.elim λy₁ q=>q.elim λy₂ q=>
  have L:=q.2.2.1
  have hy:=q.2.2.2.1
  (Zvu q.2.1).elim (λXz=>L.take W hf hx (λb n=>⟨nW b n,.inl n⟩) (λb n=>n) VN Wa hD V9 hv Xz λs₃ d ps hd hp L₃=>
   Uv.head (drop_cons hd ▸ q.2.2.2.2) hp λUD Q1 Fg ey BS Ik Qk=>
    have nj:(y₁++Q1)++Fg=ys:=by rw[ZyC,<-ey,hy]
    BS A s₃ _ _ _ ZO L₃.inv.G L₃.inv.has L₃.inv.YB λJ2 jw VB nF nI s₄ k₄ W2 DZ ZzQ We Pr qY=>by
     rw[Around.mark_none]
     have loop:=L₃.dM (e:=.ListComp elt [⟨t1,i1,[],0⟩,⟨t2,i2,ifs,0⟩] scope pos) (dep:=1) (R:=λr s₅=>match r with
      |.ok _=>∃m,m<n/\K m s₅
      |.error e=>cameBackBy C.M A F.env (notedBy C.M A F.env λe s'=>R (.error e) s') e s₅) k₄ (λI turn n s h=>CK I turn n h) hf Q3 ZO Tr (λb n=>n) VN Wa hD V9 (W.frame (i+1)) W2 DZ We (Pr rfl) qY Ik
      (by rw[<-nj,Zyn] at Yh;exact Zyi (ZyR _ _) Yh) λX1 s₅ L₅=>⟨_,q.1 ▸ Bv Xz,i+1,X1,_,Fg,rfl,Xz,L₅.sub λx a e=>(Qn λm=>nS ((V8 x m).symm.trans e)).trans e,nj,Qk⟩
     exact JI loop (W2.self 0 _ _ _ DZ loop))
  (λWb=>by
   have e₂:y₂=[]:=by
    have Jk:=q.2.2.2.2
    rw[Wb,ZvL] at Jk
    exact Jk
   rw[e₂,Zxh] at hy
   exact W.done s' _ _ (Wb ▸ L.st) λh₁ tk XX=>hR _ vs (L.same.trans ⟨h₁,tk,rfl⟩) (L.pl.at λo e=>XX D o V9 e) (hy ▸ L.rep.mono (λ_ _ _ p=>p) λa o p e=>XX a o (nW a p.2) e) (L.inv.ns.elim λm hm=>⟨m,hm.at' λo e=>XX _ o (λw=>L.inv.V7 (VN _ w)) e⟩) λb o n e=>XX b o (nW b n) (L.hk b o n e)))
  ds.length ⟨0,#[],[],ys,rfl,ZyS _,⟨.refl,I,st,CR,Zy.nil,λ_ _ _ e=>e⟩,rfl,hr⟩
end
section
variable {C:Cx}{k:Nat}{F:Y7}{N M:Zya->Prop}{U σ₁ σ₂:Zx}{s s' s₁:Zym}{af:Z9}{h h':Zyp}{env:Env}
theorem Rw
 (hf:Zp env) (hS:WM scope Zq) (y7:WM scope t2) (PU:∀x∈Zc t2,x∉Zc Zq) (ZO:Yw k A) (hg:C.G s.heap) (hh:X7 P env U s.heap) (hb:ZD P s.heap) (DJ:ZD Pc s.heap) (R6:∀a,P a->Pc a)
 (K1:Uw scope env s.heap) (hσ:Ja scope env s.heap Pc σc)
 (hi:YV C k env U false Zq iter ds)
 (hr:∀YT,InComp scope env YT->Uv C k YT σc Zq t2 i2 ifs elt ds ys) (Rl:ys.length<=Zyk) (Nh:∀YT x,Zxs i2 YT x=pure x)
 (hs:∀x,Zxs iter env x=pure x)
 (post:∀s' D L vs n m,ZyA s s'->s.heap.get? D=none->s.heap.get? L=none->D≠L->s'.heap.get? D=some { cls:=.type "list",data:=.seq vs n }->
  Zy (λb=>Pc b/\b≠D/\b≠L) s'.heap ys vs.toList->s'.heap.Ns L m->compPost C.M A E use Q (.ref D) L (.ok .next) s'):
 wpAny C.M A (comprehension (.ListComp elt [⟨Zq,iter,[],0⟩,⟨t2,i2,ifs,0⟩] scope pos) scope env p (newList []) false (eval iter env) use) Q E s:=
 C8 hf hS ZO hg hh hb DJ R6 K1 hσ hi hs (λF M J D fp wr Pt St s' R Np qH Y6 W V9 I Wa st hl hv hR=>
  Lm qH.kind (Y6 Zq hS) (Y6 t2 y7) ZO (Nh _) W I (λb m=>.inr m) Wa st (.inl rfl) V9 hl (λx hx=>hσ.off hS hx) (λx hx=>⟨PU x hx,hσ.off y7 hx⟩) hv (hr _ Np) Rl hR) post
end
noncomputable def Fw(f:PV->Option (List PV)):List PV->Option (List PV)
 |[]=>some []
 |d::r=>(f d).bind λl=>(Fw f r).map (l++·)
def Pa (S:Sg) (n:Nat) (sc:Zy6) (U:Zx) (elt t1 i1 t2 i2:Zyc) (ifs:List Zyc) (scope:Zy6):Option AV:=
    if Vv scope t1&&Vv scope t2&&Vy scope sc U&&Xe i1&&Xe i2&&(Zc t2).all (λx=>!(Zc t1).contains x) then
     (Y1 S n sc U false t1 i1).bind λds=>if ds.length<=Zyk then
      (Fw (λd=>(partsOf t1 d).bind λps=>(Y1 S n (Wm scope sc) (Zi (VT scope U) (Zc t1) ps) true t2 i2).bind λes=>
       XK (λd=>YH S n (Wm scope sc) (Zi (VT scope U) (Zc t1) ps) t2 ifs elt d) es) ds).bind λys=>
      if ys.all Yv&&decide (ys.length<=Zyk) then some (.val (.lst ys)) else none
     else none
    else none
def Rg(S:Sg)(n:Nat)(sc:Zy6)(U:Zx)(e:Zyc):Option AV:=
 yY e (λelt gs scope _=>DX gs λg1 g2=>if g1.ifs.isEmpty&&decide (g1.is_async=0)&&decide (g2.is_async=0) then Pa S n sc U elt g1.target g1.iter g2.target g2.iter g2.ifs scope else none) none
theorem wj        :Rg S n sc U (.ListComp elt [⟨t1,i1,[],0⟩,⟨t2,i2,ifs,0⟩] scope pos)=Pa S n sc U elt t1 i1 t2 i2 ifs scope:=rfl
section
variable {C:Cx}{k:Nat}{U:Zx}{s s' s₁:Zym}{h h':Zyp}{env:Env}{A:Zxd}{E:Zyd->Zym->Prop}
theorem Ut.c8      (hf:Zp env)(hS:WM scope Zq)(y7:WM scope t2)(PU:∀x∈Zc t2,x∉Zc Zq)(ht:G3 scope env U)(hi:YV C k env U false Zq iter ds)(Yh:ds.length<=Zyk)
 (hr:∀YT,InComp scope env YT->Uv C k YT (VT scope U) Zq t2 i2 ifs elt ds ys) (hy:ys.all Yv=true) (Rl:ys.length<=Zyk) (hs:∀x,Zxs iter env x=pure x) (Nh:∀YT x,Zxs i2 YT x=pure x):
 Ut C k env U (.ListComp elt [⟨Zq,iter,[],0⟩,⟨t2,i2,ifs,0⟩] scope pos) scope p iter ys:=λA s Q E P use ZO hg hh hb post=>
 Rw hf hS y7 PU ZO hg hh hb (λ_ n=>absurd trivial n) (λ_ _=>trivial) (ht.free hh) (HE hh) hi hr Rl Nh hs
  λs' D L vs n m ks nD nL I0 hD WE hL=>post s' D L vs n m ks nD nL I0 hD (JV hy WE) hL
theorem Ut.ev2       (h:Ut C k env U (.ListComp elt (⟨Zq,iter,ifs,0⟩::gs) scope pos) scope (firstIterPos (⟨Zq,iter,ifs,0⟩::gs) pos) iter ys):
 Ww C k env U (.ListComp elt (⟨Zq,iter,ifs,0⟩::gs) scope pos) (.own ys):=⟨rfl,λA s Q E P ZO hg hh hb q=>by
 rw[eval_ListComp]
 refine h A s Q E P none ZO hg hh hb λs' D L vs n m ks nD nL I0 hD WE hL=>⟨m,hL,λh' Q6=>?_⟩
 have K0:∀b o,b≠L->s'.heap.get? b=some o->h'.get? b=some o:=λb o n e=>(Q6.2 b n).trans e
 refine q (.ref D) [D] _ ?_ (λb hb=>by simp at hb;rw[hb];exact nD) ⟨D,rfl,rfl,vs,n,K0 D _ I0 hD,WE.mono (λb o e p=>⟨p.1,by simpa using p.2.1⟩) λb o p e=>K0 b o p.2.2 e⟩
 obtain⟨h1,t1,rfl,hk⟩:=ks
 exact⟨h',t1,rfl,λb o e=>K0 b o (λq=>by rw[q,nL] at e;cases e) (hk b o e)⟩⟩
theorem Rv     (hf:∀d l,f d=some l->∃ps UD,partsOf t1 d=some ps/\YV C k env (Zi U (Zc t1) ps) true t2 i2 UD/\XE C k env (Zi U (Zc t1) ps) t2 ifs elt UD l)(ds:List PV):
 ∀{ys:List PV},Fw f ds=some ys->Uv C k env U t1 t2 i2 ifs elt ds ys:=by
 induction ds with
 |nil=>exact λh=>(Zyb h).symm
 | cons d ds ih=>
   intro ys h
   refine Zj h λl h1 h=>YQ h λr h2 e=>?_
   exact (hf d l h1).elim λps z=>z.elim λUD z=>⟨ps,UD,l,r,z.1,e,z.2.1,z.2.2,ih h2⟩
theorem kU  (HS:X9 C k S)(n:Nat):∀env U e a,Zp env->Rg S n env.scope U e=some a->Z1 C k env U e a:=λenv U e a hf h=>
 Ey h (λelt gs scope pos e1 h=>UA h λg1 g2 e2 h=>Zl h λhz h=>Z0 hz λhz Ff=>Z0 hz λhn pC=>Zl h λhc h=>Z0 hc λhc c6=>Z0 hc λhc c5=>Z0 hc λhc c4=>Z0 hc λhc c3=>Z0 hc λc1 c2=>
  Zj h λds h1 h=>Zl h λYh h=>Zj h λys h2 h=>Zl h λhy h=>Z0 hy λhy Rl=>by
  have so:=sound HS n
  rw[<-Zyb h,e1,e2]
  cases g1 with
  | mk t1 i1 J8 z1=>cases g2 with
    | mk t2 i2 ifs z2=>
      have q1:z1=0:=of_decide_eq_true pC
      have q2:z2=0:=of_decide_eq_true Ff
      have q3:J8=[]:=nil_of hn
      rw[q1,q2,q3]
      refine (Ut.ev2 (Ut.c8 hf (UY c1) (UY c2) (λx hx hm=>?_) (Dy c3) (so.Y1 _ _ _ _ _ _ hf h1) Yh (λYT ic=>?_) hy (of_decide_eq_true Rl) (IG c4) (λ_=>IG c5))).ev
      ·have:=ZyV.mp c6 x hx
       rw[ZwQ.mpr hm] at this
       cases this
      ·have LU:=ic.Z6 (UY c1).kind hf
       exact Rv (λd l hd=>Zj hd λps g1 hd=>Zj hd λes g2 hd=>⟨ps,es,g1,so.Y1 _ _ _ _ _ _ LU (by rw[ic.scope];exact g2),Gv (λd r hr=>so.turn YT _ _ _ _ d r LU (by rw[ic.scope];exact hr)) es hd⟩) ds h2) nS
end
end Mine.Internal
end
section
open PySem PySem.W PyProof.Rows
open Sem (wp)
namespace Mine.Internal.Uh
theorem CV(w:Zyh):YY (cx w) "in_table_b1" (fS (fd 4)) (fB (fd 4)) ["code"]:=
 ⟨56,UE w.params,AQ w,AW w,AI w,by kernel_rfl!,λs vals h=>by
  refine Ka (P:=λvals=>ZxL s _ ⟨vals,[]⟩ (Zw2 _ vals)) h λv0=>?_
  exact ZxC (by kernel_rfl!)⟩
theorem D1(w:Zyh):YY (cx w) "map_table_b3" (fS (fd 6)) (fB (fd 6)) ["code"]:=
 ⟨102,UU w.params,BW w,BZ w,BQ w,by kernel_rfl!,λs vals h=>by
  refine Ka (P:=λvals=>ZxL s _ ⟨vals,[]⟩ (Zw2 _ vals)) h λv0=>?_
  exact ZxC (by kernel_rfl!)⟩
theorem KP(w:Zyh):YY (cx w) "_ellipsis_match" (fS (fd 9)) (fB (fd 9)) ["want","got"]:=
 ⟨109,Vf w.params,Ga w,Gb w,Gn w,by kernel_rfl!,λs vals h=>by
  refine UL (P:=λvals=>ZxL s _ ⟨vals,[]⟩ (Zw2 _ vals)) h λv0 v1=>?_
  exact ZxC (by kernel_rfl!)⟩
theorem D0(w:Zyh):YY (cx w) "_law_letter" (fS (fd 15)) (fB (fd 15)) ["letter","q"]:=
 ⟨253,UW w.params,BX w,B9 w,BU w,by kernel_rfl!,λs vals h=>by
  refine UL (P:=λvals=>ZxL s _ ⟨vals,[]⟩ (Zw2 _ vals)) h λv0 v1=>?_
  exact ZxC (by kernel_rfl!)⟩
theorem CW(w:Zyh):YY (cx w) "_law_label" (fS (fd 16)) (fB (fd 16)) ["n","kin"]:=
 ⟨260,UR w.params,AU w,AX w,AK w,by kernel_rfl!,λs vals h=>by
  refine UL (P:=λvals=>ZxL s _ ⟨vals,[]⟩ (Zw2 _ vals)) h λv0 v1=>?_
  exact ZxC (by kernel_rfl!)⟩
theorem B6(w:Zyh):YY (cx w) "_law_over" (fS (fd 17)) (fB (fd 17)) ["short","long","back"]:=
 ⟨267,Jz w.params,Lf w,Lk w,Lb w,by kernel_rfl!,λs vals h=>by
  refine P9 (P:=λvals=>ZxL s _ ⟨vals,[]⟩ (Zw2 _ vals)) h λv0 v1 v2=>?_
  exact ZxC (by kernel_rfl!)⟩
theorem B7(w:Zyh):YY (cx w) "_law_hunt" (fS (fd 18)) (fB (fd 18)) ["words","back"]:=
 ⟨274,Jy w.params,Ld w,Li w,La w,by kernel_rfl!,λs vals h=>by
  refine UL (P:=λvals=>ZxL s _ ⟨vals,[]⟩ (Zw2 _ vals)) h λv0 v1=>?_
  exact ZxC (by kernel_rfl!)⟩
theorem B5(w:Zyh):YY (cx w) "_law_ways" (fS (fd 19)) (fB (fd 19)) ["words","text"]:=
 ⟨279,QO w.params,Lg w,Lj w,Lc w,by kernel_rfl!,λs vals h=>by
  refine UL (P:=λvals=>ZxL s _ ⟨vals,[]⟩ (Zw2 _ vals)) h λv0 v1=>?_
  exact ZxC (by kernel_rfl!)⟩
theorem wR(w:Zyh):YY (cx w) "law" (fS (fd 20)) (fB (fd 20)) ["script"]:=
 ⟨284,Sw w.params,ct w,dE w,cY w,by kernel_rfl!,λs vals h=>by
  refine Ka (P:=λvals=>ZxL s _ ⟨vals,[]⟩ (Zw2 _ vals)) h λv0=>?_
  exact ZxC (by kernel_rfl!)⟩
noncomputable def JZ(a:Zq9)(i:Nat):Pos:=match a.args[i]? with |some x=>x.pos |none=>default
noncomputable def TZ(a:Zq9):List Zyc:=a.defaults
theorem bd2  {fd:ZxI}     (hp:fd.params=⟨[],[⟨"self",none,JZ fd.params 0⟩,⟨"headers",none,JZ fd.params 1⟩],none,[],[],none,TZ fd.params⟩)(hd:fd.defaults=.ref T)(ho:s.heap.get? T=some o)(hs:o.data=.seq #[.none] n):
 ZxL s fd ⟨[v],[]⟩ [("self",v),("headers",.none)]:=by
 generalize JZ fd.params 0=p1 at hp
 generalize JZ fd.params 1=p2 at hp
 generalize TZ fd.params=c at hp
 obtain⟨f1,f2,f3⟩:=fd
 dsimp only at hp
 subst hp
 exact Zq2 hd ho hs rfl rfl
theorem bd3  {fd:ZxI}     (hp:fd.params=⟨[],[⟨"self",none,JZ fd.params 0⟩,⟨"name",none,JZ fd.params 1⟩,⟨"default",none,JZ fd.params 2⟩],none,[],[],none,TZ fd.params⟩)(hd:fd.defaults=.ref T)(ho:s.heap.get? T=some o)(hs:o.data=.seq #[.none] n):
 ZxL s fd ⟨[v,u],[]⟩ [("self",v),("name",u),("default",.none)]:=by
 generalize JZ fd.params 0=p1 at hp
 generalize JZ fd.params 1=p2 at hp
 generalize JZ fd.params 2=p3 at hp
 generalize TZ fd.params=c at hp
 obtain⟨f1,f2,f3⟩:=fd
 dsimp only at hp
 subst hp
 exact Zq2 hd ho hs rfl rfl
theorem atC   (g:(cx w).G h):h.get? 242=some (Hl w.params):=g.YG _ _ (by kernel_rfl!)
def mN(w:Zyh):Str->Option Zyd:=(H1 w.params).nsMap 241
theorem lL(P:Zy1):(H1 P).isNs 241=true:=by kernel_rfl!
theorem cf(w:Zyh):Uz (cx w) 242 241 (mN w) (some (.str (S "Headers") 2395)) (some (.str (S "Headers") 2403)) where
 obj:=λh g=>(atC g).trans (by kernel_rfl!)
 ns:=λh g=>(Zuy (lL w.params)).keeps g.YG
 ga:=by kernel_rfl!
 gh:=by kernel_rfl!
 sa:=by kernel_rfl!
 hd:=by kernel_rfl!
theorem Fu(w:Zyh):Xw (cx w) (mN w) "__init__" 134:=⟨by kernel_rfl!,⟨Kq w.params,V6 w.params,λh g=>xP g,by kernel_rfl!,by kernel_rfl!⟩,⟨some (.builtin "object.__init__"),by rw[Zx8,Zxw];kernel_rfl⟩,by decide⟩
theorem bq   (g:(cx w).G h):h.get? 127=some (Ht w.params):=g.YG _ _ (by kernel_rfl!)
theorem Fq(w:Zyh):WN (cx w) (mN w) "__init__" (fS (fc 13 0)) (fB (fc 13 0)) ["self","headers"] 1 [] [.none]:=
 ⟨134,V6 w.params,Fu w,D7 w,by kernel_rfl!,λs vals g h=>by
  refine Ka (P:=λvals=>ZxL s _ ⟨vals,_⟩ (Zw2 _ (vals++_))) h λv0=>?_
  exact bd2 (T:=127) (n:=0) (by kernel_rfl!) (by kernel_rfl!) (bq g) (by kernel_rfl!)⟩
theorem VD(w:Zyh):Xw (cx w) (mN w) "_convert_string_type" 141:=⟨by kernel_rfl!,⟨Ku w.params,Xn w.params,λh g=>xE g,by kernel_rfl!,by kernel_rfl!⟩,⟨none,by rw[Zx8,Zxw];kernel_rfl⟩,by decide⟩
theorem VC(w:Zyh)(b:Bool):WN (cx w) (mN w) "_convert_string_type" (fS (fc 13 1)) (fB (fc 13 1)) ["self","value","name"] 2 [("name",.bool b)] [.bool b]:=
 ⟨141,Xn w.params,VD w,Uc w,by kernel_rfl!,λs vals g h=>by
  refine UL (P:=λvals=>ZxL s _ ⟨vals,_⟩ (Zw2 _ (vals++_))) h λv0 v1=>?_
  exact ZxC (by kernel_rfl!)⟩
theorem D3(w:Zyh):Xw (cx w) (mN w) "__len__" 148:=⟨by kernel_rfl!,⟨Kv w.params,Ug w.params,λh g=>xR g,by kernel_rfl!,by kernel_rfl!⟩,⟨none,by rw[Zx8,Zxw];kernel_rfl⟩,by decide⟩
theorem D5(w:Zyh):WN (cx w) (mN w) "__len__" (fS (fc 13 2)) (fB (fc 13 2)) ["self"] 1 [] []:=
 ⟨148,Ug w.params,D3 w,CJ w,by kernel_rfl!,λs vals g h=>by
  refine Ka (P:=λvals=>ZxL s _ ⟨vals,_⟩ (Zw2 _ (vals++_))) h λv0=>?_
  exact ZxC (by kernel_rfl!)⟩
theorem B8(w:Zyh):Xw (cx w) (mN w) "get" 189:=⟨by kernel_rfl!,⟨Kw w.params,UP w.params,λh g=>xS g,by kernel_rfl!,by kernel_rfl!⟩,⟨none,by rw[Zx8,Zxw];kernel_rfl⟩,by decide⟩
theorem bz   (g:(cx w).G h):h.get? 182=some (Hh w.params):=g.YG _ _ (by kernel_rfl!)
theorem BY(w:Zyh):WN (cx w) (mN w) "get" (fS (fc 13 8)) (fB (fc 13 8)) ["self","name","default"] 2 [] [.none]:=
 ⟨189,UP w.params,B8 w,AG w,by kernel_rfl!,λs vals g h=>by
  refine UL (P:=λvals=>ZxL s _ ⟨vals,_⟩ (Zw2 _ (vals++_))) h λv0 v1=>?_
  exact bd3 (T:=182) (n:=0) (by kernel_rfl!) (by kernel_rfl!) (bz g) (by kernel_rfl!)⟩
theorem D2(w:Zyh):Xw (cx w) (mN w) "items" 206:=⟨by kernel_rfl!,⟨Kx w.params,Ui w.params,λh g=>xT g,by kernel_rfl!,by kernel_rfl!⟩,⟨none,by rw[Zx8,Zxw];kernel_rfl⟩,by decide⟩
theorem D4(w:Zyh):WN (cx w) (mN w) "items" (fS (fc 13 11)) (fB (fc 13 11)) ["self"] 1 [] []:=
 ⟨206,Ui w.params,D2 w,CQ w,by kernel_rfl!,λs vals g h=>by
  refine Ka (P:=λvals=>ZxL s _ ⟨vals,_⟩ (Zw2 _ (vals++_))) h λv0=>?_
  exact ZxC (by kernel_rfl!)⟩
theorem Kd(w:Zyh):Xw (cx w) (mN w) "setdefault" 232:=⟨by kernel_rfl!,⟨Ky w.params,W8 w.params,λh g=>xH g,by kernel_rfl!,by kernel_rfl!⟩,⟨none,by rw[Zx8,Zxw];kernel_rfl⟩,by decide⟩
theorem Kc(w:Zyh):WN (cx w) (mN w) "setdefault" (fS (fc 13 15)) (fB (fc 13 15)) ["self","name","value"] 3 [] []:=
 ⟨232,W8 w.params,Kd w,KO w,by kernel_rfl!,λs vals g h=>by
  refine P9 (P:=λvals=>ZxL s _ ⟨vals,_⟩ (Zw2 _ (vals++_))) h λv0 v1 v2=>?_
  exact ZxC (by kernel_rfl!)⟩
theorem NS:H5 (fB (fc 13 2)):=⟨_,_,_,_,_,rfl⟩
theorem OJ:Aa (fB (fc 13 11)):=⟨_,_,_,_,_,rfl⟩
theorem vM:Dd (fB (fc 13 0)):=⟨λi=>[_,_,_,_,_,_,_,_,_,_,_,_,_,_,_,_,_,_,_,_,_,_,_,_,_].getD i default,λi=>[_,_,_].getD i 0,_,_,rfl⟩
theorem gu:Bt (fB (fc 13 8)):=⟨λi=>[_,_,_,_,_,_,_,_,_,_,_,_,_,_,_,_,_,_,_,_,_,_,_,_,_,_].getD i default,λi=>[_,_].getD i 0,rfl,by decide,by decide,by decide⟩
theorem gx:Ce (fB (fc 13 15)):=⟨λi=>[_,_,_,_,_,_,_,_,_,_,_,_,_,_,_,_,_,_,_,_,_,_,_,_,_,_,_,_,_,_,_,_].getD i default,λi=>[_,_,_,_].getD i 0,rfl,by decide,by decide,by decide,by decide⟩
theorem vL:MD "_name_disallowed_re" "_value_disallowed_re" (fB (fc 13 1)):=⟨λi=>[_,_,_,_,_,_,_,_,_,_,_,_,_,_,_,_,_,_,_].getD i default,_,_,rfl,by decide⟩
theorem bf   (g:(cx w).G h):h.get? 114=some (GB w.params):=g.YG _ _ (by kernel_rfl!)
theorem ba   (g:(cx w).G h):h.get? 113=some (GA w.params):=g.YG _ _ (by kernel_rfl!)
theorem bj   (g:(cx w).G h):h.get? 119=some (GD w.params):=g.YG _ _ (by kernel_rfl!)
theorem bg   (g:(cx w).G h):h.get? 118=some (GC w.params):=g.YG _ _ (by kernel_rfl!)
noncomputable def ka(o:Obj):Array Zyd:=match o.data with |.fields fs=>fs |_=>#[]
noncomputable def jC(o:Obj):Array Zyd:=match o.data with |.seq xs _=>xs |_=>#[]
theorem ie(w:Zyh):Qd (cx w) 114:=⟨113,GB w.params,GA w.params,ka (GB w.params),jC (GA w.params),0,λh g=>bf g,λh g=>ba g,by kernel_rfl!,by kernel_rfl!,by kernel_rfl!,by kernel_rfl!,by kernel_rfl!,by kernel_rfl!,by kernel_rfl!,.inl (by kernel_rfl!)⟩
theorem ir(w:Zyh):Qd (cx w) 119:=⟨118,GD w.params,GC w.params,ka (GD w.params),jC (GC w.params),0,λh g=>bj g,λh g=>bg g,by kernel_rfl!,by kernel_rfl!,by kernel_rfl!,by kernel_rfl!,by kernel_rfl!,by kernel_rfl!,by kernel_rfl!,.inr (by kernel_rfl!)⟩
theorem vG(w:Zyh):(cx w).mg "type"=none:=by kernel_rfl!
theorem vC(w:Zyh):(cx w).mb "type"=some (.type "type"):=by kernel_rfl!
theorem jD(w:Zyh)  (qN:∀x d,gv x=some d->∃v,(cx w).mg x=some v/\∀P h,Rep P h d v):Xs (cx w) 0 ⟨I1,Xx,gv,λ_ _ _=>none⟩:=
 Xs.base (base w) qN (λx e=>by
  rcases e with rfl |rfl |rfl
  ·exact Hp w
  ·exact OX w
  ·exact iQ w) (Ho w) (OU w) (iM w)
theorem Sz(w:Zyh):G5 (cx w) 242 241 (mN w) (some (.str (S "Headers") 2395)) (some (.str (S "Headers") 2403)) where
 cls:=cf w
 conv:=⟨_,_,_,_,114,119,VC w,vL,ie w,ir w,JK w,Jw w,by kernel_rfl!,by kernel_rfl!,by kernel_rfl!,by kernel_rfl!,by decide,by decide,by kernel_rfl!,by kernel_rfl!⟩
 type:=⟨vG w,vC w⟩
 str:=⟨iK w,iH w⟩
 sg:=jD w λ_ _ e=>by cases e
 len:=⟨_,_,D5 w,NS,by kernel_rfl!,by kernel_rfl!,by kernel_rfl!⟩
 init:=⟨_,_,Fq w,vM,by kernel_rfl!,by kernel_rfl!,by kernel_rfl!,by kernel_rfl!⟩
 list:=⟨Hp w,Ho w⟩
 glob:=EE w
theorem tI(w:Zyh):VR (cx w) 242 241 (mN w) (some (.str (S "Headers") 2395)) (some (.str (S "Headers") 2403)) where
 toHdOK2:=(Sz w).toHdOK2
 get:=⟨_,_,BY w,gu,by kernel_rfl!,by kernel_rfl!⟩
 Cw:=⟨_,_,Kc w,gx,by kernel_rfl!,by kernel_rfl!⟩
theorem tK(w:Zyh):NC (cx w) 242 241 (mN w) (some (.str (S "Headers") 2395)) (some (.str (S "Headers") 2403)) where
 toHdOK3:=(Sz w).toHdOK3
 items:=⟨_,_,D4 w,OJ,by kernel_rfl!,by kernel_rfl!⟩
end Mine.Internal.Uh
end
section
open PySem PySem.W PyProof.Rows
open Sem (wp)
namespace Mine.Internal
open Mine.Internal.Hd
noncomputable def gZ(x:Int × Tok):Int × Zyd:=(x.1,.int x.1 x.2)
theorem S8   {h:Zyp}     (xs:List (Int × Tok))(ho:h.get? a=some o)(hc:o.cls=.type "set")(hd:o.dict=none)(hs:o.slots=#[])(qR:o.data=.set (xs.map gZ).toArray ep t)
 (hh:(xs.all λx=>hashInt x.1==x.1&&(Zvj x.1 x.2).scannable)=true) (hb:xs.length<scanBound) (hf:t.fits xs.length=true):h.SetOf (intKind prog w) a (λi=>xs.any λx=>x.1==i) xs.length:=by
 refine⟨o,_,ep,t,ho,⟨hc,hd,hs⟩,qR,λe he=>?_,λk=>?_,by simpa using hb,by simpa using hf,by simp⟩
 ·simp only[Zye] at he
  obtain⟨x,hx,rfl⟩:=he
  have:=ZyV.mp hh x hx
  simp only[ZyW,beq_iff_eq] at this
  exact⟨⟨x.1,(beq_self_eq_true x.1:(x.1==x.1)=true),this.1.symm⟩,this.2⟩
 ·simp only[ZwZ,Zye,beq_iff_eq]
  constructor
  ·rintro⟨x,hx,rfl⟩
   exact⟨_,⟨x,hx,rfl⟩,(beq_self_eq_true x.1:(x.1==x.1)=true)⟩
  ·rintro⟨e,⟨x,hx,rfl⟩,he⟩
   have he:(x.1==k)=true:=he
   exact⟨x,hx,beq_iff_eq.mp he⟩
theorem SW   {h:Zyp}   (xs:List XJ)(ho:h.get? a=some (Yb (Zs xs) n)):h.MapOf (intKind prog w) a (λi=>(xs.find? λx=>x.1==i).map (·.2.2)):=by
 refine⟨_,Zs xs,n,ho,⟨rfl,rfl,rfl⟩,rfl,λe he=>?_,λk=>?_⟩
 ·unfold Zs at he
  simp only[Zjd,Zye] at he
  obtain⟨x,hx,rfl⟩:=he
  exact⟨x.1,(beq_self_eq_true x.1:(x.1==x.1)=true),rfl⟩
 ·unfold findBy Zs
  simp only[List.find?_toArray,ZjY]
  have:((λe:Zvl=>(intKind prog w).is k e.key)∘ent)=λx:XJ=>x.1==k:=by
   funext x
   rfl
  rw[this]
  cases xs.find? λx=>x.1==k<;>rfl
namespace Uh
open Mine.Internal.Hd
noncomputable def PH:List (Int × Tok):=[(65024,307),(65025,308),(65026,309),(65027,310),(65028,311),(65029,312),(6150,293),(65030,313),(65031,314),(65032,315),(65033,316),(6155,294),(6156,295),(6157,296),(8203,297),(8204,298),(8205,299),(65034,317),(65035,318),(65036,319),(65037,320),(65038,321),(65039,322),(173,291),(847,292),(8288,300),(65279,301)]
def iw(o:Obj):SetTable:=match o.data with |.set _ _ t=>t |_=>default
theorem sQ   (g:(cx w).G h):h.get? 46=some (TH w.params):=g.YG _ _ (by kernel_rfl!)
theorem cB(w:Zyh)(h:Zyp)(g:(cx w).G h):h.SetOf (intKind (cx w).prog (cx w).w) 46 (λi=>PH.any λx=>x.1==i) 27:=
 S8 PH (ep:=29) (t:=iw (TH w.params)) (sQ g) (by kernel_rfl!) (by kernel_rfl!) (by kernel_rfl!) (by kernel_rfl!) (by decide) (by decide) (by kernel_rfl!)
def Cn:List (Int × Str):=dataOf IJ IQ
def FE:List XJ:=Yy 358 (Cn.take 17)++Y8 (358+51) (Wq 37 (Cn.drop 17))++Xf (358+51+51*37) ((Cn.drop 17).drop (17*37))
theorem sV   (g:(cx w).G h):h.get? 57=some (Yb (Zs FE) Cn.length):=g.YG _ _ (by kernel_rfl!)
theorem cF(w:Zyh)(h:Zyp)(g:(cx w).G h):h.MapOf (intKind (cx w).prog (cx w).w) 57 (λi=>(FE.find? λx=>x.1==i).map (·.2.2)):=SW FE (sV g)
noncomputable def g9:Zyd->Bool
 |.str _ _=>true
 |_=>false
theorem fF:(FE.all λx=>g9 x.2.2)=true:=by decide +kernel
noncomputable def R9(i:Int):Bool:=PH.any λx=>x.1==i
noncomputable def strOf:Zyd->Option Str
 |.str s _=>some s
 |_=>none
def LS(i:Int):Option Str:=((FE.find? λx=>x.1==i).map (·.2.2)).bind strOf
noncomputable def optStr:Option Str->PV
 |some s=>.str s
 |none=>.none
theorem cG(i:Int)(P:Zya->Prop)(h:Zyp):Rep P h (optStr (LS i)) ((((FE.find? λx=>x.1==i).map (·.2.2))).getD .none):=by
 unfold LS
 cases e:FE.find? λx=>x.1==i with
 |none=>exact Y9.mpr rfl
 | some x=>
   have hm:=Zv6 e
   have:=ZyV.mp fF x hm
   obtain⟨a,b,v⟩:=x
   cases v<;>first |cases this |skip
   exact Zt.mpr ⟨_,rfl⟩
end Uh
end Mine.Internal
end
section
open PySem PySem.W PyProof.Rows
open Sem (wp)
namespace Mine.Internal
open Classical
noncomputable def I9(c:Zya)(cl:Str->List AV->Option PV):Str->List AV->Option PV:=λx as=>
 if x==("len":Str) then (match as with
  |[.tab c' l]=>if c'=c/\l.length<=Zyk then some (.int l.length) else none
  |_=>cl x as) else cl x as
def NR(c:Zya)(mt:Str->AV->List AV->Option PV):Str->AV->List AV->Option PV:=λnm a as=>
 match a,as with
 |.val (.box T ks l),[]=>if nm=("items":Str)/\T=Z8 c/\ks=[]/\l.length<=Zyk then some (.lst l) else none
 |a,as=>mt nm a as
theorem H4      {R:Prop}(h:I9 c cl x as=some d)(q:∀l:List PV,x="len"->as=[.tab c l]->l.length<=Zyk->d=.int l.length->R)(r:cl x as=some d->R):R:=by
 refine Y4 h (λex h=>?_) λ_=>r
 rcases as with _ |⟨a,_ |⟨_,_⟩⟩
 ·exact r h
 ·cases a with
  |tab c' l=>exact Zl h λhc h=>q l (eq_of_beq ex) (by rw[hc.1]) hc.2 (Zyb h).symm
  |_=>exact r h
 ·cases a<;>exact r h
theorem EI  {mt:Str->AV->List AV->Option PV}     {R:Prop}(h:NR c mt x a as=some d)(q:∀l:List PV,x="items"->a=.val (.box (Z8 c) [] l)->as=[]->l.length<=Zyk->d=.lst l->R)(r:mt x a as=some d->R):R:=by
 cases a with
 | val p=>cases p with
   | box T ks l=>cases as with
     |nil=>exact Zl h λhc h=>q l hc.1 (by rw[hc.2.1,hc.2.2.1]) rfl hc.2.2.2 (Zyb h).symm
     |cons _ _=>exact r h
   |_=>exact r h
 |_=>exact r h
def Sg.tab(S:Sg)(c:Zya):Sg:=⟨I9 c S.cl,NR c S.mt,S.gv,S.xe⟩
section
variable {C:Cx}{k:Nat}{U:Zx}{env:Env}{c Nc:Zya}{mN:Str->Option Zyd}{k2 k3:Option Zyd}
theorem Xs.len(H:HdOK3 C c Nc mN k2 k3){k₀:Nat}{S:Sg}(hS:Xs C k₀ S)(hm:C.mg "len"=none)(hb:C.mb "len"=some (.builtin "len")):Xs C (k₀+3) ⟨I9 c S.cl,S.mt,S.gv,S.xe⟩:=λk hk=>by
 obtain⟨k',rfl⟩:∃k',k=k'+3:=⟨k-3,by lia⟩
 have K:=hS (k'+3) (by lia)
 exact⟨λx as d h env U p pos args hf BL ha hd hl=>H4 h (λl ex ea hz ed=>by
  subst ex ea ed
  exact Ev.Si hf ⟨hm,hb,BL⟩ ha (H.Ew (k:=k') (.inl rfl) hz) hd) λh=>K.cl x as d h env U p pos args hf BL ha hd hl,K.mt,K.gv,K.xe,K.bi,K.list,K.range,K.zip⟩
theorem Xs.tab(H:NC C c Nc mN k2 k3)  {S:Sg}(hS:Xs C k₀ S)(hm:C.mg "len"=none)(hb:C.mb "len"=some (.builtin "len")):Xs C (k₀+3) (S.tab c):=λk hk=>by
 obtain⟨k',rfl⟩:∃k',k=k'+3:=⟨k-3,by lia⟩
 have K:=hS (k'+3) (by lia)
 refine⟨λx as d h env U p pos args hf BL ha hd hl=>?_,λname a as d h env U o apos pos args ho ha YJ ZC hl=>?_,K.gv,K.xe,K.bi,K.list,K.range,K.zip⟩
 ·exact H4 h (λl ex ea hz ed=>by
   subst ex ea ed
   exact Ev.Si hf ⟨hm,hb,BL⟩ ha (H.Ew (k:=k') (.inl rfl) hz) hd) λh=>K.cl x as d h env U p pos args hf BL ha hd hl
 ·exact EI h (λl en ea eas hz ed=>by
   subst en ea eas ed
   exact (H.EG (k:=k'+2) hz).elim λf z=>Ev.MU H.cls ho z.1 ha (z.2.nil) YJ ZC hl) λh=>K.mt name a as d h env U o apos pos args ho ha YJ ZC hl
end
noncomputable def NA:PV->Option (Str × Str)
 |.tup [.str a,.str b]=>some (a,b)
 |_=>none
def JL(l:List PV):Option (List (Str × Str)):=l.mapM NA
theorem Ef   (h:NA d=some a):d=.tup [.str a.1,.str a.2]:=by
 cases d with
 | tup l=>
   rcases l with _ |⟨x,_ |⟨y,_ |⟨z,w⟩⟩⟩
   ·exact nS h
   ·cases x<;>exact nS h
   ·cases x<;>first |exact nS h |(cases y<;>first |exact nS h |(cases h;rfl))
   ·cases x<;>first |exact nS h |(cases y<;>exact nS h)
 |_=>exact nS h
theorem Sn   (h:JL l=some q):l=pairs q:=GN (g:=λ(x:Str × Str)=>PV.tup [.str x.1,.str x.2]) (λd a e=>Ef e) h
theorem A7(q:List (Str × Str)):JL (pairs q)=some q:=by
 induction q with
 |nil=>rfl
 |cons x q ih=>exact ZwH.trans (by rw[show List.mapM NA (Zqm _ q)=some q from ih];rfl)
def laid(q:List (Str × Str))(nm v:Str):List (Str × Str):=match YE q nm with
 |some _=>q
 |none=>q++[(nm,v)]
def xG:AV->Option (Zya × List PV)
 |.tab c l=>some (c,l)
 |.own _=>none
 |.val _=>none
theorem yj    (h:xG a=some (c,l)):a=.tab c l:=by cases a<;>cases h;rfl
section
variable {α:Type}{P:Prop}{r:α}
def aw(ts:List Zyc)(e:Zyc)(k:Str->Str->Str->List Zyc->List ZvW->List Zyc->Option α):Option α:=
 Vr ts λt=>AR t λes _ _=>DX es λa b=>UB a λx _=>UB b λy _=>AR e λvs _ _=>DX vs λu w=>IF u λf as ks _=>UB f λh _=>xa w λl _=>k x y h as ks l
theorem ix    (h:aw ts e k=some r)
 (q:∀x y z as ks l p1 p2 n1 tp p3 p4 p5 n2 Ir,ts=[.Tuple [.Name x p1,.Name y p2] n1 tp]->e=.Tuple [.Call (.Name z p3) as ks p4,.List l p5] n2 Ir->k x y z as ks l=some r->P):P:=
 Xd h λt e1 h=>Dk h λes n1 tp e2 h=>UA h λa b e3 h=>Vk h λx p1 e4 h=>Vk h λy p2 e5 h=>Dk h λvs n2 Ir e6 h=>UA h λu w e7 h=>Js h λf as ks p4 e8 h=>Vk h λz p3 e9 h=>O6 h λl p5 e10 h=>
  q x y z as ks l p1 p2 n1 tp p3 p4 p5 n2 Ir (by rw[e1,e2,e3,e4,e5]) (by rw[e6,e7,e8,e9,e10]) h
def ax(e:Zyc)(k:Str->Str->Str->Str->List ZvW->List ZvW->Zyc->Zyc->Zyc->Pos->Pos->Pos->Pos->Option α):Option α:=
 IF e λf as ks Yj=>ID f λo m apos=>UB o λy _=>Vr as λt=>AR t λes _ _=>DX es λe0 w=>IF w λg bs DW p5=>ID g λo2 m2 p3=>UB o2 λx _=>DX bs λe1 e2=>k x y m m2 ks DW e0 e1 e2 apos Yj p3 p5
theorem iy   (h:ax e k=some r)
 (q:∀x y m m2 ks DW e0 e1 e2 apos Yj p3 p5 py p1 tk tp,e=.Call (.Attribute (.Name y py) m apos) [.Tuple [e0,.Call (.Attribute (.Name x p1) m2 p3) [e1,e2] DW p5] tk tp] ks Yj->k x y m m2 ks DW e0 e1 e2 apos Yj p3 p5=some r->P):P:=
 Js h λf as ks Yj a1 h=>Jr h λo m apos a2 h=>Vk h λy py a3 h=>Xd h λt a4 h=>Dk h λes tk tp a5 h=>UA h λe0 w a6 h=>Js h λg bs DW p5 a7 h=>Jr h λo2 m2 p3 a8 h=>Vk h λx p1 a9 h=>UA h λe1 e2 a10 h=>
  q x y m m2 ks DW e0 e1 e2 apos Yj p3 p5 py p1 tk tp (by rw[a1,a2,a3,a4,a5,a6,a7,a8,a9,a10]) h
end
def qw(c:Zya)(sc:Zy6)(U:Zx)(ts:List Zyc)(e:Zyc):Option (Z9 × Zx):=
 aw ts e λx y h as ks l=>if (as.isEmpty&&(ks.isEmpty&&(l.isEmpty&&(h==("Headers":Str)&&(YW sc x&&(YW sc y&&(!(x==y)&&Ym sc h)))))))=true then some (.Z4,(U.set x (.tab c [])).set y (.own [])) else none
def qx(c:Zya)(S:Sg)(n:Nat)(sc:Zy6)(U:Zx)(x y:Str)(e0 e1 e2:Zyc):Option (Z9 × Zx):=
 ((U x).bind xG).bind λtb=>((U y).bind Nw).bind λds=>((ev S n sc U.flat e0).bind YS).bind λr0=>((ev S n sc U.flat e1).bind YS).bind λnm=>((ev S n sc U.flat e2).bind YS).bind λv=>
   (JL tb.2).bind λq=>if tb.1=c/\(∀x∈q,x.1.length<=5592405)/\q.length<=Zyk/\nm.length<=5592405/\ZL (ZyU nm)/\ZL nm/\ZL v/\ds.length<=Zyk then
    some (.Z4,(U.set x (.tab c (pairs (laid q nm v)))).set y (.own (ds++[.tup [.str r0,.str ((YE q nm).getD v)]]))) else none
def rt(c:Zya)(S:Sg)(n:Nat)(sc:Zy6)(U:Zx)(e:Zyc):Option (Z9 × Zx):=
 ax e λx y m m2 ks DW e0 e1 e2 apos Yj p3 p5=>if (ks.isEmpty&&(DW.isEmpty&&(m==("append":Str)&&(m2==("setdefault":Str)&&(Y0 x&&(Y0 y&&(!(y==x)&&(notStar e0&&(notStar e1&&(notStar e2&&(p3.endLine==p5.line&&apos.endLine==Yj.line)))))))))))=true then qx c S n sc U x y e0 e1 e2 else none
def Nf(c:Zya)(S:Sg)(n:Nat)(sc:Zy6)(U:Zx)(st:ZyF):Option (Z9 × Zx):=P8 st (λts e _=>qw c sc U ts e) λe _=>rt c S n sc U e
theorem Bw{P:Prop}   (h:o.bind YS=some x)(q:o=some (.val (.str x))->P):P:=Zj h λa e h=>q (by rw[e,Xb h])
theorem kO{P:Prop}         (h:qx c S n sc U x y e0 e1 e2=some (af,σ'))
 (q:∀(q:List (Str × Str)) (ds:List PV) (r0 nm v:Str),U x=some (.tab c (pairs q))->U y=some (.own ds)->ev S n sc U.flat e0=some (.val (.str r0))->ev S n sc U.flat e1=some (.val (.str nm))->ev S n sc U.flat e2=some (.val (.str v))->
  ((∀x∈q,x.1.length<=5592405)/\q.length<=Zyk/\nm.length<=5592405/\ZL (ZyU nm)/\ZL nm/\ZL v/\ds.length<=Zyk)->af=.Z4->σ'=(U.set x (.tab c (pairs (laid q nm v)))).set y (.own (ds++[.tup [.str r0,.str ((YE q nm).getD v)]]))->P):P:=
 Zj h λtb a1 h=>Zj h λds a2 h=>Zj h λr0 a3 h=>Zj h λnm a4 h=>Zj h λv a5 h=>Zj h λl a6 h=>Zl h λc1 h=>
  Zj a1 λb e b1=>Zj a2 λb' e' b2=>Bw a3 λa3=>Bw a4 λa4=>Bw a5 λa5=>
   q l ds r0 nm v (by rw[e,yj (c:=tb.1) (l:=tb.2) b1,Sn a6,c1.1]) (by rw[e',Dr b2]) a3 a4 a5 c1.2 (by cases h;rfl) (by cases h;rfl)
section
variable {C:Cx}{k:Nat}{F:Y7}{U:Zx}{env:Env}{c Nc:Zya}{mN:Str->Option Zyd}{k2 k3:Option Zyd}
theorem iz(H:G5 C c Nc mN k2 k3)(HG:VR C c Nc mN k2 k3){S:Sg}(HS:X9 C (k+3) S)(n:Nat)  (hT:T.sp=Nf c S n F.env.scope)(hF:XM F):NF C (k+3) T F:=by
 intro U st af σ' h
 rw[hT] at h
 refine vw h (λts e pos es h=>?_) (λe pos es h=>?_)
 ·refine ix h λx y z as ks l p1 p2 n1 tp p3 p4 p5 n2 Ir a1 a2 h=>Zl h λhc h=>Z0 hc λh1 hc=>Z0 hc λh2 hc=>Z0 hc λh3 hc=>Z0 hc λhn hc=>Z0 hc λhx hc=>Z0 hc λhy hc=>Z0 hc λq7 Ro=>?_
  have h:=Prod.mk.inj (Zyb h)
  rw[es,a1,a2,nil_of h1,nil_of h2,nil_of h3,eq_of_beq hn,<-h.1,<-h.2]
  rw[eq_of_beq hn] at Ro
  exact Ex.dA hF.Z6 (Wz hF hx) (Wz hF hy) (ne_of_beq_false ((Zxg _).mp q7)) (Ww.headers H hF.Z6 (by unfold Ym at Ro;exact beq_iff_eq.mp Ro)) (Ww.list (ds:=[]) ZW.nil (ZyS _)) rfl rfl (Me rfl) rfl
 ·refine iy h λx y m m2 ks DW e0 e1 e2 apos Yj p3 p5 py p1 tk tp a1 h=>Zl h λhc h=>Z0 hc λh1 hc=>Z0 hc λh2 hc=>Z0 hc λou hc=>Z0 hc λqG hc=>Z0 hc λhx hc=>Z0 hc λhy hc=>Z0 hc λLX hc=>Z0 hc λn0 hc=>Z0 hc λn1 hc=>Z0 hc λn2 hc=>Z0 hc λl1 l2=>
   kO h λq ds r0 nm v pL pM b0 b1 b2 Ik f1 f2=>?_
  rw[es,a1,nil_of h1,nil_of h2,eq_of_beq ou,eq_of_beq qG,f1,f2]
  obtain⟨sc,body,hD,_⟩:=HG.Cw
  obtain⟨f,fd,hm,_⟩:=hD.ex
  have so:=sound HS n
  exact Ex.Es HG hF.Z6 hm pL hx pM hy (ne_of_beq_false ((Zxg _).mp LX)) (so.ev _ _ _ _ hF.Z6 b0) (so.ev _ _ _ _ hF.Z6 b1) (so.ev _ _ _ _ hF.Z6 b2) n0 n1 n2 l1 l2 Ik.1 Ik.2.1 Ik.2.2.1 Ik.2.2.2.1 Ik.2.2.2.2.1 Ik.2.2.2.2.2.1 Ik.2.2.2.2.2.2
end
end Mine.Internal
end
section
open PySem PySem.W PyProof.Rows
open Sem (wp)
namespace Mine.Internal.L1
def fnAt(i:Nat):List ZyF × Zy6:=((Zud.main.body)[i]?).elim ([],default) λs=>Uh.Nz s ([],default) λ_ b sc=>(b,sc)
def X2(i:Nat):List ZyF:=(fnAt i).1
def Zg(i:Nat):Zy6:=(fnAt i).2
noncomputable def y9:Str->Option PV:=λx=>if x==("ELLIPSIS_MARKER":Str) then some (.str "...") else none
noncomputable def optStr:Option Str->PV
 |some s=>.str s
 |none=>.none
def nu(b1:Int->Bool)(as:List AV):Option PV:=Vr as λa=>(YS a).bind λx=>Vr x.cps.toList λch=>some (.bool (b1 ch))
def kb(b3:Int->Option Str)(as:List AV):Option PV:=Vr as λa=>(YS a).bind λx=>Vr x.cps.toList λch=>some (.str ((b3 ch).getD (ZyU x)))
section
variable (c:Zya)(b1:Int->Bool)(b3:Int->Option Str)
def B0:Sg:=(⟨I1,Xx,y9,λ_ _ _=>none⟩:Sg).tab c
def Sa:Sg:=(B0 c).add "in_table_b1" (nu b1)
def Sb:Sg:=(Sa c b1).add "map_table_b3" (kb b3)
@[reducible] def Tn (S:Sg) (ow:List Str):St:=⟨S,ow,λ_ _=>none,1000⟩
@[reducible] def Th (S:Sg) (sc:Zy6):St:=⟨S,["waiting"],Nf c S 30 sc,1000⟩
def run(S:Sg)(i:Nat)(ow xs:List Str):List AV->Option PV:=JH (Tn S ow) 60 (Zg i) (X2 i) xs
def S1:Sg:=(Sb c b1 b3).add "_ellipsis_match" (run (Sb c b1 b3) 9 ["ws"] ["want","got"])
def S2:Sg:=(S1 c b1 b3).add "_law_letter" (run (S1 c b1 b3) 15 [] ["letter","q"])
def S3:Sg:=(S2 c b1 b3).add "_law_label" (run (S2 c b1 b3) 16 [] ["n","kin"])
def S4:Sg:=(S3 c b1 b3).add "_law_over" (run (S3 c b1 b3) 17 [] ["short","long","back"])
def S5:Sg:=(S4 c b1 b3).add "_law_hunt" (JH (Th c (S4 c b1 b3) (Zg 18)) 60 (Zg 18) (X2 18) ["words","back"])
def S6:Sg:=(S5 c b1 b3).add "_law_ways" (run (S5 c b1 b3) 19 ["ways"] ["words","text"])
def S7:Sg:=⟨(S6 c b1 b3).cl,(S6 c b1 b3).mt,(S6 c b1 b3).gv,Rg (S6 c b1 b3) 60⟩
def PZ:List AV->Option PV:=run (S7 c b1 b3) 20 ["words","ends"] ["script"]
end
structure UT(C:Cx)(c Nc:Zya)(mN:Str->Option Zyd)(k2 k3:Option Zyd)(b1:Int->Bool)(b3:Int->Option Str):Prop where
 hd:G5 C c Nc mN k2 k3
 gs:VR C c Nc mN k2 k3
 it:NC C c Nc mN k2 k3
 sg:Xs C 0 ⟨I1,Xx,y9,λ_ _ _=>none⟩
 len:C.mg "len"=none/\C.mb "len"=some (.builtin "len")
 NV:YY C "in_table_b1" (Zg 4) (X2 4) ["code"]
 set:∃a n,C.mg "b1_set"=some (.ref a)/\∀h,C.G h->h.SetOf (intKind C.prog C.w) a b1 n
 DM:YY C "map_table_b3" (Zg 6) (X2 6) ["code"]
 dict:∃a f,C.mg "b3_exceptions"=some (.ref a)/\(a==sysModules)=false/\(∀h,C.G h->h.MapOf (intKind C.prog C.w) a f)/\∀i P h,Rep P h (optStr (b3 i)) ((f i).getD .none)
 em:YY C "_ellipsis_match" (Zg 9) (X2 9) ["want","got"]
 letter:YY C "_law_letter" (Zg 15) (X2 15) ["letter","q"]
 label:YY C "_law_label" (Zg 16) (X2 16) ["n","kin"]
 over:YY C "_law_over" (Zg 17) (X2 17) ["short","long","back"]
 NU:YY C "_law_hunt" (Zg 18) (X2 18) ["words","back"]
 FX:YY C "_law_ways" (Zg 19) (X2 19) ["words","text"]
 aZ:YY C "law" (Zg 20) (X2 20) ["script"]
section
variable {C:Cx}{c Nc:Zya}{mN:Str->Option Zyd}{k2 k3:Option Zyd}{b1:Int->Bool}{b3:Int->Option Str}
theorem cK:∃p1 p2 p3 p4 p5 p6,X2 4=[.Return (some (.Compare (.Call (.Name "ord" p1) [.Name "code" p2] [] p3) [.In] [.Name "b1_set" p4] p5)) p6]:=⟨_,_,_,_,_,_,rfl⟩
theorem bM(H:UT C c Nc mN k2 k3 b1 b3):Xs C 3 (B0 c):=H.sg.tab H.it H.len.1 H.len.2
theorem RO     {ch:Nat}(hS:∀as,S.cl "ord" as=FQ as)(hx:x.cps.toList=[ch])(h1:Ym sc "ord"=true)(h2:Ym sc "code"=false):
 ev S 60 sc (Zi (λ_=>none) ["code"] [.str x]) (.Call (.Name "ord" p1) [.Name "code" p2] [] p3)=some (.val (.int ch)):=by
 have e1:FQ [.val (.str x)]=some (.int ch):=by
  show (Vr x.cps.toList λc=>some (PV.int c))=_
  rw[hx];rfl
 exact DC (by rw[h1];rfl) (VP tT (UO (by rw[h2];rfl) (a:=.val (.str x)) rfl) Ur) ((hS _).trans e1)
theorem up1(H:UT C c Nc mN k2 k3 b1 b3):Xs C 4 (Sa c b1):=by
 refine (bM H).call λk as d hk h=>?_
 refine Xd h λv ev h=>Zj h λx ex h=>Xd h λch hx h=>?_
 rw[ev,Xb ex]
 obtain⟨p1,p2,p3,p4,p5,p6,e⟩:=cK
 obtain⟨a,n,h1,h2⟩:=H.set
 have D:=H.NV
 rw[e] at D
 rw[<-Zyb h]
 exact (L6 (bM H k hk) D (by decide) rfl (RO (S:=B0 c) (λ_=>rfl) hx (by decide) (by decide)) h1 (by decide) (by decide) rfl h2)
theorem cJ:∃p1 p2 p3 p4 p5 p6 p7 p8 q1 q2 q3 q4 q5 q6 r1 r2 r3 r4 n,X2 6=.Assign [.Name "r" p1] (.Call (.Attribute (.Name "b3_exceptions" p2) "get" p3) [.Call (.Name "ord" p4) [.Name "code" p5] [] p6] [] p7) p8 ::
 [.If (.Compare (.Name "r" q1) [.IsNot] [.Constant .none n q2] q3) [.Return (some (.Name "r" q4)) q5] [] q6,.Return (some (.Call (.Attribute (.Name "code" r1) "lower" r2) [] [] r3)) r4]/\(p3.endLine==p7.line)=true/\(r2.endLine==r3.line)=true:=
 ⟨_,_,_,_,_,_,_,_,_,_,_,_,_,_,_,_,_,_,_,rfl,by decide,by decide⟩
theorem d6      (hS:S.mt "lower" (.val (.str x)) []=some (.str (ZyU x)))(h1:Ym (Zg 6) "r"=false)(h2:Ym (Zg 6) "code"=false)(hl:(r2.endLine==r3.line)=true):
 Xm (Tn S []) 60 (Zg 6) ((Zi (λ_=>none) ["code"] [.str x]).set "r" (.val (optStr o))) [.If (.Compare (.Name "r" q1) [.IsNot] [.Constant .none n q2] q3) [.Return (some (.Name "r" q4)) q5] [] q6,.Return (some (.Call (.Attribute (.Name "code" r1) "lower" r2) [] [] r3)) r4]=
  some (.ret (.str (o.getD (ZyU x))),(Zi (λ_=>none) ["code"] [.str x]).set "r" (.val (optStr o))):=by
 cases o with
 |none=>exact Ub (QX (Vp tF (UO (by rw[h1];rfl) (a:=.val .none) rfl) TL rfl) VA) (Iv (Kb (Nd (Kp (by rw[hl];rfl) (UO (by rw[h2];rfl) (a:=.val (.str x)) rfl) Ur hS) rfl)))
 |some y=>exact Iv (Ue (Vp tF (UO (by rw[h1];rfl) (a:=.val (.str y)) rfl) TL rfl) (Iv (Kb (Nd (UO (by rw[h1];rfl) (a:=.val (.str y)) rfl) rfl))))
theorem bN(H:UT C c Nc mN k2 k3 b1 b3):Xs C 5 (Sb c b1 b3):=by
 refine (up1 H).call λk as d hk h=>?_
 refine Xd h λv ev h=>Zj h λx ex h=>Xd h λch hx h=>?_
 rw[ev,Xb ex]
 obtain⟨p1,p2,p3,p4,p5,p6,p7,p8,q1,q2,q3,q4,q5,q6,r1,r2,r3,r4,n,e,l1,l2⟩:=cJ
 obtain⟨a,f,h1,h2,h3,h4⟩:=H.dict
 have D:=H.DM
 rw[e] at D
 have yh:x.length<=5592405:=by
  show x.cps.toList.length<=5592405
  rw[hx];exact Zwg 1 5592404
 have oz:(Sa c b1).mt "lower" (.val (.str x)) []=some (.str (ZyU x)):=(if_pos yh).trans rfl
 rw[<-Zyb h]
 exact (AM (T:=Tn (Sa c b1) []) (up1 H k hk) rfl D (by decide) rfl (RO (S:=Sa c b1) (λ_=>rfl) hx (by decide) (by decide)) (by decide) h1 h2 (by decide) (by decide) l1 rfl rfl h3 (h4 ch)
  (d6 (S:=Sa c b1) (o:=b3 ch) oz (by decide) (by decide) l2))
theorem rq(H:UT C c Nc mN k2 k3 b1 b3):Xs C 6 (S1 c b1 b3):=(bN H).own (T:=Tn (Sb c b1 b3) ["ws"]) (λk F _ _ _=>J6 C k F rfl) H.em (by decide)
theorem ry(H:UT C c Nc mN k2 k3 b1 b3):Xs C 7 (S2 c b1 b3):=(rq H).own (T:=Tn (S1 c b1 b3) []) (λk F _ _ _=>J6 C k F rfl) H.letter (by decide)
theorem rz(H:UT C c Nc mN k2 k3 b1 b3):Xs C 8 (S3 c b1 b3):=(ry H).own (T:=Tn (S2 c b1 b3) []) (λk F _ _ _=>J6 C k F rfl) H.label (by decide)
theorem bA(H:UT C c Nc mN k2 k3 b1 b3):Xs C 9 (S4 c b1 b3):=(rz H).own (T:=Tn (S3 c b1 b3) []) (λk F _ _ _=>J6 C k F rfl) H.over (by decide)
theorem sO(H:UT C c Nc mN k2 k3 b1 b3):Xs C 10 (S5 c b1 b3):=(bA H).own (T:=Th c (S4 c b1 b3) (Zg 18)) (λk F hk hs hF=>by
 obtain⟨k',rfl⟩:∃k',k=k'+3:=⟨k-3,by lia⟩
 exact iz H.hd H.gs (bA H (k'+3) hk) 30 (by rw[hs]) hF) H.NU (by decide)
theorem sP(H:UT C c Nc mN k2 k3 b1 b3):Xs C 11 (S6 c b1 b3):=(sO H).own (T:=Tn (S5 c b1 b3) ["ways"]) (λk F _ _ _=>J6 C k F rfl) H.FX (by decide)
theorem sE(H:UT C c Nc mN k2 k3 b1 b3):Xs C 11 (S7 c b1 b3):=λk hk=>
 let K:=sP H k hk
 ⟨K.cl,K.mt,K.gv,kU K 60,K.bi,K.list,K.range,K.zip⟩
theorem OD(H:UT C c Nc mN k2 k3 b1 b3)  (hk:11<=k)   (h:PZ c b1 b3 as=some d):∃f,C.mg "law"=some (.ref f)/\WG C f/\ZM C (k+1) (.ref f) as d:=
 ZM.own (T:=Tn (S7 c b1 b3) ["words","ends"]) (sE H k hk) (λF _ _=>J6 C k F rfl) H.aZ (by decide) h
end
end Mine.Internal.L1
end
section
open PySem PySem.W PyProof.Rows
open Sem (wp)
namespace Mine.Internal.Uh
theorem Qf      (h:YY C n s b xs)(e1:s=s')(e2:b=b'):YY C n s' b' xs:=by subst e1 e2;exact h
theorem tB(w:Zyh):∀x d,L1.y9 x=some d->∃v,(cx w).mg x=some v/\∀P h,Rep P h d v:=by
 intro x d h
 unfold L1.y9 at h
 split at h
 ·rename_i e
  have e:=beq_iff_eq.mp e
  subst e
  cases h
  exact⟨_,Fi w,λP h=>Zt.mpr ⟨_,rfl⟩⟩
 ·cases h
theorem lC(o:Option Str):L1.optStr o=optStr o:=by cases o<;>rfl
theorem tq(w:Zyh):L1.UT (cx w) 242 241 (mN w) (some (.str (S "Headers") 2395)) (some (.str (S "Headers") 2403)) R9 LS where
 hd:=Sz w
 gs:=tI w
 it:=tK w
 sg:=jD w (tB w)
 len:=⟨RM w,RL w⟩
 NV:=Qf (CV w) (by kernel_rfl!) (by kernel_rfl!)
 set:=⟨46,27,zU w,cB w⟩
 DM:=Qf (D1 w) (by kernel_rfl!) (by kernel_rfl!)
 dict:=⟨57,_,CU w,rfl,cF w,λi P h=>by rw[lC];exact cG i P h⟩
 em:=Qf (KP w) (by kernel_rfl!) (by kernel_rfl!)
 letter:=Qf (D0 w) (by kernel_rfl!) (by kernel_rfl!)
 label:=Qf (CW w) (by kernel_rfl!) (by kernel_rfl!)
 over:=Qf (B6 w) (by kernel_rfl!) (by kernel_rfl!)
 NU:=Qf (B7 w) (by kernel_rfl!) (by kernel_rfl!)
 FX:=Qf (B5 w) (by kernel_rfl!) (by kernel_rfl!)
 aZ:=Qf (wR w) (by kernel_rfl!) (by kernel_rfl!)
theorem OZ{h:Zyp}   (x:h.Ns a m)(y:h.Ns a m'):m=m':=by
 obtain⟨o,es,ep,g1,g2,g3,g4⟩:=x
 obtain⟨o',es',ep',h1,h2,h3,h4⟩:=y
 rw[g1] at h1;cases h1;rw[g2] at h2;cases h2
 funext n;rw[<-g4,<-h4]
theorem has_int  (h:Zqs [] d .int=true):∃i,d=.int i:=by
 cases d with
 |int i=>exact⟨i,rfl⟩
 |_=>cases h
theorem ints_of_all :Zj5 [] xs .int=true->∃is:List Int,xs=is.map .int:=by
 induction xs with
 |nil=>exact λ_=>⟨[],rfl⟩
 |cons x xs ih=>exact λh=>Z0 h λh1 h2=>(has_int h1).elim λi e=>(ih h2).elim λis e2=>⟨i::is,by rw[e,e2];rfl⟩
theorem has_list  (h:Zqs [] d (.list .int)=true):∃is:List Int,d=.list (is.map .int):=by
 cases d with
 |list l=>exact (ints_of_all ((Zqe _).symm.trans (show (Zj5 [] l .int||false)=true from h))).elim λis e=>⟨is,by rw[e]⟩
 |_=>cases h
theorem i6  (h:ZjM [] args [.list .int]=true):∃is:List Int,args=[.list (is.map .int)]:=by
 cases args with
 |nil=>cases h
 | cons d r=>cases r with
   |nil=>exact Z0 h λh1 _=>(has_list h1).elim λis e=>⟨is,by rw[e]⟩
   |cons e r=>exact Z0 h λ_ h2=>nomatch h2
theorem Ay  :∀{is:List Int}{vs:List Zyd},WellAll P h vs (is.map .int)->Zy (λ_=>True) h (is.map .int) vs
 |[],vs,r=>by cases r;exact Zy.nil
 | i::is,vs,r=>by
   cases r with
   | cons r1 r2=>
     cases r1
     exact Zy.cons (Zf.mpr ⟨_,rfl⟩) (Ay r2)
theorem Ox   {is:List Int}  (r:WellAll P h vals [.list (is.map .int)]):XF (λ_=>True) h [.val (.lst (is.map .int))] vals:=by
 cases r with
 | cons r1 r2=>
   cases r2
   cases r1 with
   |list e1 r3=>exact⟨_,[],rfl,ZP.mpr ⟨_,_,_,rfl,trivial,e1,by simpa using Ay r3⟩,rfl⟩
theorem dU :∀b:Bool,WTm.holds [] (.and (.not (.lit (.bool b))) (.lit (.bool true))) x=true->b=false
 |true,h=>absurd h ZyG
 |false,_=>rfl
theorem z5(tY:∀is:List Int,is.length<=63->L1.PZ 242 R9 LS [.val (.lst (is.map .int))]=some (.bool true)):ZxB.Holds:=by
 refine holds_of ?_
 intro w s₀ s₁ mg mb G Y a o pm cd doc dV kV ho hd hcr hdf Rp cg args vals as ta ZzU hrd cz has
 have hG:=Q9 Y
 have te:mg=(cx w).mg:=OZ G.T.g hG.g
 have x9:(ZjM [] args [.list .int]&&(OpenLaw.pre ZxB).holds [] { args:=args })=true:=ta
 obtain⟨is,rfl⟩:=i6 (Yk x9).1
 have hlen:is.length<=63:=by
  have h6:¬(63:Int)<(is.map WData.int).length:=of_decide_eq_false (dU (x:={ args:=[WData.list (is.map .int)] }) _ (Yk x9).2)
  rw[Zyl] at h6
  exact Zws.mp (Zqd.mp h6)
 obtain⟨f,h1,h2,h3⟩:=L1.OD (tq w) (k:=20) (by decide) (tY is hlen)
 have hf:a=f:=by
  have hm:mg "law"=some (.ref a):=Rp
  rw[te,h1] at hm
  cases hm;rfl
 subst hf
 refine h3 callerA s₁ _ _ (λ_=>True) vals ⟨rfl,by decide,by decide⟩ hG (Ox cz) (λ_ n=>absurd trivial n) λv s' ks r=>?_
 have:=Zr.mp r
 subst this
 obtain⟨h',tk,rfl,hk⟩:=ks
 refine⟨.inl ⟨.bool true,.bool true,[],rfl,λ_=>rfl,.bool true,?_,λ_=>⟨Zqj,λ_ m=>by cases m⟩⟩,⟨λb o e=>.inl (hk b o e),λb o e=>⟨o,hk b o e⟩⟩,rfl,AllBare.of_eq cg⟩
 show (Zqs [] (.bool true) .bool&&(WTm.eq .res (.lit (.bool true))).holds [] { args:=[.list (is.map .int)],res:=some (.bool true),after:=[.list (is.map .int)] })=true
 have e1:Zqs [] (.bool true) .bool=true:=by decide
 rw[e1]
 have e2:WTm.holds [] (.lit (.bool (W.same (.bool true) (.bool true)))) { args:=[] }=true:=by rw[W.same];rfl
 exact e2
end Mine.Internal.Uh
end
section
open PySem PySem.W PyProof.Rows
namespace Mine.Internal.L1
structure WO(S:Sg):Prop where
 mt:∀nm x as,S.mt nm (.val (.str x)) as=Xx nm (.val (.str x)) as
 len:∀d,S.cl "len" [.val d]=XO [.val d]
 Tc:∀ds,S.cl "len" [.own ds]=XO [.own ds]
 gv:S.gv "ELLIPSIS_MARKER"=some (.str "...")
def Gives(T:St)(n:Nat)(sc:Zy6)(U:Zx)(ss:List ZyF)(d:PV):Prop:=∃σ',Xm T n sc U ss=some (.ret d,σ')
theorem Gives.next     {st:ZyF}   (h:Xj T n sc U st=some (.Z4,σ'))(h2:Gives T n sc σ' r d):Gives T (n+1) sc U (st::r) d:=by
 obtain⟨σ2,e⟩:=h2
 exact⟨σ2,by
  show ((Xj T n sc U st).bind _)=_
  rw[h];exact e⟩
theorem Gives.ret     {st:ZyF}   (h:Xj T n sc U st=some (.ret d,σ')):Gives T (n+1) sc U (st::r) d:=⟨σ',by
 show ((Xj T n sc U st).bind _)=_
 rw[h];rfl⟩
def QN(x y:Str)(lo hi:Nat):Bool:=match ZH (Zh x) (Zh y) lo hi with
 |none=>false
 |some p=>(ZH (Zh x) (Zh y) (p+y.length) hi).isSome
section
variable {S:Sg}{ow:List Str}{sp:Zx->ZyF->Option (Z9 × Zx)}{wf:Nat}{sc:Zy6}{U σ':Zx}{n:Nat}{p q p2 p3:Pos}
theorem yO     (c:Y0 x=true)(h1:U x=some (.own ds))(h2:ev S n sc U i=some (.val (.int j)))  (h3:seqIndex? j ds.length=some m)(h4:m<ds.length/\Zwb j=true/\ds.length<=Zyk)(h5:ds.eraseIdx m=Ic):
 Xj ⟨S,ow,sp,wf⟩ (n+1) sc U (.Delete [.Subscript (.Name x p) i p2] q)=some (.Z4,U.set x (.own Ic)):=h5 ▸ lj c h1 h2 h3 h4
theorem mC     (c:(p.endLine==q.line&&decide (args.length<29)&&V4 o)=true)(h1:ev S n sc U.flat o=some (.val (.str x)))(h2:Xl S n sc U.flat args=some [.val (.str y)])
 (h3:y.length≠0/\x.length<=Zyk/\(ZyD x (Zy8 x y 0 x.length (x.length+1)) y.length).length<=Zyk) (h4:(ZyE x y).map .str=ds):FV S n sc U (.Call (.Attribute o "split" p) args [] q)=some ds:=by
 show (if (("split":Str)==("split":Str)&&p.endLine==q.line&&decide (args.length<29)&&V4 o)=true then _ else none)=_
 rw[show (("split":Str)==("split":Str))=true from rfl,ZwF,if_pos c,h1,Zy2,h2,Zy2,<-h4]
 exact if_pos h3
def LO(T:St)(n:Nat)(sc:Zy6)(y:Str)(body:List ZyF)(ds:List PV)(U:Zx)(r:Z9 × Zx):Prop:=QK (λU d=>Xm T n sc (U.set y (.val d)) body) ds U=some r
variable {T:St}{y:Str}{body:List ZyF}{d:PV}{ds:List PV}{r:Z9 × Zx}
theorem lq:LO T n sc y body [] U (.Z4,U):=rfl
theorem lu(h1:Xm T n sc (U.set y (.val d)) body=some (.Z4,σ'))(h2:LO T n sc y body ds σ' r):LO T n sc y body (d::ds) U r:=by
 show ((Xm T n sc (U.set y (.val d)) body).bind _)=_
 rw[h1];exact h2
theorem ly  (h1:Xm T n sc (U.set y (.val d)) body=some (.ret v,σ')):LO T n sc y body (d::ds) U (.ret v,σ'):=by
 show ((Xm T n sc (U.set y (.val d)) body).bind _)=_
 rw[h1];rfl
theorem jL  (c:(YW sc y&&(Y0 x&&!Ym sc x))=true)(h1:U x=some (.own ds))(h2:LO ⟨S,ow,sp,wf⟩ (n+3) sc y body ds (U.set x (.val (.lst ds))) r):Xj ⟨S,ow,sp,wf⟩ (n+4) sc U (.For (.Name y p) (.Name x p2) body [] q)=some r:=by
 obtain⟨c1,c2⟩:=(ZyW _ _).mp c
 have e:Y1 S (n+3) sc (U.set x (.val (.lst ds))) true (.Name y p) (.Name x p2)=some ds:=Tj (Tf (UO c2 Td) rfl)
 exact (KQ (T:=⟨S,ow,sp,wf⟩) (HV h1) c1 rfl e).trans h2
end
local macro_rules |`(tactic| walk_at "lf")=>do
 let f:=λ(s:String)=>((s.splitOn " ").toArray.map λx=>(⟨Lean.mkIdent x.toName⟩:Lean.TSyntax `ident))
 let a:=f "p9 a0 pZ s8 sb cLt cLe cGt ko sd sj su agA agB pJ pU pQ r6 r8 r7 rf rn rm flS flI flO flT flL pX pV pW pY pe ph ZyZ Zwo Zy4 Zwx Zyl Zxj ZxU ZwE Zw1 Zy2 Zv4 AV.pv beq_self_eq_true To tS if_true if_false Bool.not_true ZjZ Zxr ZwF Bool.or_true Bool.true_or Zqe ZjL Zqg Zuc Zwm oE oO oP"
 `(tactic| focus (simp (decide:=true) (implicitDefEqProofs:=false) only [$[$a:ident],*, *];(try rfl);done))
local macro_rules |`(tactic| walk_at "ex")=>do
 let f:=λ(s:String)=>((s.splitOn " ").toArray.map λx=>(⟨Lean.mkIdent x.toName⟩:Lean.TSyntax `ident))
 let a:=f "UO P2 Tq DC Kp Ur VP Td rE eQ eJ rF rD l0 jH Vp mG jM m9 mM P5 VA Kb TL d9 qd mA eV lh rS rT dW P4 P6 Tj mT mR mH Tf mU mK er ee rO l5 rC jT mF l6 mX mW m8 ew rR rP eY TM mB"
 let b:=f "jN Ue QX Ub Iv mP lz NY l8 l7 ll dY lg dZ rH rL mY mQ mV mJ Nd rN qg rM eX eZ eU"
 `(tactic| first |with_reducible assumption |(with_reducible (first $[|apply $a]*))<;>walk_at "ex" |((with_reducible apply tG);exact tT) |((with_reducible apply tH);exact tF) |exact Rf.mk rfl $[|(with_reducible apply $b)<;>walk_at "ex"]* |walk_at "lf")
def Ws(k:Nat):List ZyF:=(X2 9).drop k
structure JD(U:Zx)(got:Str)(l:List PV)(a b:Int):Prop where
 ws:U "ws"=some (.own l)
 st:U "startpos"=some (.val (.int a))
 en:U "endpos"=some (.val (.int b))
 got:U "got"=some (.val (.str got))
section
variable {S:Sg}{want got s:Str}{l r:List PV}{a b:Int}{d:PV}{U:Zx}
theorem ah :Xx "startswith" (.val (.str x)) [.val (.str y)]=some (.bool (ZyY x y)):=rfl
theorem ae :Xx "endswith" (.val (.str x)) [.val (.str y)]=some (.bool (ZyJ x y)):=rfl
theorem pn  :Xx "find" (.val (.str x)) [.val (.str y),.val (.int i),.val (.int j)]=some (.int (Xu x y i j)):=rfl
theorem Fy(H:WO S)(hw:Zwt want "..."=true)(hs:(ZyE want "...").map PV.str=l)(h2:(2:Int)<=l.length)(hl:l.length<=1000)(hz:want.length<=Zyk)(Ff:got.length<=Zyk)
 (hp:(ZyD want (Zy8 want "..." 0 want.length (want.length+1)) (Zvt "...")).length<=Zyk)
 (h:∀U,JD U got l 0 got.length->Gives (Tn S ["ws"]) 56 (Zg 9) U (Ws 4) d):Gives (Tn S ["ws"]) 60 (Zg 9) (Zi (λ_=>none) ["want","got"] [.str want,.str got]) (X2 9) d:=by
 generalize hb:X2 9=b
 have h4:Ws 4=b.drop 4:=by rw[<-hb];rfl
 rw[h4] at h
 clear h4
 conv at hb=>lhs;whnf
 subst hb
 have m2:=H.len;have m3:=H.Tc;have m4:=H.gv
 have cn:∀x y:Str,Ys .NotIn (.val (.str x)) (.val (.str y))=some (!Txt.contains y x):=λ_ _=>rfl
 have ge:Ys .GtE (.val (.int l.length)) (.val (.int 2))=some true:=congrArg some (decide_eq_true h2)
 have zl:l.length<=Zyk:=by rw[Zx1];lia
 have hq:(ZxS "...").length≠0/\want.length<=Zyk/\_:=⟨by decide,hz,hp⟩
 refine Gives.next (QX (Vp tF (qd tT m4) (by walk_at "ex") (b:=.val (.str want)) ((cn _ _).trans (by rw[hw];rfl))) VA) ?_
 refine Gives.next (jN tT (mC tT (by walk_at "ex") (VP tT (qd tT m4) Ur) hq hs)) ?_
 refine Gives.next (by walk_at "ex") ?_
 refine Gives.next (σ':=Zi ((Zi (λ_=>none) ["want","got"] [.str want,.str got]).set "ws" (.own l)) ["startpos","endpos"] [.int 0,.int got.length]) (by walk_at "ex") (h _ ⟨?_,?_,?_,?_⟩)<;>walk_at "ex"
theorem mc(n:Nat):seqIndex? 0 (n+1)=some 0:=by
 unfold seqIndex?
 simp
theorem Su(H:WO S)(E:JD U got (.str s::r) a b)(hr:r.length<=1000)(Q4:0<s.length)(Q2:s.length<=Zyk)(Y6:ZyY got s=true)
 (h:∀U,JD U got r s.length b->Gives (Tn S ["ws"]) 54 (Zg 9) U (Ws 6) d):Gives (Tn S ["ws"]) 56 (Zg 9) U (Ws 4) d:=by
 generalize hb:Ws 4=bo
 have h6:Ws 6=bo.drop 2:=by rw[<-hb];rfl
 rw[h6] at h
 clear h6
 conv at hb=>lhs;whnf
 subst hb
 have m1:=H.mt;have m2:=H.len
 have s1:=E.ws;have s2:=E.st;have s3:=E.en;have s4:=E.got
 have it:∀(a:PV) l,ZV (.own (a::l)) (.int 0)=some a:=λ_ _=>rfl
 have nz:(s.length != 0)=true:=by rw[bne_iff_ne];lia
 have ms:=@ah
 refine Gives.next (σ':=U.set "w" (.val (.str s))) (by walk_at "ex") ?_
 refine Gives.next (σ':=((U.set "w" (.val (.str s))).set "startpos" (.val (.int s.length))).set "ws" (.own r)) (Ue (by walk_at "ex") (Ub (Ue (by walk_at "ex") (Ub (by walk_at "ex") (Ub (yO (ds:=.str s::r) tT (j:=0) (m:=0) (by walk_at "ex") (by walk_at "ex") (mc _) ⟨Zjg _,rfl,by rw[Zy4,Zx1];lia⟩ rfl) VA))) VA)) (h _ ⟨?_,?_,?_,?_⟩)<;>walk_at "ex"
theorem Sq(H:WO S)(E:JD U got (.str s::r) a b)(Q4:0<s.length)(Q2:s.length<=Zyk)(Y6:ZyY got s=false):Gives (Tn S ["ws"]) 56 (Zg 9) U (Ws 4) (.bool false):=by
 generalize hb:Ws 4=bo
 conv at hb=>lhs;whnf
 subst hb
 have m1:=H.mt
 have s1:=E.ws;have s4:=E.got
 have it:∀(a:PV) l,ZV (.own (a::l)) (.int 0)=some a:=λ_ _=>rfl
 have nz:(s.length != 0)=true:=by rw[bne_iff_ne];lia
 have ms:=@ah
 refine Gives.next (σ':=U.set "w" (.val (.str s))) (by walk_at "ex") ?_
 exact Gives.ret (by walk_at "ex")
theorem cZ(E:JD U got (.str ""::r) a b)(h:∀U,JD U got (.str ""::r) a b->Gives (Tn S ["ws"]) 54 (Zg 9) U (Ws 6) d):Gives (Tn S ["ws"]) 56 (Zg 9) U (Ws 4) d:=by
 generalize hb:Ws 4=bo
 have h6:Ws 6=bo.drop 2:=by rw[<-hb];rfl
 rw[h6] at h
 clear h6
 conv at hb=>lhs;whnf
 subst hb
 have s1:=E.ws;have s2:=E.st;have s3:=E.en;have s4:=E.got
 have it:∀(a:PV) l,ZV (.own (a::l)) (.int 0)=some a:=λ_ _=>rfl
 refine Gives.next (σ':=U.set "w" (.val (.str ""))) (by walk_at "ex") ?_
 refine Gives.next (σ':=U.set "w" (.val (.str ""))) (by walk_at "ex") (h _ ⟨?_,?_,?_,?_⟩)<;>walk_at "ex"
theorem Sv(H:WO S)(E:JD U got l a got.length)(hi:ZV (.own l) (.int (-1))=some (.str s)){m:Nat}(hd:seqIndex? (-1) l.length=some m)(hd2:m<l.length/\Zwb (-1)=true/\l.length<=Zyk)(oX:l.eraseIdx m=r)
 (Q4:0<s.length) (Q2:s.length<=Zyk) (Y6:ZyJ got s=true) (h:∀U,JD U got r a ((got.length-s.length:Nat):Int)->Gives (Tn S ["ws"]) 52 (Zg 9) U (Ws 8) d):Gives (Tn S ["ws"]) 54 (Zg 9) U (Ws 6) d:=by
 generalize hb:Ws 6=bo
 have h6:Ws 8=bo.drop 2:=by rw[<-hb];rfl
 rw[h6] at h
 clear h6
 conv at hb=>lhs;whnf
 subst hb
 have m1:=H.mt;have m2:=H.len
 have s1:=E.ws;have s2:=E.st;have s3:=E.en;have s4:=E.got
 have nz:(s.length != 0)=true:=by rw[bne_iff_ne];lia
 have ms:=@ae
 have hle:s.length<=got.length:=by
  have:=(Uj.mp Y6).length_le
  rwa [Z7,Z7] at this
 have e1:(got.length:Int)-(s.length:Int)=((got.length-s.length:Nat):Int):=by lia
 refine Gives.next (σ':=U.set "w" (.val (.str s))) (by walk_at "ex") ?_
 refine Gives.next (σ':=((U.set "w" (.val (.str s))).set "endpos" (.val (.int ((got.length-s.length:Nat):Int)))).set "ws" (.own r)) (Ue (by walk_at "ex") (Ub (Ue (by walk_at "ex") (Ub (by walk_at "ex") (Ub (yO tT (j:=-1) (m:=m) (by walk_at "ex") (by walk_at "ex") hd hd2 oX) VA))) VA)) (h _ ⟨?_,?_,?_,?_⟩)<;>walk_at "ex"
theorem xU(H:WO S)(E:JD U got l a b)(hi:ZV (.own l) (.int (-1))=some (.str s))(Q4:0<s.length)(Q2:s.length<=Zyk)(Y6:ZyJ got s=false):Gives (Tn S ["ws"]) 54 (Zg 9) U (Ws 6) (.bool false):=by
 generalize hb:Ws 6=bo
 conv at hb=>lhs;whnf
 subst hb
 have m1:=H.mt
 have s1:=E.ws;have s4:=E.got
 have nz:(s.length != 0)=true:=by rw[bne_iff_ne];lia
 have ms:=@ae
 refine Gives.next (σ':=U.set "w" (.val (.str s))) (by walk_at "ex") ?_
 exact Gives.ret (by walk_at "ex")
theorem c9(E:JD U got l a b)(hi:ZV (.own l) (.int (-1))=some (.str ""))(h:∀U,JD U got l a b->Gives (Tn S ["ws"]) 52 (Zg 9) U (Ws 8) d):Gives (Tn S ["ws"]) 54 (Zg 9) U (Ws 6) d:=by
 generalize hb:Ws 6=bo
 have h6:Ws 8=bo.drop 2:=by rw[<-hb];rfl
 rw[h6] at h
 clear h6
 conv at hb=>lhs;whnf
 subst hb
 have s1:=E.ws;have s2:=E.st;have s3:=E.en;have s4:=E.got
 refine Gives.next (σ':=U.set "w" (.val (.str ""))) (by walk_at "ex") ?_
 refine Gives.next (σ':=U.set "w" (.val (.str ""))) (by walk_at "ex") (h _ ⟨?_,?_,?_,?_⟩)<;>walk_at "ex"
theorem HA(E:JD U got l a b)(X6:b<a):Gives (Tn S ["ws"]) 52 (Zg 9) U (Ws 8) (.bool false):=by
 generalize hb:Ws 8=bo
 conv at hb=>lhs;whnf
 subst hb
 have s2:=E.st;have s3:=E.en
 have h1:decide (b<a)=true:=decide_eq_true X6
 exact Gives.ret (by walk_at "ex")
noncomputable def WC(got:Str)(b:Int):List Str->Int->Bool
 |[],_=>true
 |y::r,a=>if Xu got y a b<0 then false else WC got b r (Xu got y a b+y.length)
def R8:List ZyF:=@ZvR ZyF (λ_=>List ZyF) (Ws 9) [] λs _=>@ZwT (λ_=>List ZyF) s (λ_ _ _ _ _ _ _ _ _ _=>[]) (λ_ _ _ _ _ _ _ _ _ _=>[]) (λ_ _ _ _ _ _ _ _ _ _ _=>[]) (λ_ _=>[]) (λ_ _=>[]) (λ_ _ _=>[]) (λ_ _ _ _ _ _ _=>[]) (λ_ _ _ _=>[]) (λ_ _ _ _ _=>[]) (λ_ _ bd _ _=>bd) (λ_ _ _ _ _=>[]) (λ_ _ _ _=>[]) (λ_ _ _ _=>[]) (λ_ _ _=>[]) (λ_ _ _=>[]) (λ_ _ _=>[]) (λ_ _ _=>[]) (λ_ _ _ _ _=>[]) (λ_ _ _ _ _=>[]) (λ_ _ _=>[]) (λ_ _=>[]) (λ_ _ _ _=>[]) (λ_ _=>[]) (λ_ _=>[]) (λ_ _=>[]) (λ_=>[]) (λ_=>[]) (λ_=>[])
theorem Bl   {r:List Str}:WC got b (y::r) a=if Xu got y a b<0 then false else WC got b r (Xu got y a b+y.length):=rfl
theorem HN(H:WO S):∀(L:List Str){a:Int}{U:Zx},(∀y∈L,y.length<=Zyk)->U "startpos"=some (.val (.int a))->U "endpos"=some (.val (.int b))->U "got"=some (.val (.str got))->
 ∃σ',LO (Tn S ["ws"]) 49 (Zg 9) "w" R8 (L.map .str) U (if WC got b L a then (.Z4,σ') else (.ret (.bool false),σ'))
 |[],_,U,_,_,_,_=>⟨U,lq⟩
 | y::L,a,U,hz,s2,s3,s4=>by
   have m1:=H.mt;have m2:=H.len
   have mf:=@pn
   have zy:=hz y (Zv9 ..)
   have e:Xm (Tn S ["ws"]) 49 (Zg 9) (U.set "w" (.val (.str y))) R8=some (if Xu got y a b<0 then (.ret (.bool false),(U.set "w" (.val (.str y))).set "startpos" (.val (.int (Xu got y a b)))) else (.Z4,((U.set "w" (.val (.str y))).set "startpos" (.val (.int (Xu got y a b)))).set "startpos" (.val (.int (Xu got y a b+y.length))))):=by
    generalize hb:R8=bo
    conv at hb=>lhs;whnf
    subst hb
    generalize hv:Xu got y a b=v at *
    by_cases h:v<0
    ·have d1:decide (v<0)=true:=decide_eq_true h
     rw[if_pos h];walk_at "ex"
    ·have d1:decide (v<0)=false:=decide_eq_false h
     rw[if_neg h];walk_at "ex"
   rw[Bl]
   by_cases h:Xu got y a b<0
   ·rw[if_pos h] at e ⊢
    exact⟨_,ly e⟩
   ·rw[if_neg h] at e ⊢
    obtain⟨σ',hs⟩:=HN H L (a:=Xu got y a b+y.length) (U:=((U.set "w" (.val (.str y))).set "startpos" (.val (.int (Xu got y a b)))).set "startpos" (.val (.int (Xu got y a b+y.length)))) (λz Rm=>hz z (ZwM _ Rm)) Td (by walk_at "ex") (by walk_at "ex")
    exact⟨σ',lu e hs⟩
theorem Fz(H:WO S){L:List Str}(hL:∀y∈L,y.length<=Zyk)(E:JD U got (L.map .str) a b)(X6:¬b<a):Gives (Tn S ["ws"]) 52 (Zg 9) U (Ws 8) (.bool (WC got b L a)):=by
 generalize hb:Ws 8=bo
 have hB:R8=(match bo.drop 1 with |.For _ _ bd _ _::_=>bd |_=>[]):=by rw[<-hb];rfl
 conv at hb=>lhs;whnf
 subst hb
 replace hB:R8=_:=hB
 have s2:=E.st;have s3:=E.en
 have h1:decide (b<a)=false:=decide_eq_false X6
 refine Gives.next (σ':=U) (QX (by walk_at "ex") VA) ?_
 obtain⟨σ',hf⟩:=HN H L (U:=U.set "ws" (.val (.lst (L.map .str)))) (a:=a) (b:=b) (got:=got) hL (by walk_at "ex") (by walk_at "ex") (by have s4:=E.got;walk_at "ex")
 cases hl:WC got b L a with
 | false=>
   rw[hl] at hf
   exact Gives.ret (jL (n:=46) tT E.ws hf)
 | true=>
   rw[hl] at hf
   refine Gives.next (jL (n:=46) tT E.ws hf) ?_
   exact Gives.ret (by walk_at "ex")
end
theorem dT  [Decidable p] (h:decide p=true):p:=of_decide_eq_true h
section
variable {S:Sg}{want got s r z:Str}
theorem zC(H:WO S)(hw:Zwt want "..."=true)(hs:ZyE want "..."=[s,""])(Q4:0<s.length)(hz:want.length<=Zyk)(Ff:got.length<=Zyk)(Q2:s.length<=Zyk)
 (hp:(ZyD want (Zy8 want "..." 0 want.length (want.length+1)) (Zvt "...")).length<=Zyk):
 Gives (Tn S ["ws"]) 60 (Zg 9) (Zi (λ_=>none) ["want","got"] [.str want,.str got]) (X2 9) (.bool (ZyY got s)):=by
 refine Fy H hw (congrArg _ hs) (dT tT) (dT tT) hz Ff hp λU E=>?_
 cases Y6:ZyY got s with
 |false=>exact Sq H E Q4 Q2 Y6
 | true=>
   have hle:s.length<=got.length:=by
    have:=(Kg.mp Y6).length_le
    rwa [Z7,Z7] at this
   have h2:Xu got "" (s.length:Int) (got.length:Int)=s.length:=Ap hle (Zy7 _)
   refine Su H E (dT tT) Q4 Q2 Y6 λU E=>c9 E rfl λU E=>?_
   have:=Fz H (L:=[""]) (λy hy=>by rw[Zx0.mp hy,Zx1];decide) E (by lia)
   rwa [show WC got got.length [""] s.length=true from by rw[WC,h2,if_neg (by lia),WC]] at this
theorem fy(H:WO S)(hw:Zwt want "..."=true)(hs:ZyE want "..."=[("":Str),s])(Q4:0<s.length)(hz:want.length<=Zyk)(Ff:got.length<=Zyk)(Q2:s.length<=Zyk)
 (hp:(ZyD want (Zy8 want "..." 0 want.length (want.length+1)) (Zvt "...")).length<=Zyk):
 Gives (Tn S ["ws"]) 60 (Zg 9) (Zi (λ_=>none) ["want","got"] [.str want,.str got]) (X2 9) (.bool (ZyJ got s)):=by
 refine Fy H hw (congrArg _ hs) (dT tT) (dT tT) hz Ff hp λU E=>cZ E λU E=>?_
 cases Y6:ZyJ got s with
 |false=>exact xU H E rfl Q4 Q2 Y6
 | true=>
   have h2:Xu got "" 0 ((got.length-s.length:Nat):Int)=0:=Ap (i:=0) (ZyS _) (ZvP _ _)
   refine Sv H E rfl (m:=1) rfl ⟨dT tT,by decide,dT tT⟩ rfl Q4 Q2 Y6 λU E=>?_
   have:=Fz H (L:=[""]) (λy hy=>by rw[Zx0.mp hy,Zx1];decide) E (by lia)
   rwa [show WC got ((got.length-s.length:Nat):Int) [""] 0=true from by rw[WC,h2,if_neg (by decide),WC]] at this
theorem gO(H:WO S)(hw:Zwt want "..."=true)(hs:ZyE want "..."=[s,r])(Q4:0<s.length)(Rt:0<r.length)(yn:r.length<=Zyk)(hz:want.length<=Zyk)(Ff:got.length<=Zyk)(Q2:s.length<=Zyk)
 (hp:(ZyD want (Zy8 want "..." 0 want.length (want.length+1)) (Zvt "...")).length<=Zyk):
 Gives (Tn S ["ws"]) 60 (Zg 9) (Zi (λ_=>none) ["want","got"] [.str want,.str got]) (X2 9) (.bool (ZyY got s&&(ZyJ got r&&decide (s.length+r.length<=got.length)))):=by
 refine Fy H hw (congrArg _ hs) (dT tT) (dT tT) hz Ff hp λU E=>?_
 cases Y6:ZyY got s with
 |false=>exact Sq H E Q4 Q2 Y6
 | true=>
   refine Su H E (dT tT) Q4 Q2 Y6 λU E=>?_
   cases BE:ZyJ got r with
   |false=>exact xU H E rfl Rt yn BE
   | true=>
     have hle:r.length<=got.length:=by
      have:=(Uj.mp BE).length_le
      rwa [Z7,Z7] at this
     refine Sv H E rfl (m:=0) rfl ⟨dT tT,by decide,dT tT⟩ rfl Rt yn BE λU E=>?_
     by_cases hc:s.length+r.length<=got.length
     ·rw[decide_eq_true hc]
      exact Fz H (L:=[]) (λy hy=>by cases hy) E (by lia)
     ·rw[decide_eq_false hc]
      exact HA E (by lia)
theorem u9(H:WO S)(hw:Zwt want "..."=true)(hs:ZyE want "..."=[s,r,r,z])(Q4:0<s.length)(Rt:0<r.length)(pG:0<z.length)(hz:want.length<=Zyk)(Ff:got.length<=Zyk)(Q2:s.length<=Zyk)(yn:r.length<=Zyk)(pF:z.length<=Zyk)
 (hp:(ZyD want (Zy8 want "..." 0 want.length (want.length+1)) (Zvt "...")).length<=Zyk) (BE:ZyJ got z=true):
 Gives (Tn S ["ws"]) 60 (Zg 9) (Zi (λ_=>none) ["want","got"] [.str want,.str got]) (X2 9) (.bool (ZyY got s&&(decide (s.length+z.length<=got.length)&&QN got r s.length (got.length-z.length)))):=by
 refine Fy H hw (congrArg _ hs) (dT tT) (dT tT) hz Ff hp λU E=>?_
 cases Y6:ZyY got s with
 |false=>exact Sq H E Q4 Q2 Y6
 | true=>
   have hle:z.length<=got.length:=by
    have:=(Uj.mp BE).length_le
    rwa [Z7,Z7] at this
   refine Su H E (dT tT) Q4 Q2 Y6 λU E=>Sv H E rfl (m:=2) rfl ⟨dT tT,by decide,dT tT⟩ rfl pG pF BE λU E=>?_
   by_cases hc:s.length+z.length<=got.length
   ·rw[decide_eq_true hc]
    have:=Fz H (L:=[r,r]) (λy hy=>by simp at hy;rw[hy];exact yn) E (by lia)
    have e:WC got ((got.length-z.length:Nat):Int) [r,r] s.length=QN got r s.length (got.length-z.length):=by
     have f1:=MJ (x:=got) (y:=r) (i:=s.length) (j:=got.length-z.length) (by lia) (by lia) Rt
     unfold QN
     rw[Bl,f1]
     cases hf:ZH (Zh got) (Zh r) s.length (got.length-z.length) with
     |none=>rfl
     | some p=>
       obtain⟨a1,a2,_⟩:=Uu hf
       rw[Z7] at a2
       have f3:=MJ (x:=got) (y:=r) (i:=p+r.length) (j:=got.length-z.length) a2 (by lia) Rt
       show (if (p:Int)<0 then false else WC got _ [r] ((p:Int)+r.length))=(ZH (Zh got) (Zh r) (p+r.length) (got.length-z.length)).isSome
       rw[if_neg (by lia),Bl,show (p:Int)+(r.length:Int)=((p+r.length:Nat):Int) from by lia,f3]
       cases hg:ZH (Zh got) (Zh r) (p+r.length) (got.length-z.length) with
       |none=>rfl
       | some u=>
         show (if (u:Int)<0 then false else true)=true
         rw[if_neg (by lia)]
    rw[e] at this
    exact this
   ·rw[decide_eq_false hc]
    exact HA E (by lia)
end
theorem FH:Zh "..."=[46,46,46]:=rfl
theorem Af     (hy:Zh y=c::d)(p:Str)(ps:List Str)(hx:Zh x=X4 (c::d) ((p::ps).map Zh))(hc:∀z∈p::ps,c∉Zh z)(k:Nat)(Q8:ps.length<=k):
 Zy8 x y 0 x.length k=cutsOf (c::d).length 0 ((p::ps).map Zh):=by
 have LV:y.length=(c::d).length:=by rw[<-Z7,hy]
 rw[occ_eq _ _ _ _ _ (by rw[LV];simp),hy,hx]
 have:=IP (c:=c) (d:=d) (ps.map Zh) (Zh p) [] k (λz hz=>by
  rw[<-ZyZ] at hz
  obtain⟨w,hw,rfl⟩:=Zye.mp hz
  exact hc w hw) (by simpa using Q8)
 rw[Zw1] at this
 rw[<-Z7,hx]
 exact this
theorem MF(w:Nat):∀(ps:List (List Nat))(p:List Nat)(lo:Nat),(cutsOf w lo (p::ps)).length=ps.length
 |[],p,lo=>rfl
 |q::r,p,lo=>by simp [cutsOf,MF w r q]
theorem Al(d:List Nat)(hd:0<d.length):∀(l:List (List Nat))(a:List Nat),l.length<=(X4 d (a::l)).length
 |[],a=>by simp
 | b::l,a=>by
   have:=Al d hd l b
   simp only[X4,Zyn,Zy4] at this ⊢
   lia
structure fR(want:Str)(ps:List Str):Prop where
 cont:Zwt want "..."=true
 split:ZyE want "..."=ps
 parts:(ZyD want (Zy8 want "..." 0 want.length (want.length+1)) (Zvt "...")).length<=Zyk
theorem Cy  (p q:Str)(ps:List Str)(hx:Zh want=X4 [46,46,46] ((p::q::ps).map Zh))(hc:∀z∈p::q::ps,46∉Zh z)(hl:ps.length<1000):fR want (p::q::ps) where
 cont:=by
  unfold Zwt
  by_cases h:ps.length+1<=1
  ·rw[Af FH p (q::ps) hx hc 1 (by simpa using h)];rfl
  ·have LV:(ZxS "...").length=3:=rfl
   rw[occ_eq _ _ _ _ _ (by decide),FH]
   have hf:=F9 (c:=46) (d:=[46,46]) (p:=Zh p) (r:=X4 [46,46,46] ((q::ps).map Zh)) (pre:=[]) (hc p (by simp))
   have e:Zh want=[]++(Zh p++[46,46,46]++X4 [46,46,46] ((q::ps).map Zh)):=by rw[hx];rfl
   rw[<-e] at hf
   rw[<-Z7,show occs (Zh want) [46,46,46] (Zh want).length 1 0=_ from V3 hf];rfl
 split:=S0 FH (MY (by decide)) p q ps hx hc
 parts:=by
  have hlen:ps.length+1<=want.length:=by
   rw[<-Z7,hx]
   have:=Al [46,46,46] (by decide) ((q::ps).map Zh) (Zh p)
   simpa using this
  rw[KA,Af FH p (q::ps) hx hc _ (by simp;lia),ZyZ,MF]
  simp only[Zyl,Zy4]
  rw[Zx1];lia
theorem Wk      (hl:as.length=xs.length)(h:Gives (Tn S ow) 60 (Zg i) (Zi (λ_=>none) xs (as.map AV.pv)) (X2 i) d):run S i ow xs as=some d:=by
 obtain⟨σ',e⟩:=h
 exact (if_pos hl).trans (congrArg (λo:Option (Z9 × Zx)=>o.bind λp=>AS p.1) e)
structure W0(n:Nat)(x:Str):Prop where
 lo:∀ch∈Zh x,97<=ch/\ch<=122
 len:x.length<=n
theorem W0.no   (h:W0 n x):46∉Zh x:=λm=>by have:=(h.lo _ m).1;lia
theorem len_app(x y:Str):(x++y).length=x.length+y.length:=by rw[<-Z7,U9,Zyn,Z7,Z7]
theorem W0.fits   (h:W0 n x)(hn:n<=1000):x.length<=Zyk:=by have:=h.len;rw[Zx1];lia
theorem NK:(ZxS "...").length=3:=rfl
theorem xl:46∉Zh "":=by decide
section
variable {S:Sg}(H:WO S){s r z got:Str}(hs:W0 100 s)(hr:W0 100 r)(hz:W0 100 z)(hg:W0 100 got)
include H hs hg
theorem emS(hl:0<s.length):run S 9 ["ws"] ["want","got"] [.val (.str (s++"...")),.val (.str got)]=some (.bool (ZyY got s)):=by
 have W:=Cy (want:=s++"...") s "" [] (by rw[U9];simp [X4,FH];rfl) (λx hx=>by simp at hx;rcases hx with rfl |rfl;exact hs.no;exact xl) (by decide)
 have:=hs.len
 exact Wk rfl (zC H W.cont W.split hl (by rw[len_app,NK,Zx1];lia) (hg.fits (by decide)) (hs.fits (by decide)) W.parts)
theorem emE(hl:0<s.length):run S 9 ["ws"] ["want","got"] [.val (.str ("..."++s)),.val (.str got)]=some (.bool (ZyJ got s)):=by
 have W:=Cy (want:="..."++s) "" s [] (by rw[U9];simp [X4,FH];rfl) (λx hx=>by simp at hx;rcases hx with rfl |rfl;exact xl;exact hs.no) (by decide)
 have:=hs.len
 exact Wk rfl (fy H W.cont W.split hl (by rw[len_app,NK,Zx1];lia) (hg.fits (by decide)) (hs.fits (by decide)) W.parts)
include hr
theorem emT(hl:0<s.length)(BM:0<r.length):run S 9 ["ws"] ["want","got"] [.val (.str (s++"..."++r)),.val (.str got)]=some (.bool (ZyY got s&&(ZyJ got r&&decide (s.length+r.length<=got.length)))):=by
 have W:=Cy (want:=s++"..."++r) s r [] (by rw[U9,U9];simp [X4,FH]) (λx hx=>by simp at hx;rcases hx with rfl |rfl;exact hs.no;exact hr.no) (by decide)
 have:=hs.len;have:=hr.len
 exact Wk rfl (gO H W.cont W.split hl BM (hr.fits (by decide)) (by rw[len_app,len_app,NK,Zx1];lia) (hg.fits (by decide)) (hs.fits (by decide)) W.parts)
include hz
theorem emF(hl:0<s.length)(BM:0<r.length)(oa:0<z.length)(BE:ZyJ got z=true):run S 9 ["ws"] ["want","got"] [.val (.str (ZwS "..." [s,r,r,z])),.val (.str got)]=
 some (.bool (ZyY got s&&(decide (s.length+z.length<=got.length)&&QN got r s.length (got.length-z.length)))):=by
 have e:Zh (ZwS "..." [s,r,r,z])=X4 [46,46,46] ([s,r,r,z].map Zh):=by
  show (s.cps++(ZxS "...").cps++r.cps++(ZxS "...").cps++r.cps++(ZxS "...").cps++z.cps).toList=_
  have d2:(ZxS "...").cps=#[46,46,46]:=rfl
  rw[d2]
  simp [X4,Zh]
 have W:=Cy (want:=ZwS "..." [s,r,r,z]) s r [r,z] e (λx hx=>by simp at hx;rcases hx with rfl |rfl |rfl;exact hs.no;exact hr.no;exact hz.no) (by simp)
 have:=hs.len;have:=hr.len;have:=hz.len
 have hle:(ZwS "..." [s,r,r,z]).length<=Zyk:=by
  rw[<-Z7,e]
  simp only[X4,ZyZ,Zwo,Zyn,Z7,Zy4,Zwx]
  rw[Zx1];lia
 exact Wk rfl (u9 H W.cont W.split hl BM oa hle (hg.fits (by decide)) (hs.fits (by decide)) (hr.fits (by decide)) (hz.fits (by decide)) W.parts BE)
end
theorem sr  (h:Zvo x<=64):YC .Mult (.val (.int x)) (.val (.int y))=some (.int (x*y)):=if_pos h
theorem k6  (h:y≠0):YC .Mod (.val (.int x)) (.val (.int y))=some (.int (x.fmod y)):=if_pos h
theorem se  (h:y≠0)(h2:Zw7 x y=false):YC .FloorDiv (.val (.int x)) (.val (.int y))=some (.int (x.fdiv y)):=if_pos ⟨h,h2⟩
theorem dv  (m:Nat)(h:y=(m:Int))(hm:m≠0)(h2:∀x,Zw7 x y=false)(n:Nat):YC .FloorDiv (.val (.int n)) (.val (.int y))=some (.int ((n/m:Nat):Int)):=by
 subst h
 rw[se (by lia) (h2 _),Int.fdiv_eq_ediv_of_nonneg _ (by lia)];rfl
theorem md  (m:Nat)(h:y=(m:Int))(hm:m≠0)(n:Nat):YC .Mod (.val (.int n)) (.val (.int y))=some (.int ((n%m:Nat):Int)):=by
 subst h
 rw[k6 (by lia),Zup _ (by lia)];rfl
theorem CP  (h:x.length+y.length<=Zyk):YC .Add (.val (.str x)) (.val (.str y))=some (.str (x++y)):=by
 show Ua none (Ua (if x.length+y.length<=Zyk then some (PV.str (x++y)) else none) _)=_
 rw[if_pos h];rfl
theorem wI  (h:-1000000000<=i)(h2:i<=1000000000):ZJ (-(2 ^ 63)) (2 ^ 63) i=true:=by
 unfold ZJ;rw[ZyW,decide_eq_true_eq,decide_eq_true_eq];lia
theorem dJ  (h:0<=i)(h2:i<=1000000000):ZJ 0 (2 ^ 63) i=true:=by
 unfold ZJ;rw[ZyW,decide_eq_true_eq,decide_eq_true_eq];lia
theorem VY  (h:-1000000000<=i)(h2:i<=1000000000):ZJ (-(2 ^ 62)) (2 ^ 62) i=true:=by
 unfold ZJ;rw[ZyW,decide_eq_true_eq,decide_eq_true_eq];lia
theorem Le   (h:listOf a=some ds):Nx a=none/\YS a=none:=by
 cases a with
 | val d=>cases d with
   |lst _=>exact⟨rfl,rfl⟩
   |_=>exact nS h
 |own _=>exact⟨rfl,rfl⟩
 |tab _ _=>exact nS h
theorem aY    (ha:listOf a=some ds):ZV a (.int j)=if ZJ 0 (2 ^ 63) j then ds[j.toNat]? else if ZJ (-(2 ^ 63)) 0 j&&decide (-(ds.length:Int)<=j) then ds[(j+ds.length).toNat]? else none:=by
 obtain⟨h1,h2⟩:=Le ha
 unfold ZV
 rw[h1,h2,ha];rfl
theorem tf  :ZV (.val (.str x)) (.int j)=if ZJ (-(2 ^ 63)) (2 ^ 63) j then (seqIndex? j x.length).bind λm=>x.cps[m]?.map λc=>.str ⟨#[c]⟩ else none:=rfl
theorem Nn    {n:Nat}(ha:listOf a=some ds)(hj:j=(n:Int))(hn:n<=1000000000):ZV a (.int j)=ds[n]?:=by
 rw[aY ha,hj]
 exact (if_pos (dJ (by lia) (by lia))).trans (by rw[Zjx])
theorem Dn  {P:Nat->Zx->Prop} :∀{U:Zx}(i:Nat),P i U->(∀j U d,l[j]?=some d->P (i+j) U->∃σ',f U d=some (.Z4,σ')/\P (i+j+1) σ')->∃σ',QK f l U=some (.Z4,σ')/\P (i+l.length) σ':=by
 induction l with
 |nil=>exact λ{U} i h _=>⟨U,rfl,h⟩
 | cons d l ih=>
   intro U i h hs
   obtain⟨σ1,e1,h1⟩:=hs 0 U d rfl h
   obtain⟨σ2,e2,h2⟩:=ih (i+1) h1 λj U d hj hp=>by
    have e:i+1+j=i+(j+1):=by rw[Zwi,Zwe 1 j]
    rw[e] at hp ⊢
    exact hs (j+1) U d hj hp
   refine⟨σ2,?_,?_⟩
   ·show ((f U d).bind _)=_
    rw[e1];exact e2
   ·rw[Zy4,Zwe l.length 1,<-Zwi];exact h2
def Sj(fV fA:PV->Option (Option PV))(ds:List PV):Option AV:=
 match XK fV ds with
 |some ys=>some (.val (.lst ys))
 |none=>(XK fA ds).bind λys=>if ys.all Yv then some (.val (.lst ys)) else none
theorem HF          (h1:Vv scope Zq=true)(h2:Vy scope sc U=true)(h3:Xe iter=true)(h4:Y1 S n sc U false Zq iter=some ds)(h5:ds.length<=Zyk):
 ev S (n+1) sc U (.ListComp elt [⟨Zq,iter,ifs,0⟩] scope p)=Sj (λd=>YH S n (Wm scope sc) (U1 scope U) Zq ifs elt d) (λd=>YH S n (Wm scope sc) (VT scope U) Zq ifs elt d) ds:=by
 refine (if_pos (by rw[h1,h2,h3];rfl)).trans ?_
 rw[h4,Zy2]
 exact (if_pos h5).trans rfl
theorem VG         (h1:Y0 y=true)(h2:Ym sc y=false)(h3:U y=some a)(h4:Qj false a=some ds):Y1 S (n+3) sc U false (.Name x p) (.Name y q)=some ds:=by
 exact Tj (Tf (UO (by rw[h1,h2];rfl) h3) h4)
theorem u6          (h1:YW sc x=true)(h2:Xe iter=true)(h3:isName iter=false)(h4:Y1 T.sg n sc U true (.Name x p1) iter=some ds):
 Xj T (n+1) sc U (.For (.Name x p1) iter body [] p2)=QK (λU d=>Xm T n sc (U.set x (.val d)) body) ds U:=by
 exact KQ (uh h3) h1 h2 h4
def Runs(T:St)(n:Nat)(sc:Zy6)(U:Zx)(ss:List ZyF)(Q:Zx->Prop):Prop:=∃σ',Xm T n sc U ss=some (.Z4,σ')/\Q σ'
theorem Runs.next     {st:ZyF}   (h:Xj T n sc U st=some (.Z4,σ'))(h2:Runs T n sc σ' r Q):Runs T (n+1) sc U (st::r) Q:=by
 obtain⟨σ2,e,hq⟩:=h2
 exact⟨σ2,Ub h e,hq⟩
theorem Runs.nil      (h:Q U):Runs T (n+1) sc U [] Q:=⟨U,rfl,h⟩
theorem Runs.imp       (h:Runs T n sc U ss Q)(hr:∀U,Q U->R U):Runs T n sc U ss R:=by
 obtain⟨σ',e,q⟩:=h;exact⟨σ',e,hr _ q⟩
theorem Dl          {P:Nat->Zx->Prop}(h1:YW sc x=true)(h2:Xe iter=true)(h3:isName iter=false)(h4:Y1 T.sg n sc U true (.Name x p1) iter=some ds)
 (h5:P 0 U) (h6:∀j d U,ds[j]?=some d->P j U->Runs T n sc (U.set x (.val d)) body (P (j+1))):∃σ',Xj T (n+1) sc U (.For (.Name x p1) iter body [] p2)=some (.Z4,σ')/\P ds.length σ':=by
 rw[u6 h1 h2 h3 h4]
 have:=Dn (f:=λU d=>Xm T n sc (U.set x (.val d)) body) (P:=P) (l:=ds) 0 h5 λj U d hj hp=>by
  rw[Zxb] at hp ⊢
  exact h6 j d U hj hp
 rwa [Zxb] at this
theorem Gives.for          {d0:PV}  {P:Nat->Zx->Prop}(h1:YW sc x=true)(h2:Xe iter=true)(h3:isName iter=false)(h4:Y1 T.sg n sc U true (.Name x p1) iter=some ds)
 (h5:P 0 U) (h6:∀j d U,ds[j]?=some d->P j U->Runs T n sc (U.set x (.val d)) body (P (j+1))) (h7:∀σ',P ds.length σ'->Gives T (n+1) sc σ' r d0):Gives T (n+2) sc U (.For (.Name x p1) iter body [] p2::r) d0:=by
 obtain⟨σ',e,hp⟩:=Dl (P:=P) h1 h2 h3 h4 h5 h6
 exact Gives.next e (h7 _ hp)
theorem Runs.for          {Q:Zx->Prop}  {P:Nat->Zx->Prop}(h1:YW sc x=true)(h2:Xe iter=true)(h3:isName iter=false)(h4:Y1 T.sg n sc U true (.Name x p1) iter=some ds)
 (h5:P 0 U) (h6:∀j d U,ds[j]?=some d->P j U->Runs T n sc (U.set x (.val d)) body (P (j+1))) (h7:∀σ',P ds.length σ'->Runs T (n+1) sc σ' r Q):Runs T (n+2) sc U (.For (.Name x p1) iter body [] p2::r) Q:=by
 obtain⟨σ',e,hp⟩:=Dl (P:=P) h1 h2 h3 h4 h5 h6
 exact Runs.next e (h7 _ hp)
theorem Yp   (xs:List Str)(h:(scope.names.all λx=>x.2 != .free||(xs.contains x.1&&(sc.names.lookup x.1==some .cell||sc.names.lookup x.1==some .free)))=true)(h2:xs.all (λx=>(U x).isSome)=true):Vy scope sc U=true:=by
 rw[Vy,ZyV] at *
 intro x hx
 have:=h x hx
 simp only[Zwy,ZyW] at this ⊢
 rcases this with h |⟨h,h3⟩
 ·exact .inl h
 ·exact .inr ⟨h2 _ (ZwQ.mp h),h3⟩
theorem QH  {j:Nat}  (h:(ZQ a b)[j]?=some d):d=.int (a+j)/\(j:Int)<b-a:=by
 unfold ZQ at h
 rw[ZyQ] at h
 obtain⟨i,h1,h2⟩:=mS h
 obtain⟨h3,h4⟩:=ZxF.mp h1
 simp at h3 h4
 subst h4
 exact⟨h2.symm,by omega⟩
theorem Ep(a b:Int):(ZQ a b).length=(b-a).toNat:=by simp [ZQ]
theorem yx   :XK f (d::r)=(f d).bind λo=>o.elim (XK f r) λy=>(XK f r).map (y::·):=rfl
theorem Ql    :∀{l:List β},(∀x∈l,fn (f x)=some (q x))->XK fn (l.map f)=some (l.filterMap q)
 |[],_=>rfl
 | x::l,h=>by
   rw[ZyZ,yx,h x (.head _),Zy2,Ql λy hy=>h y (.tail _ hy)]
   cases hq:q x with
   |none=>rw[Zwk hq];rfl
   |some y=>rw[Zwj hq];rfl
theorem FZ    :∀{l:List β}{ys:List PV},(∀x∈l,fn (f x)=none∨fn (f x)=some (q x))->XK fn (l.map f)=some ys->ys=l.filterMap q
 |[],ys,_,h=>(Zyb h).symm
 | x::l,ys,hf,h=>Zj h λo e h=>by
   have ih:=λys=>FZ (fn:=fn) (f:=f) (q:=q) (l:=l) (ys:=ys) λy hy=>hf y (.tail _ hy)
   cases Zyb (((hf x (.head _)).resolve_left λn=>nS (n.symm.trans e)).symm.trans e)
   cases hq:q x with
   |none=>rw[hq] at h;rw[Zwk hq];exact ih _ h
   |some y=>rw[hq] at h;rw[Zwj hq];exact YQ h λzs h1 e=>e.trans (congrArg _ (ih _ h1))
section
variable {S:Sg}{n:Nat}{sc:Zy6}{U:Zx}{elt Zq iter:Zyc}{ifs:List Zyc}{scope:Zy6}{p:Pos}{β:Type}{f:β->PV}{l:List β}
theorem N6(q:β->Option PV)(h1:Vv scope Zq=true)(h2:Vy scope sc U=true)(h3:Xe iter=true)(h4:Y1 S n sc U false Zq iter=some (l.map f))(h5:l.length<=Zyk)
 (h6:∀x∈l,YH S n (Wm scope sc) (U1 scope U) Zq ifs elt (f x)=some (q x)):ev S (n+1) sc U (.ListComp elt [⟨Zq,iter,ifs,0⟩] scope p)=some (.val (.lst (l.filterMap q))):=by
 rw[HF h1 h2 h3 h4 (by rw[Zyl];exact h5),Sj,Ql (q:=q) h6]
theorem DI(k:β->PV)(h1:Vv scope Zq=true)(h2:Vy scope sc U=true)(h3:Xe iter=true)(h4:Y1 S n sc U false Zq iter=some (l.map f))(h5:l.length<=Zyk)
 (h6:∀x∈l,YH S n (Wm scope sc) (U1 scope U) Zq ifs elt (f x)=some (some (k x))):ev S (n+1) sc U (.ListComp elt [⟨Zq,iter,ifs,0⟩] scope p)=some (.val (.lst (l.map k))):=by
 rw[N6 (λx=>some (k x)) h1 h2 h3 h4 h5 h6]
 congr 3
 exact Zqf ▸ rfl
theorem PC(q:β->Option PV)(h1:Vv scope Zq=true)(h2:Vy scope sc U=true)(h3:Xe iter=true)(h4:Y1 S n sc U false Zq iter=some (l.map f))(h5:l.length<=Zyk)
 (h6:∀x∈l,YH S n (Wm scope sc) (VT scope U) Zq ifs elt (f x)=some (q x)) (h7:∀x∈l,YH S n (Wm scope sc) (U1 scope U) Zq ifs elt (f x)=none∨YH S n (Wm scope sc) (U1 scope U) Zq ifs elt (f x)=some (q x))
 (h8:(l.filterMap q).all Yv=true):ev S (n+1) sc U (.ListComp elt [⟨Zq,iter,ifs,0⟩] scope p)=some (.val (.lst (l.filterMap q))):=by
 rw[HF h1 h2 h3 h4 (by rw[Zyl];exact h5),Sj]
 cases e:XK (λd=>YH S n (Wm scope sc) (U1 scope U) Zq ifs elt d) (l.map f) with
 |some ys=>rw[FZ h7 e]
 | none=>
   show (XK _ (l.map f)).bind _=_
   rw[Ql (q:=q) h6];exact if_pos h8
end
noncomputable def cQ(s:ZyF):List ZyF:=@ZwT (λ_=>List ZyF) s (λ_ _ _ _ _ _ _ _ _ _=>[]) (λ_ _ _ _ _ _ _ _ _ _=>[]) (λ_ _ _ _ _ _ _ _ _ _ _=>[]) (λ_ _=>[]) (λ_ _=>[]) (λ_ _ _=>[]) (λ_ _ _ _ _ _ _=>[]) (λ_ _ _ _=>[]) (λ_ _ _ _ _=>[]) (λ_ _ b _ _=>b) (λ_ _ _ _ _=>[]) (λ_ b _ _=>b) (λ_ b _ _=>b) (λ_ _ _=>[]) (λ_ _ _=>[]) (λ_ _ _=>[]) (λ_ _ _=>[]) (λ_ _ _ _ _=>[]) (λ_ _ _ _ _=>[]) (λ_ _ _=>[]) (λ_ _=>[]) (λ_ _ _ _=>[]) (λ_ _=>[]) (λ_ _=>[]) (λ_ _=>[]) (λ_=>[]) (λ_=>[]) (λ_=>[])
def bodyOf(s:Option ZyF):List ZyF:=@Zqw ZyF (λ_=>List ZyF) s [] cQ
def Us(L:List Int)(t:Str)(k:Nat)(w:Str):Option Int:=if decide (w.length<=k+1)&&decide (Yg (some ((k+1-w.length:Nat):Int)) (some ((k+1:Nat):Int)) t=w) then some (L.getD (k+1-w.length) 0) else none
noncomputable def XS(ws:List Str)(t:Str):Nat->List Int
 |0=>[1]
 |k+1=>XS ws t k++[(ws.filterMap (Us (XS ws t k) t k)).sum]
theorem Gu(ws:List Str)(t:Str):∀k,(XS ws t k).length=k+1
 |0=>rfl
 |k+1=>Zyn.trans (congrArg (·+1) (Gu ws t k))
structure PS(S:Sg):Prop extends WO S where
 sum:∀d,S.cl "sum" [.val d]=I7 [.val d]
def sS(ws:List Str)(t:Str)(k:Nat)(U:Zx):Prop:=U "words"=some (.val (.lst (ws.map .str)))/\U "text"=some (.val (.str t))/\U "ways"=some (.own ((XS ws t k).map .int))
theorem Mg:∀l:List Int,(l.map PV.int).mapM G0=some l
 |[]=>rfl
 |i::l=>by rw[ZyZ,ZwH,Mg l];rfl
theorem sum_ints{l:List Int}:I7 [.val (.lst (l.map .int))]=some (.int l.sum):=by
 show (((l.map PV.int).mapM G0).map _)=_
 rw[Mg];rfl
theorem Gw:∀l:List Str,(l.map PV.str).all Yv=true
 |[]=>rfl
 |_::l=>Gw l
theorem Ar:∀l:List Int,(l.map PV.int).all Yv=true
 |[]=>rfl
 |_::l=>Ar l
theorem MK  (f:β->Option Int)(l:List β):l.filterMap (λw=>(f w).map PV.int)=(l.filterMap f).map .int:=by
 induction l with
 |nil=>rfl
 | cons w l ih=>
   rw[Zv0,Zv0,ih]
   cases f w<;>rfl
def gW:List ZyF:=bodyOf (X2 19)[1]?
section
variable {S:Sg}{ws:List Str}{t:Str}{L:List Int}{k:Nat}{U:Zx}{Q:Zx->Prop}
theorem wb(hL:L.length=k+1)  (h:0<m)(hk:k<=1000):ZV (.val (.lst (L.map .int))) (.int ((k+1-m:Nat):Int))=some (.int (L.getD (k+1-m) 0)):=by
 have hl:k+1-m<L.length:=hL.symm ▸ Zj6 (Zvc k) h
 rw[Nn (n:=k+1-m) rfl rfl (Zyi (ZvP _ _) (Zyi (ZxX hk) (by decide))),ZyQ,gD,gE hl];rfl
theorem Ei(H:PS S)(hw:∀w∈ws,0<w.length/\w.length<=1000)(hl:ws.length<=1000)(ht:t.length<=1000)(hk:k<=1000)(hL:L.length=k+1)(s1:U "words"=some (.val (.lst (ws.map .str))))(s2:U "text"=some (.val (.str t)))(s3:U "ways"=some (.own (L.map .int)))(s4:U "k"=some (.val (.int (k+1:Nat))))
 (q:Q (U.set "ways" (.own (L.map .int++[.int (ws.filterMap (Us L t k)).sum])))):Runs (Tn S ["ways"]) 57 (Zg 19) U gW Q:=by
 generalize hb:gW=b
 conv at hb=>lhs;whnf
 subst hb
 have m1:=H.mt;have m2:=H.len;have m3:=H.sum
 have z1:t.length<=Zyk:=Zyi ht (by decide)
 refine Runs.next (σ':=U.set "ways" (.own (L.map .int++[.int (ws.filterMap (Us L t k)).sum]))) ?_ (Runs.nil q)
 clear q
 refine jT ⟨rfl⟩ (ZjU true) (by walk_at "ex") (DC (ZjU true) (VP (ZjU true) (a:=.val (.lst ((ws.filterMap (Us L t k)).map .int))) ?_ Ur) (by rw[m3];exact sum_ints)) (by rw[Zyl,hL];exact Zyi (ZxX hk) (by decide))
 have t1:U.flat "words"=some (.own (ws.map .str)):=GP s1 (if_pos (Gw _))
 have t2:U.flat "text"=some (.val (.str t)):=GP s2 rfl
 have t3:U.flat "ways"=some (.own (L.map .int)):=GP s3 rfl
 have t4:U.flat "k"=some (.val (.int (k+1:Nat))):=GP s4 rfl
 generalize U.flat=τ at *
 clear s1 s2 s3 s4
 have c1:∀{w:Str},¬w.length<=k+1->Us L t k w=none/\decide ((w.length:Int)<=((k+1:Nat):Int))=false:=λh=>⟨by rw[Us,decide_eq_false h];rfl,decide_eq_false λe=>h (Zws.mp e)⟩
 have c2:∀{w:Str},w.length<=k+1->decide ((w.length:Int)<=((k+1:Nat):Int))=true/\((k+1:Nat):Int)-(w.length:Int)=((k+1-w.length:Nat):Int):=λh=>⟨decide_eq_true (Zws.mpr h),(Zvw h).symm⟩
 have c3:∀{w:Str},w.length<=k+1->decide (Yg (some ((k+1-w.length:Nat):Int)) (some ((k+1:Nat):Int)) t=w)=false->Us L t k w=none:=λh e=>by rw[Us,decide_eq_true h,e];rfl
 rw[PC (f:=PV.str) (l:=ws) (λw=>(Us L t k w).map .int) (by decide) (Yp ["k","text","ways"] (by decide) (by simp only[Zxj,ZxU,t2,t3,t4,Zxu,Zxr])) rfl (VG (by decide) (by decide) t1 rfl) (Zyi hl (by decide)) ?_ ?_ (by rw[MK];exact Ar _)]
 ·rw[MK]
 ·intro w hm
  have y1:w.length<=Zyk:=Zyi (hw w hm).2 (by decide)
  have h7:=wb hL (hw w hm).1 hk
  clear hm hw
  by_cases h1:w.length<=k+1
  ·obtain⟨h2,h3⟩:=c2 h1
   cases h5:decide (Yg (some ((k+1-w.length:Nat):Int)) (some ((k+1:Nat):Int)) t=w) with
   | false=>
     rw[c3 h1 h5,Zuw]
     clear c1 c2 c3
     walk_at "ex"
   | true=>
     rw[show Us L t k w=some (L.getD (k+1-w.length) 0) from by rw[Us,decide_eq_true h1,h5];rfl,Zv4]
     clear c1 c2 c3
     walk_at "ex"
  ·obtain⟨h6,h2⟩:=c1 h1
   rw[h6,Zuw]
   clear c1 c2 c3 h6
   walk_at "ex"
 ·intro w hm
  have y1:w.length<=Zyk:=Zyi (hw w hm).2 (by decide)
  clear hm hw
  by_cases h1:w.length<=k+1
  ·obtain⟨h2,h3⟩:=c2 h1
   cases h5:decide (Yg (some ((k+1-w.length:Nat):Int)) (some ((k+1:Nat):Int)) t=w) with
   | false=>
     right
     rw[c3 h1 h5,Zuw]
     clear c1 c2 c3
     walk_at "ex"
   | true=>
     left
     clear c1 c2 c3
     walk_at "ex"
  ·right
   obtain⟨h6,h2⟩:=c1 h1
   rw[h6,Zuw]
   clear c1 c2 c3 h6
   walk_at "ex"
end
theorem Eg  (H:PS S)   (hw:∀w∈ws,0<w.length/\w.length<=1000)(hl:ws.length<=1000)(ht:t.length<=1000):
 run S 19 ["ways"] ["words","text"] [.val (.lst (ws.map .str)),.val (.str t)]=some (.lst ((XS ws t t.length).map .int)):=by
 refine Wk rfl ?_
 show Gives _ 60 _ (Zi (λ_=>none) ["words","text"] [.lst (ws.map .str),.str t]) _ _
 have turn:=λ(U:Zx) (k:Nat) (hk:k<=1000) (Q:Zx->Prop)=>Ei (S:=S) (ws:=ws) (t:=t) (L:=XS ws t k) (U:=U) (k:=k) (Q:=Q) H hw hl ht hk (Gu ..)
 generalize hE:gW=eb at turn
 generalize hb:X2 19=b
 have N0:eb=bodyOf b[1]?:=by rw[<-hb,<-hE];rfl
 clear hE
 conv at hb=>lhs;whnf
 subst hb
 subst N0
 have m2:=H.len
 have z1:t.length<=Zyk:=Zyi ht (by decide)
 have z3:ZJ (-(2 ^ 62)) (2 ^ 62) 1=true:=VY (by decide) (by decide)
 have z4:ZJ (-(2 ^ 62)) (2 ^ 62) ((t.length:Int)+1)=true:=VY (by lia) (by lia)
 refine Gives.next (σ':=Zx.set (Zi (λ_=>none) ["words","text"] [.lst (ws.map .str),.str t]) "ways" (.own [.int 1])) (by clear turn;walk_at "ex") ?_
 refine Gives.for (ds:=ZQ 1 ((t.length:Int)+1)) (P:=sS ws t) (by decide) rfl rfl (by clear turn;walk_at "ex") ⟨by walk_at "ex",by walk_at "ex",rfl⟩ (λk d U hk hp=>?_) λσ' hp=>?_
 ·obtain⟨rfl,hk⟩:=QH hk
  obtain⟨s1,s2,s3⟩:=hp
  have Q8:k<=1000:=by lia
  rw[show (1:Int)+(k:Int)=((k+1:Nat):Int) from ZqJ ..]
  refine turn _ k Q8 _ ((if_neg (by decide)).trans s1) ((if_neg (by decide)).trans s2) ((if_neg (by decide)).trans s3) (if_pos rfl) ⟨(if_neg (by decide)).trans ((if_neg (by decide)).trans s1),(if_neg (by decide)).trans ((if_neg (by decide)).trans s2),(if_pos rfl).trans ?_⟩
  show _=some (AV.own ((XS ws t k++[_]).map PV.int))
  rw[Zy9];rfl
 ·clear turn
  rw[Ep] at hp
  obtain⟨s1,s2,s3⟩:=hp
  rw[show ((t.length:Int)+1-1).toNat=t.length from by rw[Int.add_sub_cancel];rfl] at s3
  have f3:σ'.last "ways"=some (.val (.lst ((XS ws t t.length).map .int))):=WV s3 rfl
  exact Gives.ret (by walk_at "ex")
def Gh(back:Bool)(s l:Str):Option Str:=
 if back then (if ZyJ l s then some (Yg none (some ((l.length:Int)-s.length)) l) else none)
 else (if ZyY l s then some (Yg (some s.length) none l) else none)
noncomputable def XI(b:Bool):Int:=if b then 1 else 0
set_option maxHeartbeats 4000000 in
theorem E2  (H:WO S)   (hs:W0 100 s)(hl:W0 100 l)(hn:0<s.length)
 (e1:S.cl "_ellipsis_match" [.val (.str (s++"...")),.val (.str l)]=some (.bool (ZyY l s))) (e2:S.cl "_ellipsis_match" [.val (.str ("..."++s)),.val (.str l)]=some (.bool (ZyJ l s))):
 run S 17 [] ["short","long","back"] [.val (.str s),.val (.str l),.val (.int (XI b))]=some (optStr (Gh b s l)):=by
 refine Wk rfl ?_
 show Gives _ 60 _ (Zi (λ_=>none) ["short","long","back"] [.str s,.str l,.int (XI b)]) _ _
 generalize hb:X2 17=bo
 conv at hb=>lhs;whnf
 subst hb
 have m1:=H.mt
 have m2:=H.len
 have bs:=@CP
 have ci:∀x:Bool,Ys .Is (.val (.bool x)) (.val (.bool true))=some x:=λx=>by cases x<;>rfl
 have z1:=hs.fits (by decide)
 have z2:=hl.fits (by decide)
 have z3:s.length+(ZxS "...").length<=Zyk:=by rw[NK,Zx1];have:=hs.len;lia
 have z4:(ZxS "...").length+s.length<=Zyk:=by rw[NK,Zx1];have:=hs.len;lia
 cases b with
 | false=>
   have bb:XI false=0:=rfl
   unfold Gh
   refine Gives.next (by walk_at "ex") ?_
   cases hc:ZyY l s with
   |false=>exact Gives.ret (d:=.none) (by walk_at "ex")
   |true=>exact Gives.ret (d:=.str (Yg (some s.length) none l)) (by walk_at "ex")
 | true=>
   have bb:XI true=1:=rfl
   unfold Gh
   cases hc:ZyJ l s with
   |false=>exact Gives.ret (d:=.none) (by walk_at "ex")
   |true=>exact Gives.ret (d:=.str (Yg none (some ((l.length:Int)-s.length)) l)) (by walk_at "ex")
open Mine.Internal.Pl
noncomputable def enc(a b:Nat)(l:List Bool):Str:=⟨(l.map λx=>if x then b else a).toArray⟩
section
variable {a b:Nat}
theorem XB(l:List Bool):Zh (enc a b l)=l.map λx=>if x then b else a:=by simp [Zh,enc]
theorem ZA(l:List Bool):(enc a b l).length=l.length:=by rw[<-Z7,XB,Zyl]
theorem GO(x y:List Bool):enc a b x++enc a b y=enc a b (x++y):=Qe (by rw[U9,XB,XB,XB,Zy9])
theorem UM(lo hi:Option Int)(x:List Bool):Yg lo hi (enc a b x)=enc a b (ZZ lo hi x):=Qe (by
 rw[Yg,Cb,XB]
 show ZZ lo hi (Zh (enc a b x))=_
 rw[XB,ZZ,ZZ,Zyl,Zuo,ZjT])
theorem Dt(ha:97<=a)(ha2:a<=122)(hb:97<=b)(Ii:b<=122)   (hl:l.length<=n):W0 n (enc a b l):=⟨λch h=>by
 rw[XB,Zye] at h
 obtain⟨x,_,rfl⟩:=h
 split<;>lia,by rw[ZA];exact hl⟩
variable (X6:a≠b)
include X6
theorem C3{x y:Bool}(h:(if x then b else a)=(if y then b else a)):x=y:=by
 cases x<;>cases y<;>simp at h ⊢<;>lia
theorem Kj  (h:enc a b x=enc a b y):x=y:=by
 have e:=congrArg Zh h
 rw[XB,XB] at e
 exact (ZvX λu v q=>C3 X6 q).mp e
theorem Mw :(enc a b x=enc a b y)<->x=y:=⟨Kj X6,λh=>by rw[h]⟩
theorem H0{x y:List Bool}:(x.map (λu=>if u then b else a))<+:(y.map λu=>if u then b else a)<->x<+:y:=by
 refine⟨λ⟨t,h⟩=>?_,λh=>h.map _⟩
 rw[ZuB]
 have:=congrArg (ZuL x.length) h
 rw[List.take_append_of_le_length (by simp),Zx6 (by simp),<-Zuo] at this
 exact (ZvX λu v q=>C3 X6 q).mp this
theorem C7 :ZyY (enc a b x) (enc a b y)=decide (y<+:x):=by
 rw[Zx9,Kg,XB,XB,H0 X6,decide_eq_true_iff]
theorem QR :ZyJ (enc a b x) (enc a b y)=decide (y<:+x):=by
 rw[Zx9,Uj,XB,XB,decide_eq_true_iff,<-Zq3,<-Zjl,<-Zjl,H0 X6,Zq3]
end
theorem KD{i n d:Nat}(h:i<=n):YM (some (i:Int)) n d=i:=(QE i n d).trans (ZxA h)
theorem KL   {l:List α}(h:i<=l.length):ZZ (some (i:Int)) none l=l.drop i:=by
 rw[ZZ,KD h];simp only[YM];rw[Zx6 (by simp)]
theorem Ss   {l:List α}(h:i<=l.length):ZZ none (some (i:Int)) l=l.take i:=by
 rw[ZZ,KD h];simp only[YM];simp
theorem Ad   {l:List α}(h:i<=j)(hj:j<=l.length):ZZ (some (i:Int)) (some (j:Int)) l=(l.take j).drop i:=by
 rw[ZZ,KD (Zyi h hj),KD hj,Zqk]
section
variable {a b:Nat}(X6:a≠b)
include X6
theorem Mb(ws:List (List Bool))(t:List Bool):∀k,k<=t.length->XS (ws.map (enc a b)) (enc a b t) k=wl ws t k
 |0,_=>rfl
 | k+1,hk=>by
   rw[XS,wl,Mb ws t k (by lia),Zun]
   congr 4
   funext w
   show Us (wl ws t k) (enc a b t) k (enc a b w)=_
   rw[Us,wh,ZA]
   by_cases h:w.length<=k+1
   ·rw[UM,Ad (by lia) hk]
    simp only[h,decide_true,ZwF,true_and,Mw X6,decide_eq_true_eq]
   ·simp only[h,decide_false,Zqg,false_and,Zwm,if_false]
end
noncomputable def ov(back:Bool)(s l:List Bool):Option (List Bool):=
 if back then (if s<:+l then some (l.take (l.length-s.length)) else none) else (if s<+:l then some (l.drop s.length) else none)
theorem M3{a b:Nat}(X6:a≠b)(back:Bool)(s l:List Bool):Gh back (enc a b s) (enc a b l)=(ov back s l).map (enc a b):=by
 unfold Gh ov
 cases back with
 | true=>
   simp only[if_true,QR X6,decide_eq_true_eq,ZA]
   split
   ·rename_i h
    have hl:=h.length_le
    rw[show (l.length:Int)-(s.length:Int)=((l.length-s.length:Nat):Int) from by lia,UM,Ss (by lia)]
    rfl
   ·rfl
 | false=>
   simp only[Zwm,if_false,C7 X6,decide_eq_true_eq,ZA]
   split
   ·rename_i h
    rw[UM,KL h.length_le]
    rfl
   ·rfl
noncomputable def rv(back:Bool)(l:List Bool):List Bool:=if back then l.reverse else l
theorem Vw(back:Bool)(l:List Bool):(rv back l).length=l.length:=by cases back<;>simp [rv]
theorem QB  :ov back s l=some r<->rv back l=rv back s++rv back r:=by
 unfold ov rv
 cases back with
 | true=>
   simp only[if_true]
   constructor
   ·intro h
    split at h
    ·rename_i hs
     obtain⟨t,rfl⟩:=hs
     cases h
     simp
    ·cases h
   ·intro h
    have h2:l=r++s:=by
     have:=congrArg ZwW h
     simpa using this
    subst h2
    rw[if_pos (ZqK _ _)]
    simp
 | false=>
   simp only[Zwm,if_false]
   constructor
   ·intro h
    split at h
    ·rename_i hs
     obtain⟨t,rfl⟩:=hs
     cases h
     simp
    ·cases h
   ·rintro rfl
    rw[if_pos (ZqX _ _)]
    simp
noncomputable def gr(back:Bool)(t o:List Bool):List Bool:=if back then o++t else t++o
theorem yE(back:Bool)(t o:List Bool):rv back (gr back t o)=rv back t++rv back o:=by cases back<;>simp [rv,gr]
theorem Je  [DecidableEq β]:∀{l m:List β},l.Nodup->(∀x∈l,x∈m)->l.length<=m.length
 |[],m,_,_=>ZyS _
 | a::l,m,hn,hs=>by
   rw[ZuS] at hn
   have ha:=hs a (by simp)
   have ih:=Je (m:=m.erase a) hn.2 λx hx=>(List.mem_erase_of_ne (λe=>hn.1 (by rw[<-e];exact hx))).mpr (hs x (by simp [hx]))
   rw[List.length_erase_of_mem ha] at ih
   have:=List.length_pos_of_mem ha
   rw[Zy4];lia
noncomputable def TY:List (List Bool):=[[],[false],[true],[false,false],[false,true],[true,false],[true,true]]
theorem Rn:∀{l:List Bool},l.length<=2->l∈TY
 |[],_=>by decide
 |[x],_=>by cases x<;>decide
 |[x,y],_=>by cases x<;>cases y<;>decide
 |_::_::_::_,h=>by simp at h
def Jv(bk:Bool)(p:En Bool):En Bool:=(rv bk p.1,rv bk p.2)
theorem qi:rv false=id:=by funext x;rfl
theorem ak:rv true=ZwW:=by funext x;rfl
theorem Qw(bk:Bool)(l:List Bool):rv bk (rv bk l)=l:=by cases bk<;>simp [rv]
theorem ig   (h:rv bk x=rv bk y):x=y:=by rw[<-Qw bk x,h,Qw]
theorem NN  :rv bk x=[]<->x=[]:=by cases bk<;>simp [rv]
structure Wf(ws:List (List Bool)):Prop where
 len:ws.length=4
 nodup:ws.Nodup
 size:∀w∈ws,0<w.length/\w.length<=3
theorem Wf.no  (h:Wf ws)(bk:Bool):[]∉ws.map (rv bk):=λhm=>by
 obtain⟨w,hw,e⟩:=Zye.mp hm
 have:=(h.size w hw).1
 rw[NN.mp e] at this
 exact absurd this (Zx7 _)
structure HX(ws:List (List Bool))(bk:Bool)(V Q:List (En Bool))(m:Nat):Prop where
 inv:U4 (ws.map (rv bk)) (V.map (Jv bk)) (Q.map (Jv bk)) m
 short:∀p,p∈V∨p∈Q->p.1.length<=2
 len:∀p,p∈V∨p∈Q->p.2.length<=3+2*V.length
 nodup:(V.map (·.1)).Nodup
theorem HX.Ke     (H:HX ws bk V Q m):V.length<=7:=by
 have:=Je (m:=TY) H.nodup λx hx=>by
  obtain⟨p,hp,rfl⟩:=Zye.mp hx
  exact Rn (H.short p (.inl hp))
 rwa [Zyl] at this
def cell(ws:List (List Bool))(bk:Bool)(i k:Nat):Option (En Bool):=
 if i=k then none else (ov bk (ws.getD i []) (ws.getD k [])).map λr=>(r,ws.getD k [])
def row(ws:List (List Bool))(bk:Bool)(i n:Nat):List (En Bool):=(Zxv n).filterMap (cell ws bk i)
def rows(ws:List (List Bool))(bk:Bool)(n:Nat):List (En Bool):=(Zxv n).flatMap λi=>row ws bk i 4
theorem GS   :p∈rows ws bk 4<->∃i k,i<4/\k<4/\i≠k/\ov bk (ws.getD i []) (ws.getD k [])=some p.1/\p.2=ws.getD k []:=by
 unfold rows row
 simp only[ZxH,Zui,Zvq]
 constructor
 ·rintro⟨i,hi,k,hk,e⟩
  unfold cell at e
  split at e
  ·cases e
  ·rename_i hn
   obtain⟨r,hr,rfl⟩:=mS e
   exact⟨i,k,hi,hk,hn,hr,rfl⟩
 ·rintro⟨i,k,hi,hk,hn,h1,h2⟩
  refine⟨i,hi,k,hk,?_⟩
  unfold cell
  rw[if_neg hn,h1,<-h2];rfl
theorem wM(ws:List (List Bool))(bk:Bool)(i n:Nat):(row ws bk i n).length<=n:=by
 have:=ZvY (cell ws bk i) (Zxv n)
 simpa [row] using this
theorem RG(ws:List (List Bool))(bk:Bool)(i n:Nat):(row ws bk i n).length<=n:=wM ws bk i n
theorem Ak(ws:List (List Bool))(bk:Bool)(n:Nat):rows ws bk (n+1)=rows ws bk n++row ws bk n 4:=by simp [rows,ZuT,Zq4]
theorem Oe(ws:List (List Bool))(bk:Bool)(i n:Nat):row ws bk i (n+1)=row ws bk i n++(cell ws bk i n).toList:=by
 simp only[row,ZuT,List.filterMap_append]
 cases h:cell ws bk i n<;>simp [h]
theorem Dx(ws:List (List Bool))(bk:Bool):∀n,(rows ws bk n).length<=4*n
 |0=>by simp [rows]
 | n+1=>by
   have:=Dx ws bk n
   have:=RG ws bk n 4
   rw[Ak,Zyn];lia
theorem getD_mem  (h:Wf ws)  (hi:i<4):ws.getD i []∈ws/\ws[i]?=some (ws.getD i []):=by
 have hl:i<ws.length:=by rw[h.len];exact hi
 rw[gD,gE hl]
 exact⟨ZxG hl,rfl⟩
theorem getD_inj  (h:Wf ws)  (hi:i<4)(hk:k<4)(e:ws.getD i []=ws.getD k []):i=k:=by
 have h1:i<ws.length:=by rw[h.len];exact hi
 have h2:k<ws.length:=by rw[h.len];exact hk
 rw[gD,gE h1,gD,gE h2] at e
 have hp:=List.pairwise_iff_getElem.mp h.nodup
 rcases Nat.lt_trichotomy i k with c |c |c
 ·exact absurd e (hp i k h1 h2 c)
 ·exact c
 ·exact absurd e.symm (hp k i h2 h1 c)
theorem mem_getD  (h:Wf ws)  (hw:w∈ws):∃i,i<4/\ws.getD i []=w:=by
 obtain⟨i,hi,e⟩:=Zq5 hw
 refine⟨i,by rw[<-h.len];exact hi,?_⟩
 rw[gD,gE hi];exact e
theorem Cu   (h:ov bk s l=some r):l.length=s.length+r.length:=by
 have:=congrArg Zxe (QB.mp h)
 rwa [Zyn,Vw,Vw,Vw] at this
theorem HX.init  (bk:Bool)(F:Wf ws):HX ws bk [] (rows ws bk 4) 0 where
 inv:=by
  refine⟨λp hp=>?_,λp _=>ZyS _,λp hp=>(by cases hp),λa b r ha hb hn e=>?_,λv hv=>(by cases hv),λv hv=>(by cases hv),λv hv=>(by cases hv)⟩
  ·rcases hp with hp |hp
   ·cases hp
   ·obtain⟨q,hq,rfl⟩:=Zye.mp hp
    obtain⟨i,k,hi,hk,BH,h1,h2⟩:=GS.mp hq
    show Path _ (rv bk q.1) (rv bk q.2)
    rw[h2]
    exact .start (ZyL (getD_mem F hi).1) (ZyL (getD_mem F hk).1) (λe=>BH (getD_inj F hi hk (ig (bk:=bk) e))) (QB.mp h1)
  ·obtain⟨x,hx,rfl⟩:=Zye.mp ha
   obtain⟨y,hy,rfl⟩:=Zye.mp hb
   obtain⟨i,hi,rfl⟩:=mem_getD F hx
   obtain⟨k,hk,rfl⟩:=mem_getD F hy
   refine⟨Jv bk (rv bk r,ws.getD k []),.inr (ZyL (GS.mpr ⟨i,k,hi,hk,λq=>hn (by rw[q]),QB.mpr (by rw[Qw];exact e),rfl⟩)),Qw bk r,Zy7 _⟩
 short:=λp hp=>by
  rcases hp with hp |hp
  ·cases hp
  ·obtain⟨i,k,hi,hk,BH,h1,h2⟩:=GS.mp hp
   have:=Cu h1
   have:=(F.size _ (getD_mem F hi).1).1
   have:=(F.size _ (getD_mem F hk).1).2
   lia
 len:=λp hp=>by
  rcases hp with hp |hp
  ·cases hp
  ·obtain⟨i,k,hi,hk,BH,h1,h2⟩:=GS.mp hp
   have:=(F.size _ (getD_mem F hk).1).2
   rw[h2,Zwx];lia
 nodup:=by simp
section
variable {ws:List (List Bool)}{bk:Bool}{V Q:List (En Bool)}{m:Nat}(H:HX ws bk V Q m){j:Nat}{p:En Bool}
include H
theorem HX.known(hj:Q[j]?=some p)(hs:∀q∈Q,p.2.length<=q.2.length)(hk:p.1∈V.map (·.1)):HX ws bk V (Q.eraseIdx j) p.2.length:=by
 have hp:p∈Q:=ZyH hj
 have e1:∀q∈Q,q=p∨q∈Q.eraseIdx j:=λq hq=>by
  obtain⟨i,hi⟩:=Zqr hq
  by_cases h:i=j
  ·subst h;rw[hj] at hi;cases hi;exact .inl rfl
  ·exact .inr (Zuv.mpr ⟨i,h,hi⟩)
 have e2:∀q∈Q.eraseIdx j,q∈Q:=λq hq=>ZuF hq
 refine⟨?_,λq hq=>H.short q (hq.imp_right (e2 q)),λq hq=>H.len q (hq.imp_right (e2 q)),H.nodup⟩
 have:=H.inv.known (p:=Jv bk p) (Q':=(Q.eraseIdx j).map (Jv bk)) (ZyL hp) (λq hq=>by
  replace hq:=Zye.mp hq;obtain⟨q,hq,rfl⟩:=hq
  show (rv bk p.2).length<=(rv bk q.2).length
  rw[Vw,Vw];exact hs q hq)
  (by obtain⟨v,hv,e⟩:=Zye.mp hk
      exact⟨Jv bk v,ZyL hv,by show rv bk v.1=rv bk p.1;rw[e]⟩)
  (λq hq=>by
   replace hq:=Zye.mp hq;obtain⟨q,hq,rfl⟩:=hq
   exact (e1 q hq).imp (λe=>by rw[e]) λh=>ZyL h)
  (λq hq=>by
   replace hq:=Zye.mp hq;obtain⟨q,hq,rfl⟩:=hq
   exact ZyL (e2 q hq))
 have e:(Jv bk p).2.length=p.2.length:=Vw bk p.2
 rwa [e] at this
def push(bk:Bool)(p:En Bool)(w:List Bool):List (En Bool):=((ov bk w p.1).toList.map λr=>(r,p.2))++((ov bk p.1 w).toList.map λr=>(r,gr bk p.2 r))
omit H in
theorem GR{w:List Bool}{q:En Bool}:q∈push bk p w<->(ov bk w p.1=some q.1/\q.2=p.2)∨(ov bk p.1 w=some q.1/\q.2=gr bk p.2 q.1):=by
 obtain⟨q1,q2⟩:=q
 unfold push
 rw[ZyN,Zye,Zye]
 refine or_congr ⟨?_,?_⟩ ⟨?_,?_⟩
 ·rintro⟨r,hr,e⟩;cases e;exact⟨by simpa using hr,rfl⟩
 ·rintro⟨h,e⟩;simp only at h e;exact⟨q1,by simpa using h,by rw[e]⟩
 ·rintro⟨r,hr,e⟩;cases e;exact⟨by simpa using hr,rfl⟩
 ·rintro⟨h,e⟩;simp only at h e;exact⟨q1,by simpa using h,by rw[e]⟩
omit H in
theorem gN(bk:Bool)(t o:List Bool):(gr bk t o).length=t.length+o.length:=by cases bk<;>simp [gr];lia
theorem HX.fresh(F:Wf ws)(hj:Q[j]?=some p)(hs:∀q∈Q,p.2.length<=q.2.length)(hk:p.1∉V.map (·.1))(XA:p.1≠[]):HX ws bk (V++[p]) (Q.eraseIdx j++ws.flatMap (push bk p)) p.2.length:=by
 have hp:p∈Q:=ZyH hj
 have e1:∀q∈Q,q=p∨q∈Q.eraseIdx j:=λq hq=>by
  obtain⟨i,hi⟩:=Zqr hq
  by_cases h:i=j
  ·subst h;rw[hj] at hi;cases hi;exact .inl rfl
  ·exact .inr (Zuv.mpr ⟨i,h,hi⟩)
 have e2:∀q∈Q.eraseIdx j,q∈Q:=λq hq=>ZuF hq
 have qU:=H.short p (.inr hp)
 have hp3:=H.len p (.inr hp)
 have hp1:0<p.1.length:=Zvz.mpr XA
 have new:∀q∈ws.flatMap (push bk p),q.1.length<=2/\q.2.length<=p.2.length+2:=λq hq=>by
  obtain⟨w,hw,hq⟩:=ZxH.mp hq
  have hw:=F.size w hw
  rcases GR.mp hq with ⟨h1,h2⟩ |⟨h1,h2⟩
  ·have:=Cu h1
   rw[h2];lia
  ·have:=Cu h1
   rw[h2,gN];lia
 refine⟨?_,λq hq=>?_,λq hq=>?_,?_⟩
 ·have:=H.inv.fresh (p:=Jv bk p) (Q':=(Q.eraseIdx j).map (Jv bk)) (R:=(ws.flatMap (push bk p)).map (Jv bk)) (ZyL hp) (λq hq=>by
   replace hq:=Zye.mp hq;obtain⟨q,hq,rfl⟩:=hq
   show (rv bk p.2).length<=(rv bk q.2).length
   rw[Vw,Vw];exact hs q hq)
   (λe=>XA (NN.mp e))
   (λq hq=>by
    replace hq:=Zye.mp hq;obtain⟨q,hq,rfl⟩:=hq
    exact (e1 q hq).imp (λe=>by rw[e]) λh=>ZyL h)
   (λq hq=>by
    replace hq:=Zye.mp hq;obtain⟨q,hq,rfl⟩:=hq
    exact ZyL (e2 q hq))
   (λq hq=>by
    replace hq:=Zye.mp hq;obtain⟨q,hq,rfl⟩:=hq
    obtain⟨w,hw,hq⟩:=ZxH.mp hq
    refine⟨rv bk w,ZyL hw,?_⟩
    rcases GR.mp hq with ⟨h1,h2⟩ |⟨h1,h2⟩
    ·exact .inl ⟨QB.mp h1,by show rv bk q.2=rv bk p.2;rw[h2]⟩
    ·exact .inr ⟨QB.mp h1,by show rv bk q.2=rv bk p.2++rv bk q.1;rw[h2,yE]⟩)
   (λw hw r e=>by
    replace hw:=Zye.mp hw;obtain⟨w,hw,rfl⟩:=hw
    refine Zye.mpr ⟨(rv bk r,p.2),ZxH.mpr ⟨w,hw,GR.mpr (.inl ⟨QB.mpr (by rw[Qw];exact e),rfl⟩)⟩,?_⟩
    show (rv bk (rv bk r),rv bk p.2)=_
    rw[Qw];rfl)
   (λw hw r e=>by
    replace hw:=Zye.mp hw;obtain⟨w,hw,rfl⟩:=hw
    refine Zye.mpr ⟨(rv bk r,gr bk p.2 (rv bk r)),ZxH.mpr ⟨w,hw,GR.mpr (.inr ⟨QB.mpr (by rw[Qw];exact e),rfl⟩)⟩,?_⟩
    show (rv bk (rv bk r),rv bk (gr bk p.2 (rv bk r)))=_
    rw[yE,Qw];rfl)
  have e:(Jv bk p).2.length=p.2.length:=Vw bk p.2
  rw[e] at this
  rw[Zy9,Zy9];exact this
 ·rcases hq with hq |hq
  ·rcases ZyN.mp hq with hq |hq
   ·exact H.short q (.inl hq)
   ·simp at hq;rw[hq];exact qU
  ·rcases ZyN.mp hq with hq |hq
   ·exact H.short q (.inr (e2 q hq))
   ·exact (new q hq).1
 ·have:q.2.length<=3+2*V.length+2:=by
   rcases hq with hq |hq
   ·rcases ZyN.mp hq with hq |hq
    ·have:=H.len q (.inl hq);lia
    ·simp at hq;rw[hq];lia
   ·rcases ZyN.mp hq with hq |hq
    ·have:=H.len q (.inr (e2 q hq));lia
    ·have:=(new q hq).2;lia
  rw[Zyn];simp;lia
 ·rw[Zy9,Zvg]
  refine⟨H.nodup,by simp,λx hx y hy e=>?_⟩
  simp at hy
  exact hk (by rw[<-hy,<-e];exact hx)
theorem HX.found(F:Wf ws)(hj:Q[j]?=some p)(hs:∀q∈Q,p.2.length<=q.2.length)(h0:p.1=[]):XD ws p.2/\∀u,XD ws u->p.2.length<=u.length:=by
 have hp:p∈Q:=ZyH hj
 have back:∀{u:List Bool},XD (ws.map (rv bk)) u->XD ws (rv bk u):=λ{u} h=>by
  cases bk with
  |false=>rw[qi,Zjj] at h;exact h
  | true=>
    have:=Bp h
    rw[ak,ZyM] at this
    rw[ak]
    simpa [Zjz] using this
 have Sx:∀{u:List Bool},XD ws u->XD (ws.map (rv bk)) (rv bk u):=λ{u} h=>by
  cases bk with
  |false=>rw[qi,Zjj];exact h
  |true=>exact Bp h
 constructor
 ·have h1:=H.inv.path (Jv bk p) (.inr (ZyL hp))
  have e:(Jv bk p).1=[]:=NN.mpr h0
  rw[e] at h1
  have h2:=back (M1 h1)
  have e2:rv bk (Jv bk p).2=p.2:=Qw bk p.2
  rwa [e2] at h2
 ·intro u hu
  have:=H.inv.found (F.no bk) (s:=p.2.length) (λq hq=>by
   replace hq:=Zye.mp hq;obtain⟨q,hq,rfl⟩:=hq
   show _<=(rv bk q.2).length
   rw[Vw];exact hs q hq) (Sx hu)
  rwa [Vw] at this
end
theorem HX.none     (H:HX ws bk V [] m)(F:Wf ws) :¬XD ws u:=λhu=>by
 have Sx:XD (ws.map (rv bk)) (rv bk u):=by
  cases bk with
  |false=>rw[qi,Zjj];exact hu
  |true=>exact Bp hu
 exact H.inv.none (F.no bk) Sx
theorem vK  (h:x.length<=5592405):Xx "lower" (.val (.str x)) []=some (.str (ZyU x)):=(if_pos h).trans rfl
theorem Ba  (h:x.length<=5592405):Xx "upper" (.val (.str x)) []=some (.str (ZwY x)):=(if_pos h).trans rfl
def ent(a b:Nat)(p:En Bool):PV:=.tup [.int p.2.length,.str (enc a b p.1),.str (enc a b p.2)]
theorem H2  :(Ju (ent a b p) (ent a b q)=true->p.2.length<=q.2.length)/\(Ju (ent a b p) (ent a b q)=false->q.2.length<=p.2.length):=by
 by_cases h:p.2.length=q.2.length
 ·exact⟨λ_=>Zxc h,λ_=>Zxc h.symm⟩
 ·have e:Ju (ent a b p) (ent a b q)=decide ((p.2.length:Int)<q.2.length):=if_neg (c:=eqv (.int p.2.length) (.int q.2.length)=true) λc=>h (ZjS (eq_of_beq c))
  rw[e]
  exact⟨λt=>Zx5 (ZxQ.mp (of_decide_eq_true t)),λt=>ZwP λu=>of_decide_eq_false t (ZxQ.mpr u)⟩
theorem Eu :∀Q:List (En Bool),(Q.map (ent a b)).mapM Nv=some (Q.map λp=>[PV.int p.2.length,.str (enc a b p.1),.str (enc a b p.2)])
 |[]=>rfl
 |p::Q=>by rw[ZyZ,ZwH,Eu Q];rfl
theorem fJ    (h1:l[n+1]?=some x)(h2:l[bestAt l n]?=some y):bestAt l (n+1)=if Ju x y=true then n+1 else bestAt l n:=by
 show (if (match l[n+1]?,l[bestAt l n]? with |some a,some b=>Ju a b |_,_=>false)=true then _ else _)=_
 rw[h1,h2];rfl
theorem MR  {Q:List (En Bool)}:∀n,n<Q.length->∃p,Q[bestAt (Q.map (ent a b)) n]?=some p/\bestAt (Q.map (ent a b)) n<=n/\∀i q,i<=n->Q[i]?=some q->p.2.length<=q.2.length
 |0,h=>⟨Q[0],gE h,Zy7 _,λi q hi e=>by
  obtain rfl:i=0:=by lia
  rw[gE h] at e;cases e;exact Zy7 _⟩
 | n+1,h=>by
   obtain⟨p,e1,e2,e3⟩:=MR (a:=a) (b:=b) (Q:=Q) n (by lia)
   have en:=gE h
   have hb:bestAt (Q.map (ent a b)) (n+1)=if Ju (ent a b Q[n+1]) (ent a b p)=true then n+1 else bestAt (Q.map (ent a b)) n:=by
    have h1:(Q.map (ent a b))[n+1]?=some (ent a b Q[n+1]):=by rw[ZyQ,en];rfl
    have h2:(Q.map (ent a b))[bestAt (Q.map (ent a b)) n]?=some (ent a b p):=by rw[ZyQ,e1];rfl
    exact fJ h1 h2
   rw[hb]
   refine Y4 rfl (λhl eb=>eb ▸ ?_) λhl eb=>eb ▸ ?_
   ·refine⟨Q[n+1],en,Zy7 _,λi q hi e=>?_⟩
    by_cases BS:i=n+1
    ·subst BS;rw[en] at e;cases e;exact Zy7 _
    ·exact Zyi (H2.1 hl) (e3 i q (by lia) e)
   ·refine⟨p,e1,by lia,λi q hi e=>?_⟩
    by_cases BS:i=n+1
    ·subst BS;rw[en] at e;cases e;exact H2.2 (ZwD.mpr hl)
    ·exact e3 i q (by lia) e
theorem vF  {Q:List (En Bool)}(h:Q≠[]):∃(j:Nat)(p:En Bool),CM [.own (Q.map (ent a b))]=some (ent a b p)/\Q[j]?=some p/\∀q∈Q,p.2.length<=q.2.length:=by
 have hl:=Zvz.mpr h
 obtain⟨p,e1,e2,e3⟩:=MR (a:=a) (b:=b) (Q:=Q) (Q.length-1) (by lia)
 refine⟨_,p,?_,e1,λq hq=>?_⟩
 ·show (((Q.map (ent a b)).mapM Nv).bind _)=_
  rw[Eu,Zy2]
  rw[if_pos]
  ·rw[Zyl,ZyQ,e1];rfl
  ·rw[ZyV]
   intro l hl
   obtain⟨q,_,rfl⟩:=Zye.mp hl
   rw[ZyV]
   intro m hm
   obtain⟨q',_,rfl⟩:=Zye.mp hm
   rfl
 ·obtain⟨i,hi,e⟩:=Zq5 hq
  exact e3 i q (by lia) (by rw[gE hi,e])
theorem HB  (X6:a≠b) :eqv (ent a b p) (ent a b q)=true<->p=q:=
 ⟨λh=>have h2:=Yk (Yk h).2;Prod.ext ((Mw X6).mp (eq_of_beq h2.1)) ((Mw X6).mp (eq_of_beq (Yk h2.2).1)),λe=>e ▸ eqv_refl _ rfl⟩
theorem Ae  (X6:a≠b) :∀{Q:List (En Bool)},p∈Q->∃j,WU (ent a b p) (Q.map (ent a b))=some j/\Q[j]?=some p
 |[],h=>by cases h
 | q::Q,h=>by
   by_cases hq:q=p
   ·exact⟨0,if_pos ((HB X6).mpr hq),congrArg some hq⟩
   ·obtain⟨j,h1,h2⟩:=Ae X6 (p:=p) (Q:=Q) ((ZyT.mp h).resolve_left λe=>hq e.symm)
    exact⟨j+1,(if_neg λe=>hq ((HB X6).mp e)).trans (congrArg (Zqh (·+1)) h1),h2⟩
theorem Pd   {Q:List (En Bool)}:(Q.map (ent a b)).all (λx=>alike x (ent a b p)&&decide (dep x<=5))=true:=by
 rw[ZyV]
 intro x hx
 obtain⟨q,_,rfl⟩:=Zye.mp hx
 rfl
theorem gP  {Q:List (En Bool)}:Ys .NotEq (.own (Q.map (ent a b))) (.val (.lst []))=some (!Q.isEmpty):=by
 have h:WY (Q.map (ent a b))<=1:=by
  induction Q with
  |nil=>exact ZyS _
  |cons p Q ih=>exact (Zj7 (a:=1)).mpr ⟨Zy7 1,ih⟩
 have h1:alike (AV.own (Q.map (ent a b))).pv (AV.val (.lst [])).pv=true:=by
  show alikeAll _ _=true
  cases Q<;>rfl
 have h2:dep (AV.own (Q.map (ent a b))).pv<=8:=by
  show WY _+1<=8
  lia
 refine ZxO (if_pos ⟨h1,h2⟩) ?_
 cases Q with
 |nil=>rfl
 |cons p Q=>rfl
structure Wt(a b:Nat):Prop where
 ne:a≠b
 ar:97<=a/\a<=122
 br:97<=b/\b<=122
 low:∀r∈TY,ZyU (enc a b r)=enc a b r/\ZyU (ZwY (enc a b r))=enc a b r/\(ZwY (enc a b r)).length<=10/\(Zh (ZwY (enc a b r))).all (λc=>decide (32<=c/\c<=126))=true
def Wr(a b i:Nat)(r:List Bool):Str:=if i%2=0 then enc a b r else ZwY (enc a b r)
noncomputable def tabOf(a b:Nat):Nat->List (En Bool)->List (Str × Str)
 |_,[]=>[]
 |i,p::V=>(Wr a b i p.1,enc a b p.2)::tabOf a b (i+1) V
theorem U6(a b:Nat):∀(V:List (En Bool))(i:Nat),(tabOf a b i V).length=V.length
 |[],_=>rfl
 |p::V,i=>congrArg (·+1) (U6 a b V _)
theorem Mn(a b:Nat)(p:En Bool):∀(V:List (En Bool))(i:Nat),tabOf a b i (V++[p])=tabOf a b i V++[(Wr a b (i+V.length) p.1,enc a b p.2)]
 |[],i=>rfl
 |q::V,i=>congrArg (_::·) ((Mn a b p V (i+1)).trans (congrArg (λj=>tabOf a b (i+1) V++[(Wr a b j p.1,enc a b p.2)]) (Nat.succ_add_eq_add_succ i V.length)))
section
variable {a b:Nat}(K:Wt a b)
include K
theorem Ck   (h:r.length<=2):ZyU (Wr a b i r)=enc a b r:=by
 obtain⟨h1,h2,_⟩:=K.low r (Rn h)
 exact Y4 (r:=Wr a b i r) rfl (λ_ e=>e ▸ h1) λ_ e=>e ▸ h2
theorem RN   (h:r.length<=2):(Wr a b i r).length<=10:=by
 obtain⟨_,_,h3,_⟩:=K.low r (Rn h)
 exact Y4 (r:=Wr a b i r) rfl (λ_ e=>e ▸ Zyi (Zxc (ZA r)) (Zyi h (by decide))) λ_ e=>e ▸ h3
theorem Aw :∀{i:Nat},(∀p∈V,p.1.length<=2)->∀x∈tabOf a b i V,x.1.length<=10:=by
 induction V with
 |nil=>intro i _ x hx;cases hx
 | cons p V ih=>
   intro i h x hx
   rcases ZyT.mp hx with rfl |hx
   ·exact RN K (h p (.head _))
   ·exact ih (λq hq=>h q (.tail _ hq)) x hx
theorem Ou   (hr:r.length<=2) :∀{i:Nat},(∀p∈V,p.1.length<=2)->YE (tabOf a b i V) (Wr a b j r)=(V.find? λp=>p.1==r).map λp=>enc a b p.2:=by
 induction V with
 |nil=>intro i _;rfl
 | cons p V ih=>
   intro i h
   have ih:=ih (i:=i+1) λq hq=>h q (.tail _ hq)
   have e0:(ZyU (Wr a b i p.1)==ZyU (Wr a b j r))=(p.1==r):=by
    rw[Ck K hr,Ck K (h p (.head _))]
    exact Zx9.mpr ⟨λq=>beq_iff_eq.mpr (Kj K.ne (eq_of_beq q)),λq=>beq_iff_eq.mpr (congrArg _ (eq_of_beq q))⟩
   show (Zj3 _ (_::tabOf a b (i+1) V)).map _=_
   rw[Zvk,Zvk,e0]
   cases p.1==r with
   |true=>rfl
   |false=>exact ih
theorem Mx(l:List Bool)(h:l.length<=1000):ZL (enc a b l):=by
 refine⟨λc hc=>?_,?_⟩
 ·have:=(Dt (a:=a) (b:=b) K.ar.1 K.ar.2 K.br.1 K.br.2 (Zy7 l.length)).lo c hc
  unfold good;lia
 ·show (enc a b l).length<_
  rw[ZA];lia
theorem dD   (h:r.length<=2):ZL (Wr a b i r):=by
 obtain⟨_,_,h3,h4⟩:=K.low r (Rn h)
 unfold Wr;split
 ·exact Mx K r (by lia)
 ·refine⟨λc hc=>?_,?_⟩
  ·have:=ZyV.mp h4 c hc
   simp only[decide_eq_true_eq] at this
   unfold good;lia
  ·show (ZwY (enc a b r)).length<_
   lia
end
theorem ti:Wt 102 105/\Wt 102 108/\Wt 115 116/\Wt 104 112/\Wt 107 109:=
 ⟨⟨by decide,by decide,by decide,by decide +kernel⟩,⟨by decide,by decide,by decide,by decide +kernel⟩,⟨by decide,by decide,by decide,by decide +kernel⟩,⟨by decide,by decide,by decide,by decide +kernel⟩,⟨by decide,by decide,by decide,by decide +kernel⟩⟩
def YU(T:St)(n:Nat)(sc:Zy6)(U:Zx)(ss:List ZyF)(R:PV->Prop):Prop:=∃d σ',Xm T n sc U ss=some (.ret d,σ')/\R d
theorem YU.next     {st:ZyF}   (h:Xj T n sc U st=some (.Z4,σ'))(h2:YU T n sc σ' r R):YU T (n+1) sc U (st::r) R:=by
 obtain⟨d,σ2,e,hr⟩:=h2
 exact⟨d,σ2,Ub h e,hr⟩
theorem YU.ret     {st:ZyF}    (h:Xj T n sc U st=some (.ret d,σ'))(hr:R d):YU T (n+1) sc U (st::r) R:=⟨d,σ',Iv h,hr⟩
theorem YU.for            {P:Nat->Zx->Prop}(h1:YW sc x=true)(h2:Xe iter=true)(h3:isName iter=false)(h4:Y1 T.sg n sc U true (.Name x p1) iter=some ds)
 (h5:P 0 U) (h6:∀j d U,ds[j]?=some d->P j U->Runs T n sc (U.set x (.val d)) body (P (j+1))) (h7:∀σ',P ds.length σ'->YU T (n+1) sc σ' r R):YU T (n+2) sc U (.For (.Name x p1) iter body [] p2::r) R:=by
 obtain⟨σ',e,hp⟩:=Dl (P:=P) h1 h2 h3 h4 h5 h6
 exact YU.next e (h7 _ hp)
def Ends(T:St)(n:Nat)(sc:Zy6)(U:Zx)(ss:List ZyF)(Q:Zx->Prop)(R:PV->Prop):Prop:=Runs T n sc U ss Q∨YU T n sc U ss R
theorem Ends.next     {st:ZyF}    (h:Xj T n sc U st=some (.Z4,σ'))(h2:Ends T n sc σ' r Q R):Ends T (n+1) sc U (st::r) Q R:=h2.imp (Runs.next h) (YU.next h)
theorem wd     (h:t U=some false):J5 t f (n+1) U=some (.Z4,U):=by
 show ((t U).bind _)=_
 rw[h];rfl
theorem wg     (h:t U=some true)(h2:f U=some (.Z4,σ')):J5 t f (n+1) U=J5 t f n σ':=by
 show ((t U).bind _)=_
 rw[h]
 show ((f U).bind _)=_
 rw[h2];rfl
theorem kD      (h:t U=some true)(h2:f U=some (.ret d,σ')):J5 t f (n+1) U=some (.ret d,σ'):=by
 show ((t U).bind _)=_
 rw[h]
 show ((f U).bind _)=_
 rw[h2];rfl
theorem Az   {P:Nat->Zx->Prop}{Q:Zx->Prop}{R:PV->Prop}
 (h:∀m U,P m U->(t U=some false/\Q U)∨(t U=some true/\((∃σ',f U=some (.Z4,σ')/\∃m',m'<m/\P m' σ')∨∃d σ',f U=some (.ret d,σ')/\R d))) (n:Nat):
 ∀m U,P m U->m<n->(∃σ',J5 t f n U=some (.Z4,σ')/\Q σ')∨∃d σ',J5 t f n U=some (.ret d,σ')/\R d:=by
 induction n with
 |zero=>exact λm U _ hm=>absurd hm (Zv2 _)
 | succ n ih=>
   intro m U hp hm
   rcases h m U hp with ⟨e,hq⟩ |⟨e,⟨σ',e2,m',qF,pE⟩ |⟨d,σ',e2,hr⟩⟩
   ·exact .inl ⟨U,wd e,hq⟩
   ·rw[wg e e2]
    exact ih m' σ' pE (ZxM qF (ZwB hm))
   ·exact .inr ⟨d,σ',kD e e2,hr⟩
theorem YU.while   {sc:Zy6}      {P:Nat->Zx->Prop}{Q:Zx->Prop}  (m:Nat)(hm:m<T.wf)(h0:P m U)
 (h:∀m U,P m U->(Yi T.sg n sc U t=some false/\Q U)∨(Yi T.sg n sc U t=some true/\Ends T n sc U body (λσ'=>∃m',m'<m/\P m' σ') R)) (h2:∀U,Q U->YU T (n+1) sc U r R):YU T (n+2) sc U (.While t body [] p::r) R:=by
 rcases Az (t:=λU=>Yi T.sg n sc U t) (f:=λU=>Xm T n sc U body) (P:=P) (Q:=Q) (R:=R) h T.wf m U h0 hm with ⟨σ',e,hq⟩ |⟨d,σ',e,hr⟩
 ·exact YU.next (σ':=σ') (e) (h2 _ hq)
 ·exact YU.ret (σ':=σ') (e) hr
theorem zG         {P:Nat->Zx->Prop}(h1:YW sc x=true)(h2:U y=some (.val (.lst ds)))(h3:Y1 T.sg n sc U true (.Name x p1) (.Name y p3)=some ds)
 (h5:P 0 U) (h6:∀j d U,ds[j]?=some d->P j U->Runs T n sc (U.set x (.val d)) body (P (j+1))):∃σ',Xj T (n+1) sc U (.For (.Name x p1) (.Name y p3) body [] p2)=some (.Z4,σ')/\P ds.length σ':=by
 have:=Dn (f:=λU d=>Xm T n sc (U.set x (.val d)) body) (P:=P) (l:=ds) 0 h5 λj U d hj hp=>by
  rw[Zxb] at hp ⊢
  exact h6 j d U hj hp
 rw[Zxb] at this
 rw[KQ (um h2) h1 rfl h3]
 exact this
theorem Runs.tM         {Q:Zx->Prop}  {P:Nat->Zx->Prop}(h1:YW sc x=true)(h2:U y=some (.val (.lst ds)))(h3:Y1 T.sg n sc U true (.Name x p1) (.Name y p3)=some ds)
 (h5:P 0 U) (h6:∀j d U,ds[j]?=some d->P j U->Runs T n sc (U.set x (.val d)) body (P (j+1))) (h7:∀σ',P ds.length σ'->Runs T (n+1) sc σ' r Q):Runs T (n+2) sc U (.For (.Name x p1) (.Name y p3) body [] p2::r) Q:=by
 obtain⟨σ',e,hp⟩:=zG (P:=P) h1 h2 h3 h5 h6
 exact Runs.next e (h7 _ hp)
theorem Ends.ya          (h:Yi T.sg n sc U t=some true)(h2:Ends T n sc U body Q R):Ends T (n+2) sc U [.If t body LN p] Q R:=by
 rcases h2 with ⟨σ',e,hq⟩ |⟨d,σ',e,hr⟩
 ·exact .inl ⟨σ',Ub (Ue h e) rfl,hq⟩
 ·exact .inr ⟨d,σ',Iv (Ue h e),hr⟩
structure Bz(S:Sg)(c:Zya):Prop where
 mt:∀nm x as,S.mt nm (.val (.str x)) as=Xx nm (.val (.str x)) as
 len:∀d,S.cl "len" [.val d]=XO [.val d]
 I9:∀l,l.length<=Zyk->S.cl "len" [.tab c l]=some (.int l.length)
 min:∀ds,S.cl "min" [.own ds]=CM [.own ds]
 over:∀s l bk,W0 100 s->W0 100 l->0<s.length->S.cl "_law_over" [.val (.str s),.val (.str l),.val (.int (XI bk))]=some (optStr (Gh bk s l))
section
variable (c:Zya)(a b:Nat)(ws:List (List Bool))(bk:Bool)
structure HS(U:Zx)(T hd W:List PV):Prop where
 words:U "words"=some (.val (.lst ((ws.map (enc a b)).map .str)))
 back:U "back"=some (.val (.int (XI bk)))
 table:U "table"=some (.tab c T)
 Qi:U "heard"=some (.own hd)
 waiting:U "waiting"=some (.own W)
end
section
variable {c:Zya}{a b:Nat}{ws:List (List Bool)}{bk:Bool}
theorem HS.set   (h:HS c a b ws bk U T hd W)   (hx:(["words","back","table","heard","waiting"]:List Str).contains x=false):HS c a b ws bk (U.set x v) T hd W:=by
 simp only[ZqI,Zjw,ZwA,beq_eq_false_iff_ne] at hx
 obtain⟨h1,h2,h3,h4,h5,_⟩:=hx
 exact⟨(if_neg λe=>h1 e.symm).trans h.words,(if_neg λe=>h2 e.symm).trans h.back,(if_neg λe=>h3 e.symm).trans h.table,(if_neg λe=>h4 e.symm).trans h.Qi,(if_neg λe=>h5 e.symm).trans h.waiting⟩
theorem HS.lay   (h:HS c a b ws bk U T hd W):HS c a b ws bk ((U.set "table" (.tab c T')).set "heard" (.own DQ)) T' DQ W:=
 ⟨(if_neg (by decide)).trans ((if_neg (by decide)).trans h.words),(if_neg (by decide)).trans ((if_neg (by decide)).trans h.back),(if_neg (by decide)).trans (if_pos rfl),if_pos rfl,(if_neg (by decide)).trans ((if_neg (by decide)).trans h.waiting)⟩
theorem HS.wait   (h:HS c a b ws bk U T hd W):HS c a b ws bk (U.set "waiting" (.own W')) T hd W':=
 ⟨(if_neg (by decide)).trans h.words,(if_neg (by decide)).trans h.back,(if_neg (by decide)).trans h.table,(if_neg (by decide)).trans h.Qi,if_pos rfl⟩
end
theorem VO   :(Th c S sc).sg=S:=rfl
theorem G2   :(Th c S sc).ow=(["waiting"]:List Str):=rfl
theorem bZ   :(Th c S sc).wf=1000:=rfl
theorem G1   :(Th c S sc).sp=Nf c S 30 sc:=rfl
theorem Hf           :Nf c S n sc U (.Assign [.Tuple [.Name x p1,.Name y p2,d] k tp] e p)=none:=rfl
theorem Bu         :Nf c S n sc U (.Expr (.Call (.Attribute (.Name y py) m apos) [.Tuple [e0,.Name x p1,e2] k tp] [] Yj) p)=none:=rfl
theorem wJ         (k:(h==("Headers":Str)&&(YW sc x&&(YW sc y&&(!(x==y)&&Ym sc h))))=true):
 Nf c S n sc U (.Assign [.Tuple [.Name x p1,.Name y p2] n1 tp] (.Tuple [.Call (.Name h p3) [] [] p4,.List [] p5] n2 Ir) pos)=some (.Z4,(U.set x (.tab c [])).set y (.own [])):=if_pos k
theorem wK
 (k:(m==("append":Str)&&(m2==("setdefault":Str)&&(Y0 x&&(Y0 y&&(!(y==x)&&(notStar e0&&(notStar e1&&(notStar e2&&(p3.endLine==p5.line&&apos.endLine==Yj.line)))))))))=true)
 (h1:U x=some (.tab c l)) (h2:U y=some (.own ds)) (h3:ev S n sc U.flat e0=some (.val (.str r0))) (h4:ev S n sc U.flat e1=some (.val (.str nm))) (h5:ev S n sc U.flat e2=some (.val (.str v))) (h6:JL l=some q)
 (h7:(∀x∈q,x.1.length<=5592405)/\q.length<=Zyk/\nm.length<=5592405/\ZL (ZyU nm)/\ZL nm/\ZL v/\ds.length<=Zyk):
 Nf c S n sc U (.Expr (.Call (.Attribute (.Name y py) m apos) [.Tuple [e0,.Call (.Attribute (.Name x p1) m2 p3) [e1,e2] [] p5] tk tp] [] Yj) pos)=some (.Z4,(U.set x (.tab c (pairs (laid q nm v)))).set y (.own (ds++[.tup [.str r0,.str ((YE q nm).getD v)]]))):=by
 refine (if_pos k).trans ?_
 unfold qx
 rw[h1,h2,h3,h4,h5]
 show ((JL l).bind _)=_
 rw[h6]
 exact if_pos ⟨rfl,h7⟩
def WH(a b:Nat)(p:En Bool):PV:=.tup [.str (enc a b p.1),.str (enc a b p.2)]
def Nj(c:Zya)(a b:Nat)(ws:List (List Bool))(d:PV):Prop:=∃(V:List (En Bool))(hd:List PV)(f:PV),d=.tup [.box (Z8 c) [] (pairs (tabOf a b 0 V)),.lst hd,f]/\(V.map (·.1)).Nodup/\(∀p∈V,p.1.length<=2/\p.2.length<=20)/\V.length<=7/\hd.length<=100/\(∀x∈hd,∃p∈V,x=WH a b p)/\
 ((f=.none/\∀u,¬XD ws u)∨∃t,f=.str (enc a b t)/\XD ws t/\(∀u,XD ws u->t.length<=u.length)/\t.length<=20)
theorem Ao  (f:β->γ):∀(l:List β)(j:Nat),(l.map f).eraseIdx j=(l.eraseIdx j).map f
 |[],_=>rfl
 |x::l,0=>rfl
 |x::l,j+1=>by rw[ZyZ,ZuM,ZuM,ZyZ,Ao f l j]
theorem C1    (h:l.Nodup)(hx:x∉l):(l++[x]).Nodup:=by
 rw[Zvg]
 refine⟨h,by simp,λy hy z hz e=>?_⟩
 simp at hz
 exact hx (by rw[<-hz,<-e];exact hy)
theorem NL  (o:Option α):o.toList.length<=1:=by
 cases o with
 |none=>exact ZyS _
 |some _=>exact Zy7 _
theorem Dj(bk:Bool)(p:En Bool):∀ws:List (List Bool),(ws.flatMap (push bk p)).length<=2*ws.length
 |[]=>ZyS _
 | w::ws=>by
   have:=Dj bk p ws
   have h1:(push bk p w).length<=2:=by
    rw[push,Zyn,Zyl,Zyl]
    exact Zxa (NL _) (NL _)
   rw[Zjv,Zyn,Zy4,ZqG,Zwe]
   exact Zxa this h1
def HW(c:Zya)(a b:Nat)(ws:List (List Bool))(bk:Bool)(V Q:List (En Bool))(hd:List PV)(m:Nat)(U:Zx):Prop:=
 HS c a b ws bk U (pairs (tabOf a b 0 V)) hd (Q.map (ent a b))/\(∃s,HX ws bk V Q s)/\(∀x∈hd,∃p∈V,x=WH a b p)/\m=Q.length+8*(7-V.length)/\hd.length+m<=80
def hW:List ZyF:=bodyOf (X2 18)[3]?
def hF:List ZyF:=bodyOf hW[4]?
def hB:List ZyF:=bodyOf hF[1]?
def hC:List ZyF:=bodyOf (bodyOf (X2 18)[2]?)[0]?
section
variable {c:Zya}{a b:Nat}{ws:List (List Bool)}{bk:Bool}{z:Int}{x y t:Str}{U:Zx}{T hd W:List PV}
variable (c a b ws bk z y t) in
structure HI(U:Zx)(T hd W:List PV):Prop where
 hs:HS c a b ws bk U T hd W
 size:U "size"=some (.val (.int z))
 rest:U "rest"=some (.val (.str y))
 text:U "text"=some (.val (.str t))
theorem HI.set(h:HI c a b ws bk z y t U T hd W)   (hx:(["words","back","table","heard","waiting"]:List Str).contains n=false)(h1:¬"size"=n)(h2:¬"rest"=n)(h3:¬"text"=n):HI c a b ws bk z y t (U.set n v) T hd W:=
 ⟨h.hs.set hx,(if_neg h1).trans h.size,(if_neg h2).trans h.rest,(if_neg h3).trans h.text⟩
theorem HI.wait  (h:HI c a b ws bk z y t U T hd W):HI c a b ws bk z y t (U.set "waiting" (.own W')) T hd W':=
 ⟨h.hs.wait,(if_neg (by decide)).trans h.size,(if_neg (by decide)).trans h.rest,(if_neg (by decide)).trans h.text⟩
noncomputable def Ko(z:Int)(t:Str)(r:Option Str):List PV:=r.toList.map λs=>.tup [.int z,.str s,.str t]
noncomputable def BO(bk:Bool)(t s:Str):Str:=if bk then s++t else t++s
def TR(bk:Bool)(t:Str)(r:Option Str):List PV:=r.toList.map λs=>.tup [.int (BO bk t s).length,.str s,.str (BO bk t s)]
variable {S:Sg}{Q:Zx->Prop}{r:Option Str}
theorem Tz(x y:Str):(x++y).length=x.length+y.length:=Array.size_append
theorem ug(bk:Bool)(u r:List Bool):BO bk (enc a b u) (enc a b r)=enc a b (gr bk u r):=by cases bk<;>exact GO _ _
theorem gJ(o:S.cl "_law_over" [.val (.str x),.val (.str y),.val (.int (XI bk))]=some (optStr r))(h:HI c a b ws bk z y t U T hd W)(u:U "word"=some (.val (.str x)))(zW:W.length<=Zyk)
 (q:∀τ,HI c a b ws bk z y t τ T hd (W++Ko z t r)->τ "word"=some (.val (.str x))->Runs (Th c S (Zg 18)) 44 (Zg 18) τ (hB.drop 2) Q):Runs (Th c S (Zg 18)) 46 (Zg 18) U hB Q:=by
 generalize hb:hB=bo at q ⊢
 conv at hb=>lhs;whnf
 subst hb
 have g1:=@VO c S (Zg 18)
 have g2:=@G2 c S (Zg 18)
 have g3:=@G1 c S (Zg 18)
 have qw:=@Bu c S 30 (Zg 18)
 have s2:=h.hs.back;have s3:=h.hs.waiting;have u1:=h.size;have u2:=h.rest;have u3:=h.text
 cases r with
 | none=>
   replace o:S.cl "_law_over" [.val (.str x),.val (.str y),.val (.int (XI bk))]=some .none:=o
   have x1:Ys .IsNot (.val .none) (.val .none)=some false:=rfl
   refine Runs.next (σ':=U.set "over" (.val .none)) (by walk_at "ex") ?_
   refine Runs.next (σ':=U.set "over" (.val .none)) (by walk_at "ex") (q _ (by rw[Ko,Zut,Zwo,Zxh];exact h.set (by decide) (by decide) (by decide) (by decide)) (by walk_at "ex"))
 | some s=>
   replace o:S.cl "_law_over" [.val (.str x),.val (.str y),.val (.int (XI bk))]=some (.str s):=o
   have x1:Ys .IsNot (.val (.str s)) (.val .none)=some true:=rfl
   refine Runs.next (σ':=U.set "over" (.val (.str s))) (by walk_at "ex") ?_
   exact Runs.next (σ':=(U.set "over" (.val (.str s))).set "waiting" (.own (W++[.tup [.int z,.str s,.str t]]))) (by walk_at "ex") (q _ (h.set (by decide) (by decide) (by decide) (by decide)).wait (by walk_at "ex"))
theorem gQ(m1:∀d,S.cl "len" [.val d]=XO [.val d])(o:S.cl "_law_over" [.val (.str y),.val (.str x),.val (.int (XI bk))]=some (optStr r))(h:HI c a b ws bk z y t U T hd W)(u:U "word"=some (.val (.str x)))(zW:W.length<=Zyk)
 (zt:∀s,r=some s->t.length+s.length<=Zyk) (q:∀τ,HI c a b ws bk z y t τ T hd (W++TR bk t r)->Q τ):Runs (Th c S (Zg 18)) 44 (Zg 18) U (hB.drop 2) Q:=by
 generalize hb:hB.drop 2=bo
 conv at hb=>lhs;whnf
 subst hb
 have g1:=@VO c S (Zg 18)
 have g2:=@G2 c S (Zg 18)
 have g3:=@G1 c S (Zg 18)
 have qw:=@Bu c S 30 (Zg 18)
 have s2:=h.hs.back;have s3:=h.hs.waiting;have u1:=h.size;have u2:=h.rest;have u3:=h.text
 cases r with
 | none=>
   replace o:S.cl "_law_over" [.val (.str y),.val (.str x),.val (.int (XI bk))]=some .none:=o
   have x1:Ys .IsNot (.val .none) (.val .none)=some false:=rfl
   refine Runs.next (σ':=U.set "over" (.val .none)) (by walk_at "ex") ?_
   refine Runs.next (σ':=U.set "over" (.val .none)) (by walk_at "ex") (Runs.nil (q _ (by rw[TR,Zut,Zwo,Zxh];exact h.set (by decide) (by decide) (by decide) (by decide))))
 | some s=>
   replace o:S.cl "_law_over" [.val (.str y),.val (.str x),.val (.int (XI bk))]=some (.str s):=o
   have x1:Ys .IsNot (.val (.str s)) (.val .none)=some true:=rfl
   have gz:=zt s rfl
   have gy:s.length+t.length<=Zyk:=by rw[Zwe];exact gz
   have gi:ZV (.val (.lst [.str (t++s),.str (s++t)])) (.int (XI bk))=some (.str (BO bk t s)):=by cases bk<;>rfl
   have gw:(BO bk t s).length<=Zyk:=by
    cases bk
    ·exact (Tz t s).symm ▸ gz
    ·exact (Tz s t).symm ▸ gy
   have bs:=@CP
   refine Runs.next (σ':=U.set "over" (.val (.str s))) (by walk_at "ex") ?_
   exact Runs.next (σ':=((U.set "over" (.val (.str s))).set "grown" (.val (.str (BO bk t s)))).set "waiting" (.own (W++[.tup [.int (BO bk t s).length,.str s,.str (BO bk t s)]]))) (by walk_at "ex")
    (Runs.nil (q _ ((h.set (by decide) (by decide) (by decide) (by decide)).set (by decide) (by decide) (by decide) (by decide)).wait))
theorem zc   (m3:∀ds,S.cl "min" [.own ds]=CM [.own ds])(mn:CM [.own W]=some (.tup [.int z,.str y,.str t]))(fq:WU (.tup [.int z,.str y,.str t]) W=some j)
 (al:W.all (λx=>alike x (.tup [.int z,.str y,.str t])&&decide (dep x<=5))=true) (zW:W.length<=Zyk) (h:HS c a b ws bk U T hd W) (q:∀τ,HI c a b ws bk z y t τ T hd (W.eraseIdx j)->Ends (Th c S (Zg 18)) 53 (Zg 18) τ (hW.drop 2) Q R):
 Ends (Th c S (Zg 18)) 55 (Zg 18) U hW Q R:=by
 generalize hb:hW=bo at q ⊢
 conv at hb=>lhs;whnf
 subst hb
 have g1:=@VO c S (Zg 18)
 have g2:=@G2 c S (Zg 18)
 have g3:=@G1 c S (Zg 18)
 have ro:=@Hf c S 30 (Zg 18)
 have s3:=h.waiting
 have hs:HI c a b ws bk z y t (Zi U ["size","rest","text"] [.int z,.str y,.str t]) T hd W:=⟨((h.set (by decide)).set (by decide)).set (by decide),by walk_at "ex",by walk_at "ex",by walk_at "ex"⟩
 refine Ends.next (σ':=Zi U ["size","rest","text"] [.int z,.str y,.str t]) (by walk_at "ex") ?_
 generalize Zi U ["size","rest","text"] [.int z,.str y,.str t]=σ1 at hs ⊢
 have s3:=hs.hs.waiting;have u1:=hs.size;have u2:=hs.rest;have u3:=hs.text
 exact Ends.next (σ':=σ1.set "waiting" (.own (W.eraseIdx j))) (by walk_at "ex") (q _ hs.wait)
theorem zp    (m1:∀nm x as,S.mt nm (.val (.str x)) as=Xx nm (.val (.str x)) as)(m4:∀l,l.length<=Zyk->S.cl "len" [.tab c l]=some (.int l.length))(zy:y.length<=5592405)
 (it:ZV (.val (.lst [.str y,.str (ZwY y)])) (.int ((qs.length%2:Nat):Int))=some (.str nm)) (k:(∀x∈qs,x.1.length<=5592405)/\qs.length<=Zyk/\nm.length<=5592405/\ZL (ZyU nm)/\ZL nm/\ZL t/\hd.length<=Zyk)
 (h:HI c a b ws bk z y t U (pairs qs) hd W) (q:∀τ,HI c a b ws bk z y t τ (pairs (laid qs nm t)) (hd++[.tup [.str y,.str ((YE qs nm).getD t)]]) W->τ "known"=some (.val (.int qs.length))->Ends (Th c S (Zg 18)) 51 (Zg 18) τ (hW.drop 4) Q R):
 Ends (Th c S (Zg 18)) 53 (Zg 18) U (hW.drop 2) Q R:=by
 generalize hb:hW.drop 2=bo
 conv at hb=>lhs;whnf
 subst hb
 have g1:=@VO c S (Zg 18)
 have g2:=@G2 c S (Zg 18)
 have g3:=@G1 c S (Zg 18)
 have ro:=@Hf c S 30 (Zg 18)
 have s4:=h.hs.table
 have lt:=m4 (pairs qs) (by rw[pairs,Zyl];exact k.2.1)
 rw[pairs,Zyl,<-pairs] at lt
 refine Ends.next (σ':=U.set "known" (.val (.int qs.length))) (by walk_at "ex") ?_
 have t4:(U.set "known" (.val (.int qs.length))) "known"=some (.val (.int qs.length)):=if_pos rfl
 replace h:=h.set (n:="known") (v:=.val (.int qs.length)) (by decide) (by decide) (by decide) (by decide)
 generalize U.set "known" (.val (.int qs.length))=σ2 at h t4 ⊢
 have s4:=h.hs.table;have s5:=h.hs.Qi;have u1:=h.size;have u2:=h.rest;have u3:=h.text
 have fm:=md (y:=2) 2 rfl (by decide)
 have up:=A7 qs
 have bN:=Ba zy
 exact Ends.next (σ':=(σ2.set "table" (.tab c (pairs (laid qs nm t)))).set "heard" (.own (hd++[.tup [.str y,.str ((YE qs nm).getD t)]]))) (mI (by refine wK ?_ ?_ ?_ ?_ ?_ ?_ up k<;>walk_at "ex"))
  (q _ ⟨h.hs.lay,(if_neg (by decide)).trans ((if_neg (by decide)).trans u1),(if_neg (by decide)).trans ((if_neg (by decide)).trans u2),(if_neg (by decide)).trans ((if_neg (by decide)).trans u3)⟩ ((if_neg (by decide)).trans ((if_neg (by decide)).trans t4)))
theorem za   (m4:∀l,l.length<=Zyk->S.cl "len" [.tab c l]=some (.int l.length))(h:HI c a b ws bk z y t U T hd W)(e:U "known"=some (.val (.int v)))(hv:T.length=v)(zv:T.length<=Zyk)(q:Q U):Ends (Th c S (Zg 18)) 51 (Zg 18) U (hW.drop 4) Q R:=by
 generalize hb:hW.drop 4=bo
 conv at hb=>lhs;whnf
 subst hb
 have g1:=@VO c S (Zg 18)
 have s4:=h.hs.table
 have lt:=m4 T zv
 rw[hv] at lt
 have d0:decide ((v:Int)<(v:Int))=false:=decide_eq_false (Int.lt_irrefl _)
 exact .inl (Runs.next (σ':=U) (by walk_at "ex") (Runs.nil q))
theorem ze{v:Nat}  (m4:∀l,l.length<=Zyk->S.cl "len" [.tab c l]=some (.int l.length))(h:HI c a b ws bk z y t U T hd W)(e:U "known"=some (.val (.int v)))(hv:T.length=v+1)(zv:T.length<=Zyk)(q:Ends (Th c S (Zg 18)) 49 (Zg 18) U hF Q R):Ends (Th c S (Zg 18)) 51 (Zg 18) U (hW.drop 4) Q R:=by
 generalize hb:hW.drop 4=bo
 conv at hb=>lhs;whnf
 subst hb
 have g1:=@VO c S (Zg 18)
 have s4:=h.hs.table
 have lt:=m4 T zv
 rw[hv] at lt
 have d0:decide ((v:Int)<((v+1:Nat):Int))=true:=decide_eq_true (ZxQ.mpr (ZvM v))
 exact Ends.ya (by walk_at "ex") q
theorem SR{R:PV->Prop}(h:HI c a b ws bk z "" t U T hd W)(q:R (.tup [.box (Z8 c) [] T,.lst hd,.str t])):Ends (Th c S (Zg 18)) 49 (Zg 18) U hF Q R:=by
 generalize hb:hF=bo
 conv at hb=>lhs;whnf
 subst hb
 have g1:=@VO c S (Zg 18)
 have s4:=h.hs.table;have s5:=h.hs.Qi;have u2:=h.rest;have u3:=h.text
 have t1:U.last "table"=some (.val (.box (Z8 c) [] T)):=WV s4 rfl
 have t2:U.last "heard"=some (.val (.lst hd)):=WV s5 rfl
 have t3:U.last "text"=some (.val (.str t)):=WV u3 rfl
 exact .inr (YU.ret (Ue (by walk_at "ex") (Iv (Kb (qg (TM (as:=[.tab c T,.own hd,.val (.str t)]) (by walk_at "ex") ⟨rfl⟩) (by walk_at "ex"))))) q)
theorem zo   {P:Nat->Zx->Prop}(hy:decide (y="")=false)(h:HI c a b ws bk z y t U T hd W)(hw:(ws.map (enc a b))=ts)(h0:P 0 U)(st:∀n x τ,ts[n]?=some x->P n τ->Runs (Th c S (Zg 18)) 46 (Zg 18) (τ.set "word" (.val (.str x))) hB (P (n+1)))(q:∀τ,P ts.length τ->Q τ):Ends (Th c S (Zg 18)) 49 (Zg 18) U hF Q R:=by
 generalize hb:hF=bo
 conv at hb=>lhs;whnf
 subst hb
 have g1:=@VO c S (Zg 18)
 have s1:=h.hs.words;have u2:=h.rest
 rw[hw] at s1
 refine Ends.next (σ':=U) (by walk_at "ex") (.inl (Runs.tM (P:=P) (by decide) s1 (by walk_at "ex") h0 (λn d τ hn hp=>?_) λτ hp=>Runs.nil (q τ (by rwa [Zyl] at hp))))
 rw[ZyQ] at hn
 obtain⟨x,qK,rfl⟩:=mS hn
 exact st n x τ qK hp
theorem EL  (hi:U "i"=some (.val (.int i)))(hk:U "k"=some (.val (.int i)))(q:Q U):Runs (Th c S (Zg 18)) 54 (Zg 18) U hC Q:=by
 generalize hb:hC=bo
 conv at hb=>lhs;whnf
 subst hb
 have g1:=@VO c S (Zg 18)
 have d0:decide ((i:Int)=(i:Int))=true:=decide_eq_true rfl
 exact Runs.next (σ':=U) (by walk_at "ex") (Runs.nil q)
theorem ER{i k:Nat}(m2:∀d,S.cl "len" [.val d]=XO [.val d])(hi:U "i"=some (.val (.int i)))(hk:U "k"=some (.val (.int k)))(ne:i≠k)(o:S.cl "_law_over" [.val (.str x),.val (.str y),.val (.int (XI bk))]=some (optStr r))
 (e1:ZV (.val (.lst ((ws.map (enc a b)).map .str))) (.int (i:Int))=some (.str x)) (e2:ZV (.val (.lst ((ws.map (enc a b)).map .str))) (.int (k:Int))=some (.str y)) (zy:y.length<=Zyk) (zW:W.length<=Zyk)
 (h:HS c a b ws bk U T hd W) (q:∀τ,HS c a b ws bk τ T hd (W++Ko y.length y r)->τ "i"=some (.val (.int i))->Q τ):Runs (Th c S (Zg 18)) 54 (Zg 18) U hC Q:=by
 generalize hb:hC=bo
 conv at hb=>lhs;whnf
 subst hb
 have g1:=@VO c S (Zg 18)
 have g2:=@G2 c S (Zg 18)
 have g3:=@G1 c S (Zg 18)
 have sp:=@Bu c S 30 (Zg 18)
 have s1:=h.words;have s2:=h.back;have s3:=h.waiting
 have e3:ZV (.own ((ws.map (enc a b)).map .str)) (.int (k:Int))=some (.str y):=e2
 have fs:=Gw (ws.map (enc a b))
 have d0:decide ((i:Int)=(k:Int))=false:=decide_eq_false λe=>ne (ZjS e)
 cases r with
 | none=>
   replace o:S.cl "_law_over" [.val (.str x),.val (.str y),.val (.int (XI bk))]=some .none:=o
   have pI:Ys .IsNot (.val .none) (.val .none)=some false:=rfl
   exact Runs.next (σ':=U.set "over" (.val .none)) (by walk_at "ex") (Runs.nil (q _ (by rw[Ko,Zut,Zwo,Zxh];exact h.set (by decide)) (by walk_at "ex")))
 | some s=>
   replace o:S.cl "_law_over" [.val (.str x),.val (.str y),.val (.int (XI bk))]=some (.str s):=o
   have pI:Ys .IsNot (.val (.str s)) (.val .none)=some true:=rfl
   exact Runs.next (σ':=(U.set "over" (.val (.str s))).set "waiting" (.own (W++[.tup [.int y.length,.str s,.str y]]))) (by walk_at "ex") (Runs.nil (q _ (h.set (by decide)).wait (by walk_at "ex")))
end
section
variable {S:Sg}{c:Zya}{a b:Nat}{ws:List (List Bool)}{bk:Bool}{U:Zx}{T hd:List PV}{V Q W:List (En Bool)}{p:En Bool}
theorem NM   (h:(ZQ 0 4)[j]?=some d):d=.int (j:Int)/\j<4:=
 ⟨(QH h).1.trans (by rw[Int.zero_add]),ZxQ.mp (QH h).2⟩
theorem E6(i k:Nat)(h:i≠k):Ko (enc a b (ws.getD k [])).length (enc a b (ws.getD k [])) ((ov bk (ws.getD i []) (ws.getD k [])).map (enc a b))=(cell ws bk i k).toList.map (ent a b):=by
 rw[cell,if_neg h,ZA]
 cases ov bk (ws.getD i []) (ws.getD k [])<;>rfl
theorem Qq(K:Wt a b)   (h:l.length<=n)(h2:n<=100):W0 100 (enc a b l):=Dt K.ar.1 K.ar.2 K.br.1 K.br.2 (Zyi h h2)
theorem le_size  (h:n<=m)(h2:decide (m<=100000)=true):n<=Zyk:=Zyi h (Zyi (of_decide_eq_true h2) (by rw[Zx1];decide))
theorem EH{R:PV->Prop}(H:Bz S c)(K:Wt a b)(F:Wf ws)(h:HS c a b ws bk U [] [] [])(q:∀τ,HS c a b ws bk τ [] [] ((rows ws bk 4).map (ent a b))->YU (Th c S (Zg 18)) 57 (Zg 18) τ ((X2 18).drop 3) R):YU (Th c S (Zg 18)) 58 (Zg 18) U ((X2 18).drop 2) R:=by
 have z3:ZJ (-(2 ^ 62)) (2 ^ 62) 4=true:=VY (by decide) (by decide)
 refine YU.for (ds:=ZQ 0 4) (P:=λi U=>HS c a b ws bk U [] [] ((rows ws bk i).map (ent a b))) (by decide) rfl rfl (by walk_at "ex") h (λi d U hi hs=>?_) q
 obtain⟨rfl,i4⟩:=NM hi
 refine Runs.for (ds:=ZQ 0 4) (P:=λk U=>HS c a b ws bk U [] [] ((rows ws bk i++row ws bk i k).map (ent a b))/\U "i"=some (.val (.int i))) (by decide) rfl rfl (by walk_at "ex") ⟨(Zxh (rows ws bk i)).symm ▸ hs.set (by decide),if_pos rfl⟩ (λk d U hk hs=>?_) λU hs=>Runs.nil (Ak ws bk i ▸ hs.1)
 obtain⟨rfl,k4⟩:=NM hk
 rw[Oe,<-ZyC,Zy9]
 obtain⟨w1,w2⟩:=getD_mem F i4
 obtain⟨v1,v2⟩:=getD_mem F k4
 have wl:=le_size (n:=((rows ws bk i++row ws bk i k).map (ent a b)).length) (m:=20) (by
  rw[Zyl,Zyn]
  exact Zxa (Zyi (Dx ws bk i) (Zwf 4 (Zx5 i4))) (Zyi (RG ws bk i k) (Zx5 k4))) rfl
 generalize (rows ws bk i++row ws bk i k).map (ent a b)=W at hs wl ⊢
 by_cases BH:i=k
 ·rw[show cell ws bk i k=none from if_pos BH]
  exact EL (i:=k) ((if_neg (by decide)).trans (BH ▸ hs.2)) (if_pos rfl) ⟨(Zxh W).symm ▸ hs.1.set (by decide),(if_neg (by decide)).trans hs.2⟩
 ·have it:∀{n:Nat}{w:List Bool},n<4->ws[n]?=some w->ZV (.val (.lst ((ws.map (enc a b)).map .str))) (.int (n:Int))=some (.str (enc a b w)):=λhn e=>by
   rw[Nn (n:=_) rfl rfl (Zyi (Zx5 hn) (by decide)),ZyQ,ZyQ,e];rfl
  have o:=H.over (enc a b (ws.getD i [])) (enc a b (ws.getD k [])) bk (Qq K (F.size _ w1).2 (by decide)) (Qq K (F.size _ v1).2 (by decide)) ((ZA (a:=a) (b:=b) (ws.getD i [])).symm ▸ (F.size _ w1).1)
  rw[M3 K.ne] at o
  exact ER H.len ((if_neg (by decide)).trans hs.2) (if_pos rfl) BH o (it i4 w2) (it k4 v2) (le_size (m:=3) ((ZA (a:=a) (b:=b) (ws.getD k [])).symm ▸ (F.size _ v1).2) rfl) wl (hs.1.set (by decide)) λτ h u=>⟨E6 i k BH ▸ h,u⟩
theorem E5:Ko p.2.length (enc a b p.2) ((ov bk w p.1).map (enc a b))++TR bk (enc a b p.2) ((ov bk p.1 w).map (enc a b))=(push bk p w).map (ent a b):=by
 rw[push,Zy9]
 congr 1
 ·cases ov bk w p.1<;>rfl
 ·cases ov bk p.1 w with
  |none=>rfl
  |some r=>exact congrArg (λg:Str=>[PV.tup [.int g.length,.str (enc a b r),.str g]]) (ug bk p.2 r) |>.trans (by rw[ZA];rfl)
theorem EN   (H:Bz S c)(K:Wt a b)(hw:0<w.length/\w.length<=3)(h0:p.1≠[])(p1:p.1.length<=2)(p2:p.2.length<=20)(zW:W.length<=100)(h:HI c a b ws bk p.2.length (enc a b p.1) (enc a b p.2) U T hd (W.map (ent a b)))(u:U "word"=some (.val (.str (enc a b w))))
 (q:∀τ,HI c a b ws bk p.2.length (enc a b p.1) (enc a b p.2) τ T hd ((W++push bk p w).map (ent a b))->P τ):Runs (Th c S (Zg 18)) 46 (Zg 18) U hB P:=by
 have o1:=H.over _ _ bk (Qq K hw.2 (by decide)) (Qq K p1 (by decide)) ((ZA (a:=a) (b:=b) w).symm ▸ hw.1)
 have o2:=H.over _ _ bk (Qq K p1 (by decide)) (Qq K hw.2 (by decide)) ((ZA (a:=a) (b:=b) p.1).symm ▸ Zvz.mpr h0)
 rw[M3 K.ne] at o1 o2
 have zl:(W.map (ent a b)).length<=100:=by rw[Zyl];exact zW
 refine gJ o1 h u (le_size zl rfl) λτ h u=>gQ H.len o2 h u (le_size (m:=101) ?_ rfl) (λs e=>?_) λτ h=>q τ (Zy9 ▸ E5 (w:=w) ▸ ZyC .. ▸ h)
 ·rw[Zyn,Ko,Zyl,Zyl]
  exact Zxa zW (NL _)
 ·obtain⟨r,e1,e2⟩:=mS e
  rw[<-e2,ZA,ZA]
  exact le_size (m:=23) (Zxa p2 (Zyi (Zwg _ _) (Cu e1 ▸ hw.2))) rfl
theorem ET   (H:Bz S c)(K:Wt a b)(F:Wf ws)(h0:p.1≠[])(p1:p.1.length<=2)(p2:p.2.length<=20)(zW:W.length<=80)(h:HI c a b ws bk p.2.length (enc a b p.1) (enc a b p.2) U T hd (W.map (ent a b)))
 (q:∀τ,HS c a b ws bk τ T hd ((W++ws.flatMap (push bk p)).map (ent a b))->P τ):Ends (Th c S (Zg 18)) 49 (Zg 18) U hF P R:=
 zo (P:=λn τ=>HI c a b ws bk p.2.length (enc a b p.1) (enc a b p.2) τ T hd ((W++(ws.take n).flatMap (push bk p)).map (ent a b))) (decide_eq_false λe=>h0 (Kj K.ne e)) h rfl ((Zxh W).symm ▸ h) (λn x τ hn hs=>by
  rw[ZyQ] at hn
  obtain⟨w,yl,rfl⟩:=mS hn
  rw[Zjy,yl,Option.toList_some,Zq4,List.flatMap_singleton,<-ZyC]
  refine EN H K (F.size w (ZyH yl)) h0 p1 p2 ?_ (hs.set (by decide) (by decide) (by decide) (by decide)) (if_pos rfl) λτ h=>h
  rw[Zyn]
  exact Zyi (Zxa (d:=2*4) zW (Zyi (Dj bk p (ws.take n)) (Zwf 2 (Zyi (List.length_take_le' n ws) (Zxc F.len))))) (by decide))
  λτ hs=>q τ (by rw[Zyl,Zx6 (Zy7 _)] at hs;exact hs.hs)
def yU(c:Zya)(a b:Nat)(ws:List (List Bool))(bk:Bool)(m:Nat)(U:Zx):Prop:=∃V Q hd,HW c a b ws bk V Q hd m U
theorem fL  (hm:m=q+v)(h2:h+m<=80)(hq:0<q):m-1<m/\m-1=(q-1)+v/\h+1+(m-1)<=80:=
 have h0:0<m:=hm ▸ Nat.add_pos_left hq v
 ⟨Zj6 h0 Nat.one_pos,hm ▸ Nat.sub_add_comm hq,by rw[Zwi,Zv1 h0];exact h2⟩
theorem uM  (h2:h+(q+1+8*(u+1))<=80)(hp:pl<=8):q+pl+8*u<q+1+8*(u+1)/\h+1+(q+pl+8*u)<=80:=by lia
theorem Of  (h:v+1<=n):n-v=n-(v+1)+1:=(ZqZ (ZqO h)).symm
theorem fH  (h2:h+(q+8*(7-v))<=80)(hq:0<q)(hp:pl<=8)(hv:v+1<=7):q-1+pl+8*(7-(v+1))<q+8*(7-v)/\h+1+(q-1+pl+8*(7-(v+1)))<=80:=by
 cases q with
 |zero=>exact absurd hq (Zx7 _)
 |succ q=>rw[Of hv] at h2 ⊢;exact uM h2 hp
theorem UZ  (l:List α)(x:α):(l++[x]).length=l.length+1:=Zyn
theorem Bh  (hh:∀x∈hd,∃p∈V,x=WH a b p)(hq:q∈W)(hs:∀p∈V,p∈W):∀x∈hd++[WH a b q],∃p∈W,x=WH a b p:=λx hx=>
 (ZyN.mp hx).elim (λm=>(hh x m).elim λp q=>⟨p,hs p q.1,q.2⟩) λm=>⟨q,hq,Zx0.mp m⟩
theorem Oc   (hx:HX ws bk V Q s)(hh:∀x∈hd,∃p∈V,x=WH a b p)(hm:m=Q.length+8*(7-V.length))(h2:hd.length+m<=80)(hj:Q[j]?=some p)(hle:∀q∈Q,p.2.length<=q.2.length)(hv:v∈V)(hk:v.1=p.1)
 (h:HS c a b ws bk U (pairs (tabOf a b 0 V)) (hd++[WH a b v]) ((Q.eraseIdx j).map (ent a b))):∃m',m'<m/\yU c a b ws bk m' U:=
 have Fb:=(ZxF.mp hj).elim λh _=>h
 have ar:=fL hm h2 (Zxo (ZyS _) Fb)
 ⟨m-1,ar.1,V,Q.eraseIdx j,_,h,⟨_,hx.known hj hle (Zye.mpr ⟨v,hv,hk⟩)⟩,Bh hh hv λ_ m=>m,(Zu0 Fb).symm ▸ ar.2.1,(UZ hd _).symm ▸ ar.2.2⟩
theorem Ob  (F:Wf ws)(hx:HX ws bk V Q s)(hh:∀x∈hd,∃p∈V,x=WH a b p)(hm:m=Q.length+8*(7-V.length))(h2:hd.length+m<=80)(hj:Q[j]?=some p)(hle:∀q∈Q,p.2.length<=q.2.length)(hk:p.1∉V.map (·.1))(h0:p.1≠[])
 (h:HS c a b ws bk U (pairs (tabOf a b 0 (V++[p]))) (hd++[WH a b p]) ((Q.eraseIdx j++ws.flatMap (push bk p)).map (ent a b))):∃m',m'<m/\yU c a b ws bk m' U:=
 have Fb:=(ZxF.mp hj).elim λh _=>h
 have X:=hx.fresh F hj hle hk h0
 have ar:=fH (hm ▸ h2) (Zxo (ZyS _) Fb) (F.len ▸ Dj bk p ws) (UZ V p ▸ X.Ke)
 ⟨_,hm ▸ ar.1,V++[p],_,_,h,⟨_,X⟩,Bh hh (Zww _ (.head _)) λ_ m=>Zve _ m,by rw[Zyn,Zu0 Fb,UZ],(UZ hd _).symm ▸ ar.2⟩
theorem SE{s j:Nat}(F:Wf ws)(hx:HX ws bk V Q s)(hh:∀x∈hd,∃p∈V,x=WH a b p)(h2:hd.length<=80)(hj:Q[j]?=some p)(hle:∀q∈Q,p.2.length<=q.2.length)(hk:p.1∉V.map (·.1))(h0:p.1=[]):
 Nj c a b ws (.tup [.box (Z8 c) [] (pairs (tabOf a b 0 (V++[p]))),.lst (hd++[WH a b p]),.str (enc a b p.2)]):=
 have hp:p∈Q:=ZyH hj
 have nd:((V++[p]).map (·.1)).Nodup:=by rw[Zy9];exact C1 hx.nodup hk
 have qt:∀q,q∈V∨q∈Q->q.1.length<=2/\q.2.length<=20:=λq m=>⟨hx.short q m,Zyi (hx.len q m) (Zyi (Zxl (Zwf 2 hx.Ke) 3) (by decide))⟩
 have sh:∀q∈V++[p],q.1.length<=2/\q.2.length<=20:=λq m=>(ZyN.mp m).elim (λm=>qt q (.inl m)) λm=>qt q (.inr (Zx0.mp m ▸ hp))
 have f:=hx.found F hj hle h0
 ⟨V++[p],_,_,rfl,nd,sh,by
  have:=Je (m:=TY) nd λx m=>(Zye.mp m).elim λq e=>e.2 ▸ Rn (sh q e.1).1
  rwa [Zyl] at this,(UZ hd _).symm ▸ Zyi (ZxX h2) (by decide),Bh hh (Zww _ (.head _)) λ_ m=>Zve _ m,.inr ⟨p.2,rfl,f.1,f.2,(qt p (.inr hp)).2⟩⟩
theorem Hs(n:Nat)(l:List Bool):ZV (.val (.lst [.str (enc a b l),.str (ZwY (enc a b l))])) (.int ((n%2:Nat):Int))=some (.str (Wr a b n l)):=by
 have h2:n%2<2:=ZxT _ (by decide)
 rw[Nn (n:=n%2) rfl rfl (Zyi (Zx5 h2) (by decide)),Wr]
 by_cases h:n%2=0
 ·rw[h];rfl
 ·rw[show n%2=1 from ZuR (ZwB h2) (ZqF h)];rfl
theorem EM{m:Nat}(H:Bz S c)(K:Wt a b)(F:Wf ws)  (hx:HX ws bk V Q s)(hh:∀x∈hd,∃p∈V,x=WH a b p)(hm:m=Q.length+8*(7-V.length))(h2:hd.length+m<=80)(hQ:Q≠[])
 (h:HS c a b ws bk U (pairs (tabOf a b 0 V)) hd (Q.map (ent a b))):Ends (Th c S (Zg 18)) 55 (Zg 18) U hW (λσ'=>∃m',m'<m/\yU c a b ws bk m' σ') (Nj c a b ws):=by
 obtain⟨j0,p,CT,aA,hle⟩:=vF (a:=a) (b:=b) hQ
 obtain⟨j,hj,DV⟩:=Ae K.ne (ZyH aA)
 have hp:=ZyH aA
 have p1:=hx.short p (.inr hp)
 have p2:p.2.length<=20:=Zyi (hx.len p (.inr hp)) (Zyi (Zxl (Zwf 2 hx.Ke) 3) (by decide))
 have ql:Q.length<=80:=Zyi (Zyi (ZyR _ _) (Zxc hm.symm)) (Zyi (Zwg _ _) h2)
 have hl:hd.length<=80:=Zyi (ZyR _ _) h2
 have tl:(tabOf a b 0 V).length<=Zyk:=U6 a b V 0 ▸ le_size hx.Ke rfl
 have hq:∀q∈V,q.1.length<=2:=λq m=>hx.short q (.inl m)
 refine zc H.min CT hj Pd (by rw[Zyl];exact le_size ql rfl) h λτ h=>zp H.mt H.I9 (Zyi ((ZA (a:=a) (b:=b) p.1).symm ▸ p1) (by decide:2<=5592405)) (Hs _ p.1)
  ⟨λx m=>Zyi (Aw K hq x m) (by decide),tl,Zyi (RN K p1) (by decide),Ck K p1 ▸ Mx K _ (Zyi p1 (by decide)),dD K p1,Mx K _ (Zyi p2 (by decide)),le_size hl rfl⟩ h λτ h u=>?_
 rw[Ao,U6] at h
 rw[U6] at u
 have hf:=Ou K (i:=0) (j:=V.length) p1 (V:=V) hq
 cases hv:V.find? (λq=>q.1==p.1) with
 | some v=>
   rw[hv] at hf
   have aU:v.1=p.1:=eq_of_beq (Zj2 (p:=λq:En Bool=>q.1==p.1) hv)
   rw[show laid (tabOf a b 0 V) (Wr a b V.length p.1) (enc a b p.2)=tabOf a b 0 V from by rw[laid,hf];rfl,hf] at h
   refine za H.I9 h u (by rw[pairs,Zyl,U6]) (by rw[pairs,Zyl];exact tl) (Oc hx hh hm h2 DV hle (Zv6 hv) aU (by rw[show WH a b v=.tup [.str (enc a b p.1),.str (enc a b v.2)] from by rw[WH,aU]];exact h.hs))
 | none=>
   rw[hv] at hf
   have hk:p.1∉V.map (·.1):=λm=>(Zye.mp m).elim λq e=>ZqY.mp hv q e.1 (beq_iff_eq.mpr e.2)
   rw[show laid (tabOf a b 0 V) (Wr a b V.length p.1) (enc a b p.2)=tabOf a b 0 (V++[p]) from by rw[laid,hf,Mn,Zxb];rfl,hf] at h
   have el:(pairs (tabOf a b 0 (V++[p]))).length=V.length+1:=by rw[pairs,Zyl,U6,UZ]
   refine ze H.I9 h u el (el ▸ le_size (ZxX hx.Ke) rfl) ?_
   by_cases h0:p.1=[]
   ·exact SR ⟨h.hs,h.size,h.rest.trans (by rw[h0];rfl),h.text⟩ (SE F hx hh hl DV hle hk h0)
   ·exact ET H K F h0 p1 p2 (Zyi (List.length_eraseIdx_le Q j) ql) h λτ h=>Ob F hx hh hm h2 DV hle hk h0 h
end
theorem ES   (H:Bz S c)  (K:Wt a b)  (F:Wf ws)(bk:Bool):
 YU (Th c S (Zg 18)) 60 (Zg 18) (Zi (λ_=>none) ["words","back"] [.lst ((ws.map (enc a b)).map .str),.int (XI bk)]) (X2 18) (Nj c a b ws):=by
 generalize hb:X2 18=bo
 conv at hb=>lhs;whnf
 subst hb
 have g1:=@VO c S (Zg 18)
 have g2:=@G2 c S (Zg 18)
 have g3:=@G1 c S (Zg 18)
 refine YU.next (σ':=((Zi (λ_=>none) ["words","back"] [.lst ((ws.map (enc a b)).map .str),.int (XI bk)]).set "table" (.tab c [])).set "heard" (.own [])) (rB (wJ tT)) ?_
 refine YU.next (by walk_at "ex") ?_
 refine EH (a:=a) (b:=b) (ws:=ws) (bk:=bk) H K F ⟨by walk_at "ex",by walk_at "ex",by walk_at "ex",by walk_at "ex",rfl⟩ λU hs=>?_
 have rl:(rows ws bk 4).length<=16:=Dx ws bk 4
 refine YU.while (P:=yU c a b ws bk) (Q:=λU=>∃V hd,HW c a b ws bk V [] hd (8*(7-V.length)) U) ((rows ws bk 4).length+56) (Zxo (ZxJ rl 56) (by rw[bZ];decide)) ⟨[],rows ws bk 4,[],hs,⟨0,HX.init bk F⟩,λx hx=>absurd hx ZxY,rfl,Zyi (Zxc (Zxb _)) (Zyi (ZxJ rl 56) (by decide:16+56<=80))⟩ (λm U hw=>?_) λU hw=>?_
 ·obtain⟨V,Q,hd,hs,⟨s,hx⟩,hh,hm,h2⟩:=hw
  have s3:=hs.waiting
  have ne:=gP (a:=a) (b:=b) (Q:=Q)
  cases Q with
  | nil=>
    replace ne:Ys .NotEq (.own (Zqm (ent a b) [])) (.val (.lst []))=some false:=ne
    rw[Zwx,Zxb] at hm
    exact .inl ⟨by walk_at "ex",V,hd,hs,⟨s,hx⟩,hh,hm ▸ (Zxb _).symm,hm ▸ h2⟩
  | cons q Q=>
    replace ne:Ys .NotEq (.own ((q::Q).map (ent a b))) (.val (.lst []))=some true:=ne
    exact .inr ⟨by walk_at "ex",EM H K F hx hh hm h2 (List.cons_ne_nil _ _) hs⟩
 ·obtain⟨V,hd,hs,⟨s,hx⟩,hh,hm,qG⟩:=hw
  have t1:U.last "table"=some (.val (.box (Z8 c) [] (pairs (tabOf a b 0 V)))):=WV hs.table rfl
  have t2:U.last "heard"=some (.val (.lst hd)):=WV hs.Qi rfl
  have s1:=hs.table;have s2:=hs.Qi
  exact YU.ret (d:=.tup [.box (Z8 c) [] (pairs (tabOf a b 0 V)),.lst hd,.none]) (Kb (qg (TM (as:=[.tab c (pairs (tabOf a b 0 V)),.own hd,.val .none]) (by walk_at "ex") ⟨rfl⟩) (by walk_at "ex")))
   ⟨V,hd,_,rfl,hx.nodup,λp hp=>⟨hx.short p (.inl hp),Zyi (hx.len p (.inl hp)) (Zyi (Zxl (Zwf 2 hx.Ke) 3) (by decide))⟩,hx.Ke,Zyi (ZyR _ _) (Zyi qG (by decide)),hh,.inl ⟨rfl,λu=>hx.none F⟩⟩
noncomputable def one(c:Nat):Str:=⟨#[c]⟩
noncomputable def Wd:List Nat:=[102,105,108,115,116,104,112,107,109]
noncomputable def blocks:List Nat:=[0,1,2,4,7,8,9,10,11,12]
noncomputable def WR(ch q:Nat):Nat:=if q=0 then ch else if q=1 then (if ch=107 then 8490 else ch-32) else 119808+52*blocks.getD (q-2) 0+ch-97
theorem PL  (h:l.length+m.length<=Zyk):YC .Add (.val (.lst l)) (.val (.lst m))=some (.lst (l++m)):=if_pos h
theorem kC:∀ch∈Wd,ZwY (one ch)=one (ch-32):=by decide +kernel
theorem nt  (h:0<=i/\i<=1114111):IU [.val (.int i)]=some (.str ⟨#[i.toNat]⟩):=if_pos h
theorem g8  :ZV (.val (.lst ds)) (.bool b)=ds[if b then 1 else 0]?:=rfl
structure PT(S:Sg):Prop where
 mt:∀nm x as,S.mt nm (.val (.str x)) as=Xx nm (.val (.str x)) as
 chr:∀as,S.cl "chr" as=IU as
 ord:∀as,S.cl "ord" as=FQ as
 len:∀d,S.cl "len" [.val d]=XO [.val d]
theorem Cg  (h:m<2):m=0∨m=1:=(Nat.eq_zero_or_pos m).imp id λh0=>ZuR (ZwB h) h0
theorem QU  {n:Nat}(h:n<=1000000000):ZV (.val (.lst l)) (.int (n:Int))=l[n]?:=Nn rfl rfl h
theorem vT:∀ch∈Wd,97<=ch/\ch<=122:=by decide
def Tp:List ZyF:=X2 15
section
variable {S:Sg}{ch q:Nat}{d:PV}
theorem gq(m1:∀nm x as,S.mt nm (.val (.str x)) as=Xx nm (.val (.str x)) as)(hc:ch∈Wd)(h2:q<2)(e3:ZV (.val (.lst [.str (one ch),.str (one (if ch=107 then 8490 else ch-32))])) (.int (q:Int))=some d):
 Gives (Tn S []) 60 (Zg 15) (Zi (λ_=>none) ["letter","q"] [.str (one ch),.int q]) Tp d:=by
 generalize hb:Tp=b
 conv at hb=>lhs;whnf
 subst hb
 have z1:=Ba (x:=one ch) (by decide:1<=5592405)
 rw[kC ch hc] at z1
 have d1:decide ((q:Int)<2)=true:=decide_eq_true (ZxQ.mpr h2)
 have e1:decide (one ch="k")=decide (ch=107):=decide_eq_decide.mpr ⟨λh=>List.head_eq_of_cons_eq (congrArg Zh h:[ch]=[107]),λh=>h ▸ rfl⟩
 have e2:ZV (.val (.lst [.str (one (ch-32)),.str "\u212a"])) (.bool (decide (ch=107)))=some (.str (one (if ch=107 then 8490 else ch-32))):=by
  rw[g8]
  by_cases h:ch=107
  ·rw[h];rfl
  ·rw[if_neg h,decide_eq_false h];rfl
 exact Gives.ret (by walk_at "ex")
theorem gf   (m2:∀as,S.cl "chr" as=IU as)(m3:∀as,S.cl "ord" as=FQ as)(h2:¬q<2)(e1:ZV (.val (.lst [.int 0,.int 1,.int 2,.int 4,.int 7,.int 8,.int 9,.int 10,.int 11,.int 12])) (.int ((q-2:Nat):Int))=some (.int (B:Nat)))
 (e4:IU [.val (.int (119808+52*(B:Nat)+(ch:Int)-97))]=some (.str x)):Gives (Tn S []) 60 (Zg 15) (Zi (λ_=>none) ["letter","q"] [.str (one ch),.int q]) Tp (.str x):=by
 generalize hb:Tp=b
 conv at hb=>lhs;whnf
 subst hb
 have d1:decide ((q:Int)<2)=false:=decide_eq_false λe=>h2 (ZxQ.mp e)
 have e0:(q:Int)-2=((q-2:Nat):Int):=(Zvw (ZwP h2)).symm
 have e2:YC .Mult (.val (.int 52)) (.val (.int (B:Nat)))=some (.int (52*(B:Nat))):=sr (by decide)
 have e3:FQ [.val (.str (one ch))]=some (.int ch):=rfl
 refine Gives.next (by walk_at "ex") ?_
 exact Gives.ret (by walk_at "ex")
end
theorem Pk{n:Nat}(h:n<10):ZV (.val (.lst [.int 0,.int 1,.int 2,.int 4,.int 7,.int 8,.int 9,.int 10,.int 11,.int 12])) (.int (n:Int))=some (.int (blocks.getD n 0:Nat))/\blocks.getD n 0<=12:=by
 have hl:n<blocks.length:=h
 have hb:∀n<10,blocks.getD n 0<=12:=by decide
 refine⟨?_,hb n h⟩
 rw[Nn (n:=n) rfl rfl (Zyi (Zx5 h) (by decide)),show ([.int 0,.int 1,.int 2,.int 4,.int 7,.int 8,.int 9,.int 10,.int 11,.int 12]:List PV)=blocks.map (λc:Nat=>PV.int c) from rfl,ZyQ,gD,gE hl];rfl
theorem Pj{B ch:Nat}(hB:B<=12)(hc:ch<=122):IU [.val (.int (119808+52*(B:Nat)+(ch:Int)-97))]=some (.str (one (119808+52*B+ch-97))):=by
 have e:(119808+52*(B:Nat)+(ch:Int)-97)=((119808+52*B+ch-97:Nat):Int):=(Zvw (m:=97) (n:=119808+52*B+ch) (Zyi (by decide:97<=119808) (Zyi (ZyR _ _) (ZyR _ _)))).symm
 rw[e,nt ⟨Zwn _,Zws.mpr (Zyi (ZvP _ _) (Zyi (Zxa (Zxl (Zwf 52 hB) _) hc) (by decide)))⟩];rfl
theorem L0  (H:PT S){ch q:Nat}(hc:ch∈Wd)(hq:q<12):run S 15 [] ["letter","q"] [.val (.str (one ch)),.val (.int q)]=some (.str (one (WR ch q))):=by
 refine Wk rfl ?_
 by_cases h2:q<2
 ·refine gq H.mt hc h2 ?_
  rcases Cg h2 with rfl |rfl
  ·exact QU (n:=0) (by decide)
  ·exact QU (n:=1) (by decide)
 ·have jy:q-2<10:=ZuX (ZwP h2) hq
  have b:=Pk jy
  rw[WR,if_neg (λe:q=0=>h2 (e ▸ by decide)),if_neg (λe:q=1=>h2 (e ▸ by decide))]
  exact gf H.chr H.ord h2 b.1 (Pj b.2 (vT ch hc).2)
noncomputable def ZK(l:List Nat):Str:=⟨l.toArray⟩
theorem VJ(l:List Nat):Zh (ZK l)=l:=by simp [Zh,ZK]
theorem XC(l:List Nat):(ZK l).length=l.length:=by rw[<-Z7,VJ]
theorem Bi(l m:List Nat):ZK l++ZK m=ZK (l++m):=Qe (by rw[U9,VJ,VJ,VJ])
theorem qe  {n c:Nat}(h:l[n]?=some c)(hn:n<=1000000000):ZV (.val (.str (ZK l))) (.int (n:Int))=some (.str (ZK [c])):=by
 have h1:=wI (i:=(n:Int)) (by lia) (by lia)
 obtain⟨h2,h3⟩:=ZxF.mp h
 have h4:seqIndex? (n:Int) (ZK l).length=some n:=by
  rw[XC]
  have h5:¬((n:Int)<0):=by lia
  have h6:(decide (0<=(n:Int))&&decide ((n:Int)<(l.length:Int)))=true:=by rw[ZyW,decide_eq_true_eq,decide_eq_true_eq];lia
  simp only[seqIndex?,h5,if_false,h6,if_true,Zjx]
 have h5:(ZK l).cps[n]?=some c:=by
  show l.toArray[n]?=_
  rw[List.getElem?_toArray,h]
 rw[tf,if_pos h1,h4,Zy2,h5];rfl
theorem fj   {sc:Zy6}    (h1:Y0 "list"=true)(h2:Ym sc "list"=true)(h3:Ym sc "range"=true):
 ev S (n+4) sc U (.Call (.Name "list" p) [.Call (.Name "range" p2) [.Constant (.int 65024) l1 p3,.Constant (.int 65040) l2 p4] [] p5] [] p6)=some (.val (.lst (ZQ 65024 65040))):=by
 refine (if_pos (by rw[h1,h2];rfl)).trans ((if_pos (by rw[h3];rfl)).trans ?_)
 show ((Xl S (n+3) sc U [.Constant (.int 65024) l1 p3,.Constant (.int 65040) l2 p4]).bind Cv)=_
 rw[show Xl S (n+3) sc U [.Constant (.int 65024) l1 p3,.Constant (.int 65040) l2 p4]=some [.val (.int 65024),.val (.int 65040)] from VP rfl P2 (VP rfl P2 Ur)]
 rfl
theorem Gives.dC   {sc:Zy6}  {st:ZyF}   (P:Zx->Prop)(h:∃σ',Xj T n sc U st=some (.Z4,σ')/\P σ')(h2:∀σ',P σ'->Gives T n sc σ' r d):Gives T (n+1) sc U (st::r) d:=by
 obtain⟨σ',e,hp⟩:=h
 exact Gives.next e (h2 _ hp)
structure Y5 where
 a:Nat
 b:Nat
 jo:List Nat
 me:List (List Bool)
noncomputable def Y5.ab(K:Y5)(i:Nat):Nat:=if i=0 then K.a else K.b
structure II(K:Y5):Prop where
 ok:Wt K.a K.b
 la:K.a∈Wd
 lb:K.b∈Wd
 jo:K.jo.length=3
 me:K.me.length=3
 size:∀w∈K.me,0<w.length/\w.length<=3
noncomputable def VH:List Nat:=[173,847,6150,6155,6156,6157,8203,8204,8205,8288,65279,65024,65025,65026,65027,65028,65029,65030,65031,65032,65033,65034,65035,65036,65037,65038,65039]
def Yx(K:Y5)(n:Nat):List Nat × List Bool:=if n%5<2 then ([WR (K.ab (n%5)) (n/75%12)],[n%5==1]) else ([K.jo.getD (n%5-2) 0],K.me.getD (n%5-2) [])
def ZX(K:Y5)(n:Nat):List Nat × List Bool:=
 if 0<n/5%5/\(Yx K n).2.length<3 then
  (if n/5%5/3=0 then ((Yx K n).1++[WR (K.ab ((n/5%5-1)%2)) (n/75/12%12)],(Yx K n).2++[(n/5%5-1)%2==1])
   else (WR (K.ab ((n/5%5-1)%2)) (n/75/12%12)::(Yx K n).1,((n/5%5-1)%2==1)::(Yx K n).2))
 else Yx K n
noncomputable def UJ(n:Nat):Nat:=VH.getD (n/75%27) 0
def QV(K:Y5)(n:Nat):List Nat:=if n/25%3=0 then (ZX K n).1 else if n/25%3=1 then UJ n::(ZX K n).1 else (ZX K n).1.take 1++UJ n::(ZX K n).1.drop 1
theorem Cm(K:Y5)  (h:m<2):enc K.a K.b [m==1]=ZK [K.ab m]:=by
 rcases (by lia:m=0∨m=1) with rfl |rfl<;>rfl
theorem Mf{K:Y5}(G:II K)(m:Nat):K.ab m∈Wd:=by
 unfold Y5.ab;split
 ·exact G.la
 ·exact G.lb
structure TX(S:Sg):Prop extends PT S where
 letter:∀ch q,ch∈Wd->q<12->S.cl "_law_letter" [.val (.str (ZK [ch])),.val (.int (q:Nat))]=some (.str (ZK [WR ch q]))
def WB(K:Y5):PV:=.tup [.str (ZK [K.a,K.b]),.str (ZK K.jo),.lst ((K.me.map (enc K.a K.b)).map .str)]
theorem NP(K:Y5){m:Nat}(h:m<2):ZV (.val (.str (ZK [K.a,K.b]))) (.int (m:Int))=some (.str (ZK [K.ab m])):=by
 rcases Cg h with rfl |rfl<;>exact qe rfl (by decide)
theorem uw{m:Nat}(h:m<2)(x y:PV):ZV (.val (.lst [x,y])) (.int (m:Int))=some (if m=0 then x else y):=by
 rcases Cg h with rfl |rfl<;>exact QU (by decide)
theorem zq{m:Nat}(h:m<3)(x y w:PV):ZV (.val (.lst [x,y,w])) (.int (m:Int))=some (if m=0 then x else if m=1 then y else w):=by
 match m,h with
 |0,_=>exact QU (by decide)
 |1,_=>exact QU (n:=1) (by decide)
 |2,_=>exact QU (n:=2) (by decide)
theorem uv{m:Nat}(h:m<27):ZV (.val (.lst ([.int 173,.int 847,.int 6150,.int 6155,.int 6156,.int 6157,.int 8203,.int 8204,.int 8205,.int 8288,.int 65279]++ZQ 65024 65040))) (.int (m:Int))=some (.int (VH.getD m 0:Nat)):=by
 have e:([.int 173,.int 847,.int 6150,.int 6155,.int 6156,.int 6157,.int 8203,.int 8204,.int 8205,.int 8288,.int 65279]++ZQ 65024 65040)=VH.map λc:Nat=>PV.int c:=by rfl
 have hl:m<VH.length:=h
 rw[Nn (n:=m) rfl rfl (Zyi (Zx5 h) (by decide)),e,ZyQ,gD,gE hl];rfl
theorem yw{m:Nat}(h:m<27):IU [.val (.int (VH.getD m 0:Nat))]=some (.str (ZK [VH.getD m 0])):=by
 have hl:∀i<27,VH.getD i 0<=1114111:=by decide
 rw[nt ⟨Zwn _,Zws.mpr (hl m h)⟩];rfl
section
variable (K:Y5)(n m s q:Nat)(z:Str)(X Y:Str)(U:Zx)
structure jd:Prop where
 n:U "n"=some (.val (.int n))
 two:U "two"=some (.val (.str (ZK [K.a,K.b])))
 joined:U "joined"=some (.val (.str (ZK K.jo)))
 means:U "means"=some (.val (.lst ((K.me.map (enc K.a K.b)).map .str)))
 main:U "main"=some (.val (.int m))
 side:U "side"=some (.val (.int s))
 q:U "q"=some (.val (.int q))
 nothing:U "nothing"=some (.val (.str z))
structure jf:Prop where
 n:U "n"=some (.val (.int n))
 two:U "two"=some (.val (.str (ZK [K.a,K.b])))
 side:U "side"=some (.val (.int s))
 q:U "q"=some (.val (.int q))
 nothing:U "nothing"=some (.val (.str z))
 signs:U "signs"=some (.val (.str X))
 word:U "word"=some (.val (.str Y))
structure yV:Prop where
 n:U "n"=some (.val (.int n))
 nothing:U "nothing"=some (.val (.str z))
 signs:U "signs"=some (.val (.str X))
 word:U "word"=some (.val (.str Y))
end
def lB:List ZyF:=X2 16
section
variable {S:Sg}{K:Y5}{n m s q u:Nat}{z X Y k l:Str}{U:Zx}{d:PV}
theorem OR(H:TX S)(n:Nat)(qq:∀U,jd K n (n%5) (n/5%5) (n/75) (ZK [VH.getD (n/75%27) 0]) U->Gives (Tn S []) 57 (Zg 16) U (lB.drop 3) d):Gives (Tn S []) 60 (Zg 16) (Zi (λ_=>none) ["n","kin"] [.int n,WB K]) lB d:=by
 generalize hb:lB=b at qq ⊢
 conv at hb=>lhs;whnf
 subst hb
 have m2:=H.chr
 have r1:=@fj S
 have d5:=dv (y:=5) 5 rfl (by decide) (λx=>rfl)
 have d75:=dv (y:=75) 75 rfl (by decide) (λx=>rfl)
 have e5:=md (y:=5) 5 rfl (by decide)
 have e27:=md (y:=27) 27 rfl (by decide)
 have n1:=uv (m:=n/75%27) (ZxT _ (by decide))
 have n2:=yw (m:=n/75%27) (ZxT _ (by decide))
 simp only[ZwE,Zw1] at n1
 have n3:(11:Nat)+16<=Zyk:=by decide
 have n4:(ZQ 65024 65040).length=16:=rfl
 have kp:WB K=.tup [.str (ZK [K.a,K.b]),.str (ZK K.jo),.lst ((K.me.map (enc K.a K.b)).map .str)]:=rfl
 have bl:=@PL
 refine Gives.dC (P:=λU=>U "n"=some (.val (.int n))/\U "two"=some (.val (.str (ZK [K.a,K.b])))/\U "joined"=some (.val (.str (ZK K.jo)))/\U "means"=some (.val (.lst ((K.me.map (enc K.a K.b)).map .str)))) ⟨Zi (Zi (λ_=>none) ["n","kin"] [.int n,WB K]) ["two","joined","means"] [.str (ZK [K.a,K.b]),.str (ZK K.jo),.lst ((K.me.map (enc K.a K.b)).map .str)],by walk_at "ex",by walk_at "ex",by walk_at "ex",by walk_at "ex",by walk_at "ex"⟩ ?_
 clear kp
 intro U ⟨s1,s2,s3,s4⟩
 refine Gives.next (σ':=Zi U ["main","side","q"] [.int ((n%5:Nat):Int),.int ((n/5%5:Nat):Int),.int ((n/75:Nat):Int)]) (by walk_at "ex") ?_
 generalize hv:VH.getD (n/75%27) 0=v at n1 n2 qq
 refine Gives.next (σ':=(Zi U ["main","side","q"] [.int ((n%5:Nat):Int),.int ((n/5%5:Nat):Int),.int ((n/75:Nat):Int)]).set "nothing" (.val (.str (ZK [v])))) (by walk_at "ex") (qq _ ?_)
 clear n1 n2 n3 n4 r1 m2 bl
 exact⟨by walk_at "ex",by walk_at "ex",by walk_at "ex",by walk_at "ex",by walk_at "ex",by walk_at "ex",by walk_at "ex",by walk_at "ex"⟩
theorem OE(c:Bool)(hd:decide ((m:Int)<2)=c)(i1:c=true->ZV (.val (.str (ZK [K.a,K.b]))) (.int (m:Int))=some (.str Y)/\S.cl "_law_letter" [.val (.str Y),.val (.int ((q%12:Nat):Int))]=some (.str X))
 (i2:c=false->ZV (.val (.str (ZK K.jo))) (.int ((m:Int)-2))=some (.str X)/\ZV (.val (.lst ((K.me.map (enc K.a K.b)).map .str))) (.int ((m:Int)-2))=some (.str Y))
 (h:jd K n m s q z U) (qq:∀ρ,jf K n s q z X Y ρ->Gives (Tn S []) 56 (Zg 16) ρ (lB.drop 4) d):Gives (Tn S []) 57 (Zg 16) U (lB.drop 3) d:=by
 generalize hb:lB.drop 3=b
 conv at hb=>lhs;whnf
 subst hb
 have t1:=h.n;have t2:=h.two;have t3:=h.joined;have t4:=h.means;have t5:=h.main;have t6:=h.side;have t7:=h.q;have t8:=h.nothing
 have e12:=md (y:=12) 12 rfl (by decide)
 refine Gives.next (σ':=Zi U ["signs","word"] [.str X,.str Y]) ?_ (qq _ ⟨by walk_at "ex",by walk_at "ex",by walk_at "ex",by walk_at "ex",by walk_at "ex",by walk_at "ex",by walk_at "ex"⟩)
 cases c with
 | true=>
   obtain⟨f1,f2⟩:=i1 rfl
   clear i1 i2
   walk_at "ex"
 | false=>
   obtain⟨f1,f2⟩:=i2 rfl
   clear i1 i2
   walk_at "ex"
theorem OS(m4:∀d,S.cl "len" [.val d]=XO [.val d])(hc:0<s->¬Y.length<3)(h:jf K n s q z X Y U)(zY:Y.length<=Zyk)(qq:∀ρ,yV n z X Y ρ->Gives (Tn S []) 55 (Zg 16) ρ (lB.drop 5) d):Gives (Tn S []) 56 (Zg 16) U (lB.drop 4) d:=by
 generalize hb:lB.drop 4=b
 conv at hb=>lhs;whnf
 subst hb
 have t3:=h.side;have t7:=h.word
 refine Gives.next (σ':=U) ?_ (qq _ ⟨h.n,h.nothing,h.signs,h.word⟩)
 by_cases h1:0<s
 ·have d1:decide ((0:Int)<(s:Int))=true:=decide_eq_true (ZuE.mpr h1)
  have d2:decide ((Y.length:Int)<3)=false:=decide_eq_false λe=>hc h1 (ZxQ.mp e)
  walk_at "ex"
 ·have d1:decide ((0:Int)<(s:Int))=false:=decide_eq_false λe=>h1 (ZuE.mp e)
  walk_at "ex"
theorem OL{pick:PV->PV->PV}  (m4:∀d,S.cl "len" [.val d]=XO [.val d])(h1:0<s)(h2:Y.length<3)(i1:ZV (.val (.str (ZK [K.a,K.b]))) (.int (((s-1)%2:Nat):Int))=some (.str k))(i2:S.cl "_law_letter" [.val (.str k),.val (.int ((q/12%12:Nat):Int))]=some (.str l))
 (it:∀x y,ZV (.val (.lst [x,y])) (.int ((s/3:Nat):Int))=some (pick x y)) (y1:X.length+l.length<=Zyk) (y2:l.length+X.length<=Zyk) (y3:Y.length+k.length<=Zyk) (y4:k.length+Y.length<=Zyk) (zY:Y.length<=Zyk)
 (p1:pick (.str (X++l)) (.str (l++X))=.str X') (p2:pick (.str (Y++k)) (.str (k++Y))=.str Y') (h:jf K n s q z X Y U) (qq:∀ρ,yV n z X' Y' ρ->Gives (Tn S []) 55 (Zg 16) ρ (lB.drop 5) d):Gives (Tn S []) 56 (Zg 16) U (lB.drop 4) d:=by
 generalize hb:lB.drop 4=b
 conv at hb=>lhs;whnf
 subst hb
 have c1:=h.n;have c2:=h.two;have c3:=h.side;have c4:=h.q;have c5:=h.nothing;have c6:=h.signs;have c7:=h.word
 have d1:decide ((0:Int)<(s:Int))=true:=decide_eq_true (ZuE.mpr h1)
 have d2:decide ((Y.length:Int)<3)=true:=decide_eq_true (ZxQ.mpr h2)
 have hs:(s:Int)-1=((s-1:Nat):Int):=(Zvw h1).symm
 have d12:=dv (y:=12) 12 rfl (by decide) (λx=>rfl)
 have d3:=dv (y:=3) 3 rfl (by decide) (λx=>rfl)
 have e12:=md (y:=12) 12 rfl (by decide)
 have e2:=md (y:=2) 2 rfl (by decide)
 have bs:=@CP
 have j1:=it (.str (X++l)) (.str (l++X))
 have j2:=it (.str (Y++k)) (.str (k++Y))
 rw[p1] at j1
 rw[p2] at j2
 clear it p1 p2
 exact Gives.next (σ':=Zi ((U.set "letter" (.val (.str k))).set "sign" (.val (.str l))) ["signs","word"] [.str X',.str Y']) (by walk_at "ex") (qq _ ⟨by walk_at "ex",by walk_at "ex",by walk_at "ex",by walk_at "ex"⟩)
theorem uz  {r:List Nat}{w:Str}  (hX:X=ZK (c::r))(hr:r.length<=1)(it:ZV (.val (.lst [.str (ZK (c::r)),.str (ZK (u::c::r)),.str (ZK (c::u::r))])) (.int ((n/25%3:Nat):Int))=some x)
 (h:yV n (ZK [u]) X w U):Gives (Tn S []) 55 (Zg 16) U (lB.drop 5) (.tup [x,.str (ZK [u]),.str w]):=by
 generalize hb:lB.drop 5=b
 conv at hb=>lhs;whnf
 subst hb
 subst hX
 have s1:=h.n;have s2:=h.nothing;have s3:=h.signs;have s4:=h.word
 have d25:=dv (y:=25) 25 rfl (by decide) (λx=>rfl)
 have e3:=md (y:=3) 3 rfl (by decide)
 have bs:=@CP
 have sa:=Bi
 have i0:ZV (.val (.str (ZK (c::r)))) (.int 0)=some (.str (ZK [c])):=qe (n:=0) rfl (by decide)
 have sl:Yg (some 1) none (ZK (c::r))=ZK r:=by
  apply Qe
  rw[Yg,Cb,VJ]
  show ZZ _ _ (Zh (ZK (c::r)))=_
  rw[VJ,show (1:Int)=((1:Nat):Int) from rfl,KL (by simp)];rfl
 have zz:∀m,m<=3->m<=Zyk:=λm h=>Zyi h (by decide)
 have y0:(ZK (c::r)).length<=Zyk:=by rw[XC];exact zz _ (Zyi (ZxX hr) (by decide))
 have y1:(ZK [u]).length+(ZK (c::r)).length<=Zyk:=by rw[XC,XC];exact zz _ (Zxa (Zy7 1) (ZxX hr))
 have y2:(ZK [c]).length+(ZK [u]).length<=Zyk:=by rw[XC,XC];exact zz _ (by decide:1+1<=3)
 have y3:(ZK [c,u]).length+(ZK r).length<=Zyk:=by rw[XC,XC];exact zz _ (Zxl hr 2)
 have l1:U.last "n"=some (.val (.int n)):=WV s1 rfl
 have l2:U.last "nothing"=some (.val (.str (ZK [u]))):=WV s2 rfl
 have l3:U.last "signs"=some (.val (.str (ZK (c::r)))):=WV s3 rfl
 have l4:U.last "word"=some (.val (.str w)):=WV s4 rfl
 exact Gives.ret (by walk_at "ex")
theorem CY(G:II K)(n:Nat):(Yx K n).1.length=1/\(Yx K n).2.length<=3:=by
 unfold Yx;split
 ·exact⟨rfl,(by decide:1<=3)⟩
 ·refine⟨rfl,?_⟩
  show (K.me.getD (n%5-2) []).length<=3
  rw[gD]
  cases e:K.me[n%5-2]? with
  |none=>exact ZyS _
  |some w=>exact (G.size w (ZyH e)).2
theorem MQ(G:II K)(n:Nat):∃c r,(ZX K n).1=c::r/\r.length<=1:=by
 have h:=(CY G n).1
 unfold ZX
 generalize Yx K n=B at h ⊢
 match hB:B.1,h with
 | [c],_=>
   split
   ·split
    ·exact⟨_,_,rfl,Zy7 1⟩
    ·exact⟨_,_,rfl,Zy7 1⟩
   ·exact⟨_,_,hB,ZyS 1⟩
theorem OH(H:TX S)(G:II K)(n:Nat)(h:jd K n (n%5) (n/5%5) (n/75) z U)(qq:∀ρ,yV n z (ZK (ZX K n).1) (enc K.a K.b (ZX K n).2) ρ->Gives (Tn S []) 55 (Zg 16) ρ (lB.drop 5) d):Gives (Tn S []) 57 (Zg 16) U (lB.drop 3) d:=by
 have bL:∀m,m%12<12:=λm=>ZxT _ (by decide)
 have m5:n%5<5:=ZxT _ (by decide)
 have b:=CY G n
 refine OE (X:=ZK (Yx K n).1) (Y:=enc K.a K.b (Yx K n).2) (decide (((n%5:Nat):Int)<2)) rfl (λe=>?_) (λe=>?_) h λτ h=>?_
 ·have hm:n%5<2:=ZxQ.mp (of_decide_eq_true e)
  rw[show Yx K n=([WR (K.ab (n%5)) (n/75%12)],[n%5==1]) from if_pos hm,Cm K hm]
  exact⟨NP K hm,H.letter _ _ (Mf G _) (bL _)⟩
 ·have hm:¬n%5<2:=λh=>of_decide_eq_false e (ZxQ.mpr h)
  have h3:n%5-2<3:=ZuX (ZwP hm) m5
  have hj:n%5-2<K.jo.length:=G.jo.symm ▸ h3
  have hk:n%5-2<K.me.length:=G.me.symm ▸ h3
  rw[show Yx K n=([K.jo.getD (n%5-2) 0],K.me.getD (n%5-2) []) from if_neg hm,show ((n%5:Nat):Int)-2=((n%5-2:Nat):Int) from (Zvw (ZwP hm)).symm]
  have z9:n%5-2<=1000000000:=Zyi (Zx5 h3) (by decide)
  exact⟨qe (by rw[gD,gE hj];rfl) z9,by
   show _=some (PV.str (enc K.a K.b (K.me.getD (n%5-2) [])))
   rw[Nn (n:=n%5-2) rfl rfl z9,ZyQ,ZyQ,gD,gE hk];rfl⟩
 ·have el:(enc K.a K.b (Yx K n).2).length=(Yx K n).2.length:=ZA _
  have zY:(enc K.a K.b (Yx K n).2).length<=Zyk:=el ▸ Zyi b.2 (by decide)
  by_cases hc:0<n/5%5/\(Yx K n).2.length<3
  ·have hm:(n/5%5-1)%2<2:=ZxT _ (by decide)
   have h3:n/5%5/3<2:=Nat.div_lt_of_lt_mul (ZxM (ZxT _ (by decide)) (by decide:5<=3*2))
   have zz:∀{m},m<=4->m<=Zyk:=λh=>Zyi h (by decide)
   have eF:ZX K n=_:=if_pos hc
   rw[eF] at qq
   generalize Yx K n=B at *
   have l1:(ZK B.1).length=1:=(XC _).trans b.1
   refine OL (k:=ZK [K.ab ((n/5%5-1)%2)]) (l:=ZK [WR (K.ab ((n/5%5-1)%2)) (n/75/12%12)]) H.len hc.1 (el ▸ hc.2) (NP K hm) (H.letter _ _ (Mf G _) (bL _)) (uw h3) ?_ ?_ ?_ ?_ zY ?_ ?_ h qq
   ·rw[l1,XC];exact zz (by decide:1+1<=4)
   ·rw[l1,XC];exact zz (by decide:1+1<=4)
   ·rw[el,XC];exact zz (ZxJ b.2 1)
   ·rw[el,XC];exact zz (Zxl b.2 1)
   ·by_cases e:n/5%5/3=0
    ·rw[if_pos e,if_pos e,Bi]
    ·rw[if_neg e,if_neg e,Bi];rfl
   ·rw[<-Cm K hm,GO,GO]
    by_cases e:n/5%5/3=0
    ·rw[if_pos e,if_pos e]
    ·rw[if_neg e,if_neg e];rfl
  ·have eF:ZX K n=Yx K n:=if_neg hc
   rw[eF] at qq
   exact OS H.len (λh1 h2=>hc ⟨h1,el ▸ h2⟩) h zY qq
end
theorem SD  (H:TX S){K:Y5}(G:II K)(n:Nat):run S 16 [] ["n","kin"] [.val (.int n),.val (WB K)]=
 some (.tup [.str (ZK (QV K n)),.str (ZK [UJ n]),.str (enc K.a K.b (ZX K n).2)]):=
 Wk rfl (OR H n λ_ h=>OH H G n h λ_ h=>by
  obtain⟨c,r,e,hr⟩:=MQ G n
  refine uz (c:=c) (r:=r) (congrArg ZK e) hr ((zq (ZxT _ (by decide)) _ _ _).trans ?_) h
  unfold QV
  rw[e]
  by_cases h0:n/25%3=0
  ·rw[if_pos h0,if_pos h0]
  ·rw[if_neg h0,if_neg h0]
   by_cases h1:n/25%3=1
   ·rw[if_pos h1,if_pos h1]
   ·rw[if_neg h1,if_neg h1];rfl)
theorem HU:∀(l:List Str)(n s:Nat),(∀x∈l,x.length<=100)->l.foldl (λacc x=>acc+x.length+s) n<=n+l.length*(100+s)
 |[],n,s,_=>by simp
 | x::l,n,s,h=>by
   have h1:=h x (by simp)
   have:=HU l (n+x.length+s) s λy hy=>h y (by simp [hy])
   rw[Zw0,Zy4,Nat.add_mul];lia
theorem GH   (hs:sep.length<=100)(hl:l.length<=100)(h:∀x∈l,x.length<=100):Zub sep l=true:=by
 have h1:=HU l 0 sep.length h
 have h2:l.length*(100+sep.length)<=100*200:=ZjQ hl (by lia)
 have h3:l.toArray.foldl (λacc x=>acc+x.length+sep.length) 0=l.foldl (λacc x=>acc+x.length+sep.length) 0:=by simp
 unfold Zub Builtin.Str.tooLong
 rw[h3,Zxg,decide_eq_false_iff_not,Zx1]
 lia
theorem Df :∀l:List (List Bool),ZwS "" (l.map (enc a b))=enc a b l.flatten:=by
 intro l
 show Builtin.Str.glued "" (l.map (enc a b))=_
 rw[StrLaws.glued_eq_join]
 induction l with
 |nil=>rfl
 | cons x l ih=>
   cases l with
   |nil=>show enc a b x=_;simp
   | cons y l=>
     show enc a b x++""++Str.join "" ((y::l).map (enc a b))=_
     have e:(x::y::l).flatten=x++(y::l).flatten:=rfl
     rw[ih,e,<-GO]
     congr 1
noncomputable def Wo:List Y5:=[⟨102,105,[64256,64257,64259],[[false,false],[false,true],[false,false,true]]⟩,⟨102,108,[64256,64258,64260],[[false,false],[false,true],[false,false,true]]⟩,
 ⟨115,116,[223,64261,64262],[[false,false],[false,true],[false,true]]⟩,⟨104,112,[13259,13271,8459],[[false,true],[true,false],[false]]⟩,⟨107,109,[13261,13262,8499],[[false,false],[false,true],[true]]⟩]
theorem J7:∀K∈Wo,II K:=by
 intro K hK
 simp only[Wo,ZyT,ZxY,or_false] at hK
 obtain⟨k1,k2,k3,k4,k5⟩:=ti
 rcases hK with rfl |rfl |rfl |rfl |rfl
 ·exact⟨k1,by decide,by decide,rfl,rfl,by decide⟩
 ·exact⟨k2,by decide,by decide,rfl,rfl,by decide⟩
 ·exact⟨k3,by decide,by decide,rfl,rfl,by decide⟩
 ·exact⟨k4,by decide,by decide,rfl,rfl,by decide⟩
 ·exact⟨k5,by decide,by decide,rfl,rfl,by decide⟩
def Vs(b3:Int->Option Str)(c:Nat):Str:=(b3 c).getD (ZyU (ZK [c]))
structure Nq(b1:Int->Bool)(b3:Int->Option Str):Prop where
 letter:∀ch∈Wd,∀q,q<12->Vs b3 (WR ch q)=ZK [ch]/\b1 (WR ch q:Nat)=false
 joined:∀K∈Wo,∀j,j<3->Vs b3 (K.jo.getD j 0)=enc K.a K.b (K.me.getD j [])/\b1 (K.jo.getD j 0:Nat)=false
 VH:∀c∈VH,b1 (c:Nat)=true
section
variable {b1:Int->Bool}{b3:Int->Option Str}(G:Nq b1 b3){K:Y5}(hK:K∈Wo)(n:Nat)
include G hK
def nG(b1:Int->Bool)(b3:Int->Option Str)(K:Y5)(F:List Nat × List Bool):Prop:=∃ps:List (Nat × List Bool),F.1=ps.map (·.1)/\F.2=(ps.map (·.2)).flatten/\∀p∈ps,Vs b3 p.1=enc K.a K.b p.2/\b1 (p.1:Nat)=false/\p.2.length<=3
theorem RH(m q:Nat)(hm:m<2)(hq:q<12):Vs b3 (WR (K.ab m) q)=enc K.a K.b [m==1]/\b1 (WR (K.ab m) q:Nat)=false:=by
 have:=G.letter (K.ab m) (Mf (J7 K hK) m) q hq
 rw[Cm K hm];exact this
theorem uD:nG b1 b3 K (Yx K n):=by
 unfold Yx
 split
 ·rename_i h
  have:=RH G hK (n%5) (n/75%12) h (by lia)
  exact⟨[(WR (K.ab (n%5)) (n/75%12),[n%5==1])],rfl,rfl,λp hp=>by simp at hp;rw[hp];exact⟨this.1,this.2,(show 1<=3 by decide)⟩⟩
 ·have g:=J7 K hK
  have hm:n%5-2<K.me.length:=by rw[g.me];lia
  have:=G.joined K hK (n%5-2) (by lia)
  refine⟨[(K.jo.getD (n%5-2) 0,K.me.getD (n%5-2) [])],rfl,by simp,λp hp=>?_⟩
  simp only[Zx0] at hp
  rw[hp]
  exact⟨this.1,this.2,(g.size (K.me.getD (n%5-2) []) (by rw[gD,gE hm];exact ZxG hm)).2⟩
theorem HY:nG b1 b3 K (ZX K n):=by
 obtain⟨ps,e1,e2,h⟩:=uD G hK n
 have l:=RH G hK ((n/5%5-1)%2) (n/75/12%12) (by lia) (by lia)
 have hl:([(n/5%5-1)%2==1]:List Bool).length<=3:=(show 1<=3 by decide)
 unfold ZX
 split
 ·split
  ·refine⟨ps++[(WR (K.ab ((n/5%5-1)%2)) (n/75/12%12),[(n/5%5-1)%2==1])],by simp [e1],by simp [e2],λp hp=>?_⟩
   rcases ZyN.mp hp with hp |hp
   ·exact h p hp
   ·simp only[Zx0] at hp;rw[hp];exact⟨l.1,l.2,hl⟩
  ·refine⟨(WR (K.ab ((n/5%5-1)%2)) (n/75/12%12),[(n/5%5-1)%2==1])::ps,by simp [e1],by simp [e2],λp hp=>?_⟩
   rcases ZyT.mp hp with hp |hp
   ·rw[hp];exact⟨l.1,l.2,hl⟩
   ·exact h p hp
 ·exact⟨ps,e1,e2,h⟩
theorem NT:b1 (UJ n:Nat)=true:=by
 refine G.VH _ ?_
 have hl:n/75%27<VH.length:=by show _<27;lia
 rw[UJ,gD,gE hl];exact ZxG hl
theorem Bs:∀c∈(ZX K n).1,b1 (c:Nat)=false:=λc hc=>by
 obtain⟨ps,e1,_,h⟩:=HY G hK n
 rw[e1] at hc
 obtain⟨p,hp,rfl⟩:=Zye.mp hc
 exact (h p hp).2.1
theorem uy  (h:c∈QV K n):c=UJ n∨c∈(ZX K n).1:=by
 unfold QV at h
 split at h
 ·exact .inr h
 ·split at h
  ·exact ZyT.mp h
  ·rcases ZyN.mp h with h |h
   ·exact .inr (List.mem_of_mem_take h)
   ·rcases ZyT.mp h with h |h
    ·exact .inl h
    ·exact .inr (List.mem_of_mem_drop h)
theorem gm  (h:c∈QV K n):b1 (c:Nat)=decide (c=UJ n):=by
 rcases uy G hK n h with rfl |h
 ·rw[NT G hK n,decide_eq_true rfl]
 ·rw[Bs G hK n c h]
  symm
  rw[decide_eq_false_iff_not]
  rintro rfl
  have:=NT G hK n
  rw[Bs G hK n _ h] at this
  cases this
theorem SA:(QV K n).filter (λc=>decide (c≠UJ n))=(ZX K n).1:=by
 have h1:∀l:List Nat,(∀c∈l,c∈(ZX K n).1)->l.filter (λc=>decide (c≠UJ n))=l:=λl hl=>by
  rw[List.filter_eq_self]
  intro c hc
  rw[decide_eq_true_iff]
  rintro rfl
  have:=NT G hK n
  rw[Bs G hK n _ (hl _ hc)] at this
  cases this
 unfold QV
 split
 ·exact h1 _ λc h=>h
 ·split
  ·rw[Zw5 (by simp)];exact h1 _ λc h=>h
  ·rw[ZqD,Zw5 (by simp),<-ZqD,Zwl];exact h1 _ λc h=>h
theorem OT:ZwS "" ((ZX K n).1.map (Vs b3))=enc K.a K.b (ZX K n).2/\Zub "" ((ZX K n).1.map (Vs b3))=true:=by
 obtain⟨ps,e1,e2,h⟩:=HY G hK n
 have e:(ZX K n).1.map (Vs b3)=(ps.map (·.2)).map (enc K.a K.b):=by
  rw[e1,ZyM,ZyM]
  exact Zw6 λp hp=>(h p hp).1
 have hl:ps.length<=2:=by
  have:(ZX K n).1.length<=2:=by
   have hb:(Yx K n).1.length=1:=by unfold Yx;split<;>rfl
   unfold ZX
   split
   ·split
    ·rw[Zyn,hb];exact Zy7 2
    ·rw[Zy4,hb];exact Zy7 2
   ·rw[hb];decide
  rw[e1,Zyl] at this;exact this
 rw[e]
 refine⟨by rw[Df,<-e2],GH (by decide) (by simp;lia) λx hx=>?_⟩
 obtain⟨w,hw,rfl⟩:=Zye.mp hx
 obtain⟨p,hp,rfl⟩:=Zye.mp hw
 rw[ZA]
 exact Zyi (h p hp).2.2 (by decide)
end
theorem EP{K:Y5}(G:II K)(n:Nat):0<(ZX K n).2.length/\(ZX K n).2.length<=3:=by
 have b1:(Yx K n).2.length<=3/\0<(Yx K n).2.length:=by
  unfold Yx;split
  ·exact⟨(show 1<=3 by decide),(show 0<1 by decide)⟩
  ·have hm:n%5-2<K.me.length:=by rw[G.me];lia
   have hw:=G.size (K.me.getD (n%5-2) []) (by rw[gD,gE hm];exact ZxG hm)
   exact⟨hw.2,hw.1⟩
 unfold ZX
 split
 ·split
  ·simp;lia
  ·simp;lia
 ·exact⟨b1.2,b1.1⟩
theorem Oy(K:Y5)(n:Nat):(ZX K n).2=(ZX K (n%25)).2:=by
 have e1:n%25%5=n%5:=Nat.mod_mod_of_dvd n ⟨5,rfl⟩
 have e2:n%25/5%5=n/5%5:=by rw[show n%25/5=n/5%5 from Nat.mod_mul_right_div_self n 5 5,Nat.mod_mod]
 have hb:(Yx K n).2=(Yx K (n%25)).2:=by
  unfold Yx;rw[e1];split<;>rfl
 unfold ZX
 rw[e2,<-hb]
 split
 ·split<;>rfl
 ·exact hb
theorem SP:∀K∈Wo,(([0,1,5,10]:List Nat).map λr=>(ZX K r).2).Nodup:=by decide
theorem fK(n:Nat)  (h:r<25):(n+(r+(25-n%25))%25)%25=r:=by
 have e:n+(r+(25-n%25))=r+25*(n/25+1):=by
  have h1:=Nat.mod_add_div n 25
  have h2:=ZxT n (by decide:0<25)
  generalize n%25=m at *
  generalize n/25=q at *
  subst h1
  lia
 rw[Nat.add_mod_mod,e,Nat.add_mul_mod_self_left]
 exact Zjc h
theorem OY{K:Y5}(hK:K∈Wo)(n:Nat){ws:List (List Bool)}(hl:ws.length<=3):∃m,m<25/\(ZX K (n+m)).2∉ws:=by
 refine ZyO λhc=>?_
 have PI:∀m,m<25->(ZX K (n+m)).2∈ws:=λm hm=>ZyO λh=>hc ⟨m,hm,h⟩
 have:=Je (m:=ws) (SP K hK) λx hx=>by
  obtain⟨r,hr,rfl⟩:=Zye.mp hx
  have hr:∀r∈([0,1,5,10]:List Nat),r<25:=by decide
  have h1:=PI ((r+(25-n%25))%25) (ZxT _ (by decide))
  rw[Oy,fK n (hr _ (by assumption))] at h1
  exact h1
 rw[Zyl] at this
 exact absurd (Zyi this hl) (by decide)
theorem asg         (h1:YW sc x=true)(h2:T.ow.contains x=false)(h3:(Vb e||Va e)=true)(h4:ev T.sg n sc U e=some (.val d)):
 Xj T (n+1) sc U (.Assign [.Name x p] e pos)=some (.Z4,U.set x (.val d)):=by
 exact P5 (by rw[h1,h2,h3];rfl) h4
theorem Gives.asg          (v:PV)(h1:YW sc x=true)(h2:T.ow.contains x=false)(h3:(Vb e||Va e)=true)(h4:ev T.sg n sc U e=some (.val v))(h5:Gives T (n+1) sc (U.set x (.val v)) r d):
 Gives T (n+2) sc U (.Assign [.Name x p] e pos::r) d:=Gives.next (Mine.Internal.L1.asg h1 h2 h3 h4) h5
theorem Runs.asg          (v:PV)(h1:YW sc x=true)(h2:T.ow.contains x=false)(h3:(Vb e||Va e)=true)(h4:ev T.sg n sc U e=some (.val v))(h5:Runs T (n+1) sc (U.set x (.val v)) r Q):
 Runs T (n+2) sc U (.Assign [.Name x p] e pos::r) Q:=Runs.next (Mine.Internal.L1.asg h1 h2 h3 h4) h5
def RV(ws:List Str)(t:Str):PV:=.lst ((XS ws t t.length).map .int)
structure VS(S:Sg)(c:Zya)(b1:Int->Bool)(b3:Int->Option Str):Prop where
 mt:∀nm x as,S.mt nm (.val (.str x)) as=Xx nm (.val (.str x)) as
 yc:∀nm x as,S.mt nm (.val (.lst x)) as=Xx nm (.val (.lst x)) as
 items:∀l,l.length<=Zyk->S.mt "items" (.val (.box (Z8 c) [] l)) []=some (.lst l)
 len:∀d,S.cl "len" [.val d]=XO [.val d]
 Tc:∀ds,S.cl "len" [.own ds]=XO [.own ds]
 sum:∀d,S.cl "sum" [.val d]=I7 [.val d]
 max:∀d,S.cl "max" [.val d]=I8 [.val d]
 NV:∀ch,S.cl "in_table_b1" [.val (.str (ZK [ch]))]=some (.bool (b1 (ch:Nat)))
 DM:∀ch,S.cl "map_table_b3" [.val (.str (ZK [ch]))]=some (.str (Vs b3 ch))
 em:∃S',WO S'/\∀as,S.cl "_ellipsis_match" as=run S' 9 ["ws"] ["want","got"] as
 label:∀K n,II K->S.cl "_law_label" [.val (.int (n:Nat)),.val (WB K)]=some (.tup [.str (ZK (QV K n)),.str (ZK [UJ n]),.str (enc K.a K.b (ZX K n).2)])
 NU:∀a b ws bk,Wt a b->Wf ws->∃d,S.cl "_law_hunt" [.own ((ws.map (enc a b)).map .str),.val (.int (XI bk))]=some d/\Nj c a b ws d
 FX:∀ws t,(∀w∈ws,0<w.length/\w.length<=1000)->ws.length<=1000->t.length<=1000->S.cl "_law_ways" [.val (.lst (ws.map .str)),.val (.str t)]=some (RV ws t)
def Xp(K:Y5)(ws:List (List Bool)):List PV:=(ws.map (enc K.a K.b)).map .str
def Z2(k:Nat):List ZyF:=(X2 20).drop k
@[reducible] def LT (S:Sg):St:=Tn S ["words","ends"]
noncomputable def nums(is:List Int):List Nat:=(is.take 8).map λx=>(x%1000000).toNat
def WL(is:List Int):Nat:=(nums is).sum
def FG(is:List Int):Y5:=Wo.getD (WL is%5) ⟨102,105,[64256,64257,64259],[[false,false],[false,true],[false,false,true]]⟩
noncomputable def Y3(l:List Nat):List PV:=l.map λn:Nat=>PV.int n
theorem OO(is:List Int):FG is∈Wo:=by
 have hl:WL is%5<Wo.length:=ZxT _ (by decide:0<5)
 rw[FG,gD,gE hl];exact ZxG hl
theorem Gy(l:List Nat):I7 [.val (.lst (Y3 l))]=some (.int (l.sum:Nat)):=by
 have e:Y3 l=(l.map λn:Nat=>(n:Int)).map .int:=by rw[Y3,ZyM];rfl
 rw[e,sum_ints]
 congr 2
 induction l with
 |nil=>rfl
 |cons a l ih=>simp [ih (by rw[Y3,ZyM];rfl)]
theorem JX  {i:Nat} :ZZ none (some (i:Int)) l=l.take i:=by
 rw[ZZ,QE]
 show (l.drop 0).take (min i l.length-0)=_
 rw[Zqv,Nat.sub_zero]
 rcases Zq6 i l.length with h |h
 ·rw[ZxA h]
 ·rw[ZvA h,Zjn,Zx6 h]
structure LA(K:Y5)(is:List Int)(U:Zx):Prop where
 numbers:U "numbers"=some (.val (.lst (Y3 (nums is))))
 total:U "total"=some (.val (.int (WL is:Nat)))
 YG:U "kin"=some (.val (WB K))
set_option maxHeartbeats 4000000 in
theorem tw  {c:Zya}   (H:VS S c b1 b3)  (hl:is.length<=63)
 (hk:∀U,LA (FG is) is U->U "words"=some (.own [])->Gives (LT S) 56 (Zg 20) U (Z2 4) d):Gives (LT S) 60 (Zg 20) (Zi (λ_=>none) ["script"] [.lst (is.map .int)]) (X2 20) d:=by
 have hk:∀U,LA (FG is) is U->U "words"=some (.own [])->Gives (Tn S ["words","ends"]) 56 (Zg 20) U (Z2 4) d:=hk
 show Gives (Tn S ["words","ends"]) _ _ _ _ _
 generalize hb:X2 20=b
 have YF:Z2 4=b.drop 4:=by rw[<-hb];rfl
 rw[YF] at hk
 clear YF
 conv at hb=>lhs;whnf
 subst hb
 have m3:=H.sum
 have z1:is.length<=Zyk:=Zyi hl (by decide)
 have hp:YC .Pow (.val (.int 10)) (.val (.int 6))=some (.int 1000000):=rfl
 have e1:ZZ none (some 8) (is.map PV.int)=(is.take 8).map .int:=by
  rw[show (8:Int)=((8:Nat):Int) from rfl,JX,Zuo]
 have s0:Zi (λ_=>none) ["script"] [.lst (is.map .int)] "script"=some (.val (.lst (is.map .int))):=by walk_at "ex"
 generalize Zi (λ_=>none) ["script"] [.lst (is.map .int)]=U at *
 refine Gives.asg (.lst (Y3 (nums is))) (by decide) rfl rfl ?_ ?_
 ·have e2:Y3 (nums is)=(is.take 8).map λx=>PV.int (x.fmod 1000000):=by
   rw[Y3,nums,ZyM]
   refine Zw6 λx _=>?_
   show PV.int ((x%1000000).toNat:Int)=PV.int (x.fmod 1000000)
   rw[Zup _ (by decide),Zqp (Int.emod_nonneg _ (by decide))]
  rw[e2]
  refine DI (f:=PV.int) (λx=>PV.int (x.fmod 1000000)) (by decide) (Yp [] (by decide) rfl) rfl (by rw[<-e1];walk_at "ex") (Zyi (Zxc ZxZ) (Zyi (Zwp _ _) (by decide))) λx _=>?_
  have bm:YC .Mod (.val (.int x)) (.val (.int 1000000))=some (.int (x.fmod 1000000)):=k6 (by decide)
  walk_at "ex"
 have m4:=Gy (nums is)
 refine Gives.asg (.int (WL is:Nat)) (by decide) rfl rfl (by rw[WL];walk_at "ex") ?_
 have e5:=md (y:=5) 5 rfl (by decide)
 refine Gives.asg (WB (FG is)) (by decide) rfl rfl ?_ ?_
 ·refine jM (ZjU true) (by walk_at "ex") (by walk_at "ex") ?_
  have hl:WL is%5<Wo.length:=ZxT _ (by decide:0<5)
  rw[QU (Zyi (Zx5 hl) (by decide)),FG,gD,gE hl]
  exact (congrArg (λl=>l[WL is%5]?) (show _=Wo.map WB from rfl)).trans (by rw[ZyQ,gE hl];rfl)
 refine Gives.next (σ':=(((U.set "numbers" (.val (.lst (Y3 (nums is))))).set "total" (.val (.int (WL is:Nat)))).set "kin" (.val (WB (FG is)))).set "words" (.own [])) (by walk_at "ex") ?_
 exact hk _ ⟨by walk_at "ex",by walk_at "ex",by walk_at "ex"⟩ (by walk_at "ex")
theorem Runs.while         {P:Nat->Zx->Prop}{Q' Q:Zx->Prop}(m:Nat)(hm:m<T.wf)(h0:P m U)
 (h:∀m U,P m U->(Yi T.sg n sc U t=some false/\Q' U)∨(Yi T.sg n sc U t=some true/\Runs T n sc U body (λσ'=>∃m',m'<m/\P m' σ'))) (h2:∀U,Q' U->Runs T (n+1) sc U r Q):Runs T (n+2) sc U (.While t body [] p::r) Q:=by
 rcases Az (t:=λU=>Yi T.sg n sc U t) (f:=λU=>Xm T n sc U body) (P:=P) (Q:=Q') (R:=λ_=>False) (λm U hp=>(h m U hp).imp_right λ⟨e,h⟩=>⟨e,.inl h⟩) T.wf m U h0 hm with ⟨σ',e,hq⟩ |⟨d,σ',e,hr⟩
 ·exact Runs.next (σ':=σ') (e) (h2 _ hq)
 ·exact hr.elim
theorem si  {l:List Str}:Ys .In (.val (.str w)) (.own (l.map .str))=some (decide (w∈l)):=by
 show (if (l.map PV.str).all (λa=>alike a (.str w)&&Yn a&&decide (dep a<=5))=true then some ((l.map PV.str).any λx=>eqv x (.str w)) else none)=_
 rw[if_pos (by rw[ZyV];intro x hx;obtain⟨y,_,rfl⟩:=Zye.mp hx;rfl)]
 congr 1
 rw[Zx9,ZwZ,decide_eq_true_iff]
 constructor
 ·rintro⟨x,hx,e⟩
  obtain⟨y,hy,rfl⟩:=Zye.mp hx
  rw[To,decide_eq_true_iff] at e
  rw[<-e];exact hy
 ·intro h;exact⟨.str w,ZyL h,by rw[To,decide_eq_true_iff]⟩
theorem gY  (X6:a≠b)  {ws:List (List Bool)}:decide (enc a b w∈ws.map (enc a b))=decide (w∈ws):=by
 rw[Zx9,decide_eq_true_iff,decide_eq_true_iff,Zye]
 constructor
 ·rintro⟨x,hx,e⟩;rw[<-Kj X6 e];exact hx
 ·intro h;exact⟨w,h,rfl⟩
theorem Mk:∀l:List Str,(l.map PV.str).mapM Gp=some l
 |[]=>rfl
 |i::l=>by rw[ZyZ,ZwH,Mk l];rfl
theorem Ci   (h:Zub x l=true):Xx "join" (.val (.str x)) [.val (.lst (l.map .str))]=some (.str (ZwS x l)):=by
 show (((l.map PV.str).mapM Gp).bind λys=>if Zub x ys=true then some (PV.str (ZwS x ys)) else none)=_
 rw[Mk,Zy2,if_pos h]
theorem IT  {lo hi:Option Int}  :ZZ lo hi (l.map f)=(ZZ lo hi l).map f:=by
 rw[ZZ,ZZ,Zyl,Zuo,ZjT]
theorem LA.set{K:Y5}   (h:LA K is U)   (hx:(["numbers","total","kin"]:List Str).contains x=false):LA K is (U.set x v):=by
 simp only[ZqI,Zjw,ZwA,beq_eq_false_iff_ne] at hx
 obtain⟨h1,h2,h3,_⟩:=hx
 exact⟨(if_neg λe=>h1 e.symm).trans h.numbers,(if_neg λe=>h2 e.symm).trans h.total,(if_neg λe=>h3 e.symm).trans h.YG⟩
theorem jB :decide (ZK [x]=ZK [y])=decide (x=y):=by
 rw[Zx9,decide_eq_true_iff,decide_eq_true_iff]
 constructor
 ·intro h
  have:=congrArg Zh h
  rw[VJ,VJ] at this
  simpa using this
 ·rintro rfl;rfl
noncomputable def Ny:List Nat:=[28,170,908,67]
structure LW(K:Y5)(ws:List (List Bool))(k:Nat):Prop where
 len:ws.length=k
 nodup:ws.Nodup
 size:∀w∈ws,0<w.length/\w.length<=3
def gB:List ZyF:=bodyOf (Z2 4)[0]?
theorem KY(is:List Int):(nums is).length<=8:=by
 rw[nums,Zyl]
 exact Zyi (Zxc ZxZ) (Zwp _ _)
section
variable {S:Sg}{c:Zya}{b1:Int->Bool}{b3:Int->Option Str}{K:Y5}{is:List Int}{U:Zx}{W:List PV}{Q:Zx->Prop}{ws:List (List Bool)}
theorem uC{k:Nat}(h:k<4):ZV (.val (.lst [.int 28,.int 170,.int 908,.int 67])) (.int (k:Int))=some (.int (Ny.getD k 0:Nat)):=by
 have hl:k<Ny.length:=h
 rw[QU (Zyi (Zx5 h) (by decide)),show ([.int 28,.int 170,.int 908,.int 67]:List PV)=Ny.map (λc:Nat=>PV.int c) from rfl,ZyQ,gD,gE hl];rfl
theorem gb{k:Nat}(m3:∀d,S.cl "sum" [.val d]=I7 [.val d])(k4:k<4)(hA:LA K is U)(hk:U "k"=some (.val (.int k)))(hw:U "words"=some (.own W))(q:∀(n:Nat) τ,LA K is τ->τ "words"=some (.own W)->τ "n"=some (.val (.int n))->Runs (Tn S ["words","ends"]) 53 (Zg 20) τ (gB.drop 1) Q):
 Runs (Tn S ["words","ends"]) 54 (Zg 20) U gB Q:=by
 generalize hb:gB=b at q ⊢
 conv at hb=>lhs;whnf
 subst hb
 have s1:=hA.numbers
 have e2:=Gy (ZZ (some (k:Int)) (some ((k+1:Nat):Int)) (nums is))
 have e3:ZZ (some (k:Int)) (some ((k+1:Nat):Int)) (Y3 (nums is))=Y3 (ZZ (some (k:Int)) (some ((k+1:Nat):Int)) (nums is)):=IT
 have e4:=uC k4
 have z6:(Y3 (nums is)).length<=Zyk:=by rw[Y3,Zyl];exact Zyi (KY is) (by decide)
 generalize Ny.getD k 0=B at *
 generalize ZZ (some (k:Int)) (some ((k+1:Nat):Int)) (nums is)=B2 at *
 have e1:(k:Int)+1=((k+1:Nat):Int):=rfl
 have e5:(B:Int)+(B2.sum:Nat)=((B+B2.sum:Nat):Int):=rfl
 exact Runs.asg (.int ((B+B2.sum:Nat):Int)) (by decide) rfl rfl (by clear q;walk_at "ex") (q _ _ (hA.set (by decide)) ((if_neg (by decide)).trans hw) (if_pos rfl))
theorem vP(H:VS S c b1 b3)(hK:K∈Wo)(hl:ws.length<=3){n0:Nat}(hA:LA K is U)(hw:U "words"=some (.own (Xp K ws)))(hn:U "n"=some (.val (.int n0)))
 (q:∀(n:Nat) τ,LA K is τ->τ "words"=some (.own (Xp K ws))->τ "n"=some (.val (.int n))->(ZX K n).2∉ws->Runs (Tn S ["words","ends"]) 52 (Zg 20) τ (gB.drop 2) Q):Runs (Tn S ["words","ends"]) 53 (Zg 20) U (gB.drop 1) Q:=by
 generalize hb:gB.drop 1=b
 have Ii:gB.drop 2=b.drop 1:=by rw[<-hb];rfl
 rw[Ii] at q
 clear Ii
 conv at hb=>lhs;whnf
 subst hb
 have hG:=J7 _ hK
 obtain⟨m0,oi,QQ⟩:=OY hK n0 hl
 refine Runs.while (P:=λm U=>∃j,j+m=m0/\LA K is U/\U "words"=some (.own (Xp K ws))/\U "n"=some (.val (.int ((n0+j:Nat):Int)))) (Q':=λU=>∃n:Nat,LA K is U/\U "words"=some (.own (Xp K ws))/\U "n"=some (.val (.int n))/\(ZX K n).2∉ws) m0 (show m0<1000 from Nat.lt_trans oi (by decide))
  ⟨0,Zxb m0,hA,hw,hn⟩ (λm U h=>?_) λU h=>h.elim λn h=>q n U h.1 h.2.1 h.2.2.1 h.2.2.2
 obtain⟨j,hj,hA,hw,hn⟩:=h
 clear q
 have s1:=hA.YG
 have lb:=H.label K (n0+j) hG
 have ci:Ys .In (.val (.str (enc K.a K.b (ZX K (n0+j)).2))) (.own (Xp K ws))=some (decide ((ZX K (n0+j)).2∈ws)):=by rw[<-gY hG.ok.ne];exact si
 have it:∀x y z:PV,ZV (.val (.tup [x,y,z])) (.int 2)=some z:=λ_ _ _=>rfl
 by_cases Wb:(ZX K (n0+j)).2∈ws
 ·rw[decide_eq_true Wb] at ci
  have qB:0<m:=ZqF λe=>QQ (by rw[e] at hj;exact hj ▸ Wb)
  have en:((n0+j:Nat):Int)+1=((n0+(j+1):Nat):Int):=rfl
  have ej:j+1+(m-1)=m0:=by rw[Zwi,Zv1 qB];exact hj
  refine .inr ⟨?_,Runs.next (σ':=U.set "n" (.val (.int ((n0+(j+1):Nat):Int)))) ?_ (Runs.nil ⟨m-1,Zj6 qB Nat.one_pos,j+1,ej,hA.set (by decide),(if_neg (by decide)).trans hw,if_pos rfl⟩)⟩
  ·clear qB Wb en QQ ej;generalize n0+j=N at *;walk_at "ex"
  ·clear lb Wb QQ ci ej;walk_at "ex"
 ·rw[decide_eq_false Wb] at ci
  refine .inl ⟨?_,n0+j,hA,hw,hn,Wb⟩
  clear Wb QQ;generalize n0+j=N at *;walk_at "ex"
structure LG(W:List PV)(X Z Y:Str)(U:Zx):Prop where
 words:U "words"=some (.own W)
 signs:U "signs"=some (.val (.str X))
 nothing:U "nothing"=some (.val (.str Z))
 word:U "word"=some (.val (.str Y))
theorem LG.set  (h:LG W X Z Y U) :LG W X Z Y (U.set "made" v):=⟨(if_neg (by decide)).trans h.words,(if_neg (by decide)).trans h.signs,(if_neg (by decide)).trans h.nothing,(if_neg (by decide)).trans h.word⟩
theorem ON{n:Nat}  (lb:S.cl "_law_label" [.val (.int n),.val (WB K)]=some (.tup [.str X,.str Z,.str Y]))(hA:LA K is U)(hw:U "words"=some (.own W))(hn:U "n"=some (.val (.int n)))
 (q:∀τ,LA K is τ->LG W X Z Y τ->Runs (Tn S ["words","ends"]) 51 (Zg 20) τ (gB.drop 3) Q):Runs (Tn S ["words","ends"]) 52 (Zg 20) U (gB.drop 2) Q:=by
 generalize hb:gB.drop 2=b
 have Ii:gB.drop 3=b.drop 1:=by rw[<-hb];rfl
 rw[Ii] at q
 clear Ii
 conv at hb=>lhs;whnf
 subst hb
 have s1:=hA.YG
 exact Runs.next (σ':=Zi U ["signs","nothing","word"] [.str X,.str Z,.str Y]) (by clear q;walk_at "ex") (q _ (((hA.set (by decide)).set (by decide)).set (by decide)) ⟨by walk_at "ex",by walk_at "ex",by walk_at "ex",by walk_at "ex"⟩)
theorem zJ(b3:Int->Option Str)(u:Nat)(L:List Nat):L.filterMap (λc=>if c=u then none else some (PV.str (Vs b3 c)))=((L.filter (λc=>decide (c≠u))).map (Vs b3)).map .str:=by
 induction L with
 |nil=>rfl
 | cons x L ih=>
   by_cases hx:x=u
   ·rw[Zwk (by rw[if_pos hx]),Zw5 (by simp [hx])];exact ih
   ·rw[Zwj (by rw[if_neg hx]),ZvJ (by simp [hx]),ZyZ,ih];rfl
theorem EK    (H:VS S c b1 b3)(zl:L.length<=Zyk)(hf:L.filter (λc=>decide (c≠u))=F)(qh:ZwS "" (F.map (Vs b3))=Y)(qm:Zub "" (F.map (Vs b3))=true)(h:LG W (ZK L) (ZK [u]) Y U)
 (q:Runs (Tn S ["words","ends"]) 50 (Zg 20) (U.set "made" (.val (.str Y))) (gB.drop 4) Q):Runs (Tn S ["words","ends"]) 51 (Zg 20) U (gB.drop 3) Q:=by
 generalize hb:gB.drop 3=b
 have Ii:gB.drop 4=b.drop 1:=by rw[<-hb];rfl
 rw[Ii] at q
 clear Ii
 conv at hb=>lhs;whnf
 subst hb
 have m1:=H.mt;have b3f:=H.DM
 have t2:=h.signs;have t3:=h.nothing
 have hit:Qj false (.val (.str (ZK L)))=some (L.map λc=>PV.str (ZK [c])):=rfl
 refine Runs.asg (.str Y) (by decide) rfl rfl ?_ q
 clear q
 refine Kp (a:=.val (.str "")) (as:=[.val (.lst ((F.map (Vs b3)).map .str))]) tT Tq (VP tT ?_ Ur) (by rw[m1,Ci qm,qh])
 rw[N6 (l:=L) (f:=λc=>PV.str (ZK [c])) (λc=>if c=u then none else some (.str (Vs b3 c))) (by decide) (Yp ["nothing"] (by decide) (by simp only[Zxj,ZxU,t3,Zxu,Zxr])) rfl (VG (by decide) (by decide) t2 hit) zl]
 ·rw[zJ,hf]
 ·intro x _
  have e1:=@jB x u
  by_cases h:x=u
  ·rw[decide_eq_true h] at e1
   rw[if_pos h]
   clear qh qm h hf
   walk_at "ex"
  ·rw[decide_eq_false h] at e1
   rw[if_neg h]
   clear qh qm h hf
   walk_at "ex"
theorem OM    (H:VS S c b1 b3)(zl:L.length<=Zyk)(aT:∀x∈L,b1 (x:Nat)=decide (x=u))(zW:W.length<=Zyk)(h:LG W (ZK L) (ZK [u]) Y U)(u5:U "made"=some (.val (.str Y)))
 (q:Q (U.set "words" (.own (W++[.str Y])))):Runs (Tn S ["words","ends"]) 50 (Zg 20) U (gB.drop 4) Q:=by
 generalize hb:gB.drop 4=b
 conv at hb=>lhs;whnf
 subst hb
 have n5:=H.NV
 have u1:=h.words;have u2:=h.signs;have u3:=h.nothing;have u4:=h.word
 have hit:Qj false (.val (.str (ZK L)))=some (L.map λc=>PV.str (ZK [c])):=rfl
 have cn:Ys .NotEq (.val (.lst [])) (.val (.lst []))=some false:=rfl
 refine Runs.next (σ':=U) ?_ (Runs.next (σ':=U.set "words" (.own (W++[.str Y]))) (by walk_at "ex") (Runs.nil q))
 refine QX (P4 (NY (by walk_at "ex") (NY (Vp tF (a:=.val (.lst [])) (b:=.val (.lst [])) ?_ (by walk_at "ex") cn) P6))) VA
 rw[N6 (l:=L) (f:=λc=>PV.str (ZK [c])) (λc=>none) (by decide) (Yp ["nothing"] (by decide) (by simp only[Zxj,ZxU,u3,Zxu,Zxr])) rfl (VG (by decide) (by decide) u2 hit) zl]
 ·rw[show L.filterMap (λ_=>(none:Option PV))=[] from Zwh.mpr λ_ _=>rfl]
 ·intro x hx
  have e1:=@jB x u
  have e3:=n5 x
  rw[aT x hx] at e3
  have nh:∀x y:Bool,Ys .IsNot (.val (.bool x)) (.val (.bool y))=some (!(x==y)):=λ_ _=>rfl
  clear n5 hx aT q h
  have e4:(decide (x=u)==decide (x=u))=true:=beq_self_eq_true _
  generalize decide (x=u)=q at *
  walk_at "ex"
theorem OP(n:Nat)(h:(ZX K n).1.length<=2):(QV K n).length<=3:=by
 unfold QV
 split
 ·exact Zyi h (by decide)
 ·split
  ·exact ZxX h
  ·rw[Zyn,Zy4,Nat.add_succ,<-Zyn,Zwl]
   exact ZxX h
end
theorem hO{S:Sg}    (H:VS S c b1 b3)(G:Nq b1 b3){K:Y5}(hK:K∈Wo)  (hl:is.length<=63)
 (hk:∀U ws,LA K is U->U "words"=some (.own (Xp K ws))->LW K ws 4->Gives (LT S) 55 (Zg 20) U (Z2 5) d)  (h0:LA K is U) (h1:U "words"=some (.own [])):Gives (LT S) 56 (Zg 20) U (Z2 4) d:=by
 have hk:∀U ws,LA K is U->U "words"=some (.own (Xp K ws))->LW K ws 4->Gives (Tn S ["words","ends"]) 55 (Zg 20) U (Z2 5) d:=hk
 have turn:∀k U ws,k<4->LA K is U->U "words"=some (.own (Xp K ws))->LW K ws k->U "k"=some (.val (.int (k:Nat)))->Runs (Tn S ["words","ends"]) 54 (Zg 20) U gB λU=>LA K is U/\∃ws,U "words"=some (.own (Xp K ws))/\LW K ws (k+1):=λk U ws k4 hA hw hL hk=>
  gb H.sum k4 hA hk hw λn0 τ hA hw hn=>vP H hK (hL.len ▸ ZwB k4) hA hw hn λn τ hA hw hn QQ=>ON (H.label K n (J7 _ hK)) hA hw hn λτ hA h=>by
   have hG:=J7 _ hK
   have mj:=OT G hK n
   have fl:=MQ hG n
   have zl:(QV K n).length<=Zyk:=Zyi (OP n (fl.elim λc q=>q.elim λr q=>q.1 ▸ ZxX q.2)) (by decide)
   have zW:(Xp K ws).length<=Zyk:=by rw[Xp,Zyl,Zyl,hL.len];exact Zyi (Zx5 k4) (by decide)
   refine EK H zl (SA G hK n) mj.1 mj.2 h (OM H zl (λx hx=>gm G hK n hx) zW h.set (if_pos rfl) ⟨(hA.set (by decide)).set (by decide),ws++[(ZX K n).2],?_,?_,C1 hL.nodup QQ,λw hw=>?_⟩)
   ·exact (if_pos rfl).trans (congrArg (λl=>some (AV.own l)) (show Xp K ws++[_]=Xp K (ws++[_]) from by rw[Xp,Xp,Zy9,Zy9];rfl))
   ·rw[Zyn,hL.len];rfl
   ·rcases ZyN.mp hw with hw |hw
    ·exact hL.size w hw
    ·exact Zx0.mp hw ▸ EP hG n
 generalize hE:gB=eb at turn
 generalize hb:Z2 4=b
 have N0:eb=bodyOf b[0]?:=by rw[<-hb,<-hE];rfl
 have YF:Z2 5=b.drop 1:=by rw[<-hb];rfl
 rw[YF] at hk
 clear YF hE
 conv at hb=>lhs;whnf
 subst hb
 subst N0
 have z3:ZJ (-(2 ^ 62)) (2 ^ 62) 4=true:=VY (by decide) (by decide)
 refine Gives.for (ds:=ZQ 0 4) (P:=λk U=>LA K is U/\∃ws,U "words"=some (.own (Xp K ws))/\LW K ws k) (by decide) rfl rfl (by walk_at "ex") ⟨h0,[],h1,rfl,Zqj,λw hw=>absurd hw ZxY⟩ (λk v U oh h=>?_) (λU h=>h.2.elim λws q=>hk U ws h.1 q.1 q.2)
 obtain⟨rfl,k4⟩:=NM oh
 exact h.2.elim λws q=>turn k _ ws k4 (h.1.set (by decide)) ((if_neg (by decide)).trans q.1) q.2 (if_pos rfl)
theorem LW.four{K:Y5}  (h:LW K ws 4):Wf ws:=⟨h.len,h.nodup,h.size⟩
def jb(K:Y5)(ws:List (List Bool))(f:PV):Prop:=(f=.none/\∀u,¬XD ws u)∨∃t,f=.str (enc K.a K.b t)/\XD ws t/\(∀u,XD ws u->t.length<=u.length)/\t.length<=20
theorem w4  (K:Wt a b) :∀{i:Nat},(∀p∈V,p.1.length<=2)->(tabOf a b i V).map (λx=>PV.tup [.str (ZyU x.1),.str x.2])=V.map (WH a b):=by
 induction V with
 |nil=>intro i _;rfl
 | cons p V ih=>
   intro i h
   rw[tabOf,ZyZ,ZyZ,ih λq hq=>h q (by simp [hq]),Ck K (h p (by simp))];rfl
theorem RU :∀{V:List (En Bool)}{i:Nat},(tabOf a b i V).map (λx=>PV.str x.1)=((Zxv V.length).map λk=>Wr a b (i+k) ((V.map (·.1)).getD k [])).map .str
 |[],i=>rfl
 | p::V,i=>by
   rw[tabOf,ZyZ,RU,Zy4,ZvK,ZyZ,ZyZ,ZyM,ZyM,ZyM]
   congr 1
   refine Zw6 λk _=>?_
   show PV.str (Wr a b (i+1+k) _)=PV.str (Wr a b (i+(k+1)) _)
   rw[show i+1+k=i+(k+1) from by lia];rfl
theorem sq{l:List Str}:Ys .NotEq (.val (.lst (l.map .str))) (.val (.lst (l.map .str)))=some false:=by
 have h1:alikeAll (l.map PV.str) (l.map PV.str)=true:=by
  induction l with
  |nil=>rfl
  |cons x l ih=>exact ih
 have h2:WY (l.map PV.str)<=0:=by
  clear h1
  induction l with
  |nil=>exact Zy7 _
  |cons x l ih=>exact (Zj7 (a:=0)).mpr ⟨Zy7 0,ih⟩
 have h3:=eqvAll_refl _ h1
 refine ZxO (if_pos (⟨h1,by show WY _+1<=8;lia⟩:_/\_)) ?_
 show some (!eqvAll _ _)=_
 rw[h3];rfl
theorem gI   {V:List (En Bool)}(h:p∈V):Ys .NotIn (.val (WH a b p)) (.val (.lst (V.map (WH a b))))=some false:=by
 show (if (V.map (WH a b)).all (λx=>alike x (WH a b p)&&Yn x&&decide (dep x<=5))=true then some (!(V.map (WH a b)).any λx=>eqv x (WH a b p)) else none)=_
 rw[if_pos (by rw[ZyV];intro x hx;obtain⟨y,_,rfl⟩:=Zye.mp hx;rfl)]
 have:((V.map (WH a b)).any λx=>eqv x (WH a b p))=true:=by
  rw[ZwZ]
  exact⟨_,ZyL h,eqv_refl _ rfl⟩
 rw[this];rfl
theorem vI{l:List Str} :Xx "count" (.val (.lst (l.map .str))) [.val (.str x)]=some (.int (l.count x:Nat)):=by
 show (((l.map PV.str).mapM Gp).map λys=>PV.int (ys.count x:Nat))=_
 rw[Mk];rfl
theorem Pw  (X6:a≠b){V:List (En Bool)}(hn:(V.map (·.1)).Nodup)  (hp:p∈V):(V.map λq=>enc a b q.1).count (enc a b p.1)=1:=by
 have e:(V.map λq=>enc a b q.1)=(V.map (·.1)).map (enc a b):=by rw[ZyM];rfl
 have hm:p.1∈V.map (·.1):=ZyL hp
 rw[e]
 generalize V.map (·.1)=L at *
 have h1:(L.map (enc a b)).count (enc a b p.1)<=1:=List.nodup_iff_count.mp (by
  refine List.pairwise_map.mpr (hn.imp λh q=>h (Kj X6 q))) _
 have h2:0<(L.map (enc a b)).count (enc a b p.1):=List.count_pos_iff.mpr (ZyL hm)
 lia
theorem Dh       {f:β->PV × PV}{l:List β}(h:ev S n sc U e=some (.val (.lst (l.map λx=>.tup [(f x).1,(f x).2])))):K4 S (n+1) sc U e=some (l.map λx=>.tup [(f x).1,(f x).2]):=by
 show ((ev S n sc U e).bind _)=_
 rw[h]
 refine if_pos ?_
 rw[ZyV];intro x hx;obtain⟨y,_,rfl⟩:=Zye.mp hx;rfl
theorem jR(n:Nat):ZQ 0 (n:Int)=(Zxv n).map λi:Nat=>PV.int i:=by
 unfold ZQ
 rw[show ((n:Int)-0).toNat=n from by lia]
 refine Zw6 λi _=>?_
 congr 1;lia
theorem HD          :Y1 S (n+1) sc U b (.Tuple [.Name x p,.Name y q] k tp) (.Call (.Attribute o nm ap) args [] cp)=K4 S n sc U (.Call (.Attribute o nm ap) args [] cp):=by
 rfl
theorem u7        :Y1 S (n+1) sc U b (.Tuple [.Name x p,.Name y q] k tp) (.Name z ap)=K4 S n sc U (.Name z ap):=rfl
structure LC(K:Y5)(is:List Int)(ws:List (List Bool))(f:PV)(U:Zx):Prop where
 la:LA K is U
 words:U "words"=some (.own (Xp K ws))
 found:U "found"=some (.val f)
structure LH(K:Y5)(is:List Int)(W:List PV)(TB:PV)(hd:List PV)(f:PV)(U:Zx):Prop where
 la:LA K is U
 words:U "words"=some (.own W)
 table:U "table"=some (.val TB)
 Qi:U "heard"=some (.val (.lst hd))
 found:U "found"=some (.val f)
section
variable {S:Sg}{K:Y5}{is:List Int}{W hd:List PV}{TB f d:PV}{U:Zx}{L D:List (Str × Str)}{rs:List Str}
theorem LH.set(h:LH K is W TB hd f U){x:Str}  (hx:x="laid"∨x="rests"):LH K is W TB hd f (U.set x v):=by
 have e:∀{y:Str},y≠"laid"->y≠"rests"->(U.set x v) y=U y:=λa b=>if_neg λe=>hx.elim (λq=>a (e.trans q)) λq=>b (e.trans q)
 exact⟨h.la.set (by rcases hx with rfl |rfl<;>decide),(e (by decide) (by decide)).trans h.words,(e (by decide) (by decide)).trans h.table,(e (by decide) (by decide)).trans h.Qi,(e (by decide) (by decide)).trans h.found⟩
theorem EJ(hR:S.cl "_law_hunt" [.own W,.val (.int ((WL is/5%2:Nat):Int))]=some (.tup [TB,.lst hd,f]))(h0:LA K is U)(h1:U "words"=some (.own W))(q:∀τ,LH K is W TB hd f τ->Gives (Tn S ["words","ends"]) 54 (Zg 20) τ (Z2 6) d):Gives (Tn S ["words","ends"]) 55 (Zg 20) U (Z2 5) d:=by
 generalize hb:Z2 5=b
 have YF:Z2 6=b.drop 1:=by rw[<-hb];rfl
 rw[YF] at q
 clear YF
 conv at hb=>lhs;whnf
 subst hb
 have s1:=h0.total
 have d5:=dv (y:=5) 5 rfl (by decide) (λx=>rfl)
 have e2:=md (y:=2) 2 rfl (by decide)
 exact Gives.next (σ':=Zi U ["table","heard","found"] [TB,.lst hd,f]) (by clear q;walk_at "ex") (q _ ⟨((h0.set (by decide)).set (by decide)).set (by decide),by walk_at "ex",by walk_at "ex",by walk_at "ex",by walk_at "ex"⟩)
theorem EU(m1:∀nm x as,S.mt nm (.val (.str x)) as=Xx nm (.val (.str x)) as)(it:S.mt "items" (.val TB) []=some (.lst (L.map λx=>.tup [.str x.1,.str x.2])))(zL:L.length<=Zyk)(tn:∀x∈L,x.1.length<=5592405)(h:LH K is W TB hd f U)
 (q:∀τ,LH K is W TB hd f τ->τ "laid"=some (.val (.lst (L.map λx=>.tup [.str (ZyU x.1),.str x.2])))->Gives (Tn S ["words","ends"]) 53 (Zg 20) τ (Z2 7) d):Gives (Tn S ["words","ends"]) 54 (Zg 20) U (Z2 6) d:=by
 generalize hb:Z2 6=b
 have YF:Z2 7=b.drop 1:=by rw[<-hb];rfl
 rw[YF] at q
 clear YF
 conv at hb=>lhs;whnf
 subst hb
 have t2:=h.table
 refine Gives.asg (.lst (L.map λx:Str × Str=>PV.tup [.str (ZyU x.1),.str x.2])) (by decide) rfl rfl ?_ (q _ (h.set (.inl rfl)) (if_pos rfl))
 clear q
 refine DI (f:=λx:Str × Str=>PV.tup [.str x.1,.str x.2]) (l:=L) _ (by decide) (Yp [] (by decide) rfl) rfl ?_ zL λx hx=>?_
 ·rw[HD]
  exact Dh (f:=λx:Str × Str=>(PV.str x.1,PV.str x.2)) (by walk_at "ex")
 ·have e:=vK (x:=x.1) (tn x hx)
  walk_at "ex"
theorem SI(zD:D.length<=Zyk)(h:LH K is W TB hd f U)(u5:U "laid"=some (.val (.lst (D.map λx=>.tup [.str x.1,.str x.2]))))
 (q:∀τ,LH K is W TB hd f τ->τ "laid"=some (.val (.lst (D.map λx=>.tup [.str x.1,.str x.2])))->τ "rests"=some (.val (.lst (D.map λx=>.str x.1)))->Gives (Tn S ["words","ends"]) 52 (Zg 20) τ (Z2 8) d):Gives (Tn S ["words","ends"]) 53 (Zg 20) U (Z2 7) d:=by
 generalize hb:Z2 7=b
 have YF:Z2 8=b.drop 1:=by rw[<-hb];rfl
 rw[YF] at q
 clear YF
 conv at hb=>lhs;whnf
 subst hb
 refine Gives.asg (.lst (D.map λx:Str × Str=>PV.str x.1)) (by decide) rfl rfl ?_ (q _ (h.set (.inr rfl)) ((if_neg (by decide)).trans u5) (if_pos rfl))
 clear q
 refine DI (f:=λx:Str × Str=>PV.tup [.str x.1,.str x.2]) (l:=D) _ (by decide) (Yp [] (by decide) rfl) rfl ?_ zD λx hx=>?_
 ·rw[u7]
  exact Dh (f:=λx:Str × Str=>(PV.str x.1,PV.str x.2)) (UO (by rfl) u5)
 ·walk_at "ex"
theorem OA(mL:∀nm l as,S.mt nm (.val (.lst l)) as=Xx nm (.val (.lst l)) as){laid:List PV}(zr:rs.length<=Zyk)(zh:hd.length<=Zyk)(cnt:∀x∈rs,rs.count x=1)(Wb:∀x∈hd,Ys .NotIn (.val x) (.val (.lst laid))=some false)(h:LH K is W TB hd f U)(v5:U "laid"=some (.val (.lst laid)))(v6:U "rests"=some (.val (.lst (rs.map .str))))
 (q:Gives (Tn S ["words","ends"]) 51 (Zg 20) U (Z2 9) d):Gives (Tn S ["words","ends"]) 52 (Zg 20) U (Z2 8) d:=by
 generalize hb:Z2 8=b
 have YF:Z2 9=b.drop 1:=by rw[<-hb];rfl
 rw[YF] at q
 clear YF
 conv at hb=>lhs;whnf
 subst hb
 have v3:=h.Qi
 have cn:Ys .NotEq (.val (.lst [])) (.val (.lst []))=some false:=rfl
 refine Gives.next (σ':=U) ?_ q
 clear q
 refine QX (P4 (NY (Vp tF (a:=.val (.lst [])) (b:=.val (.lst [])) ?_ (by walk_at "ex") cn) (NY (Vp tF (a:=.val (.lst [])) (b:=.val (.lst [])) ?_ (by walk_at "ex") cn) P6))) VA
 rw[N6 (l:=rs) (f:=PV.str) (λ_=>none) (by decide) (Yp ["rests"] (by decide) (by simp only[Zxj,ZxU,v6,Zxu,Zxr])) rfl (VG (by decide) (by decide) v6 rfl) zr]
 ·rw[show rs.filterMap (λ_=>(none:Option PV))=[] from Zwh.mpr λ_ _=>rfl]
 ·intro p hp
  have e3:=vI (l:=rs) (x:=p)
  rw[cnt p hp] at e3
  have e4:decide ((1:Int)<((1:Nat):Int))=false:=by decide
  clear Wb cnt h
  walk_at "ex"
 rw[N6 (l:=hd) (f:=λp=>p) (λ_=>none) (by decide) (Yp ["laid"] (by decide) (by simp only[Zxj,ZxU,v5,Zxu,Zxr])) rfl (VG (by decide) (by decide) v3 (by rw[List.map_id'];rfl)) zh]
 ·rw[show hd.filterMap (λ_=>(none:Option PV))=[] from Zwh.mpr λ_ _=>rfl]
 ·intro x hx
  have e:=Wb x hx
  clear Wb cnt h
  walk_at "ex"
theorem SG{nm:Nat->Str}(m1:∀nm x as,S.mt nm (.val (.str x)) as=Xx nm (.val (.str x)) as)(ml:∀d,S.cl "len" [.val d]=XO [.val d])(it:S.mt "items" (.val TB) []=some (.lst (L.map λx=>.tup [.str x.1,.str x.2])))(zL:L.length<=Zyk)(zr:rs.length<=1000)(eL:L.map (·.1)=(Zxv rs.length).map nm)
 (at2:∀k,k<rs.length->∃x,x.length<=5592405/\ZV (.val (.lst (rs.map .str))) (.int (k:Int))=some (.str x)/\ZV (.val (.lst [.str x,.str (ZwY x)])) (.int ((k%2:Nat):Int))=some (.str (nm k))) (h:LH K is W TB hd f U) (v6:U "rests"=some (.val (.lst (rs.map .str))))
 (q:Gives (Tn S ["words","ends"]) 50 (Zg 20) U (Z2 10) d):Gives (Tn S ["words","ends"]) 51 (Zg 20) U (Z2 9) d:=by
 generalize hb:Z2 9=b
 have YF:Z2 10=b.drop 1:=by rw[<-hb];rfl
 rw[YF] at q
 clear YF
 conv at hb=>lhs;whnf
 subst hb
 have v2:=h.table
 have e2:=md (y:=2) 2 rfl (by decide)
 have sM:rs.length<=Zyk:=Zyi zr (by decide)
 have z7:ZJ (-(2 ^ 62)) (2 ^ 62) (rs.length:Int)=true:=VY (by lia) (by lia)
 have ne:=@sq ((Zxv rs.length).map nm)
 rw[ZyM] at ne
 have ng:L.map (λx=>PV.str x.1)=(Zxv rs.length).map (λk=>PV.str (nm k)):=by
  have:=congrArg (Zqm PV.str) eL
  rwa [ZyM,ZyM] at this
 refine Gives.next (σ':=U) ?_ q
 clear q
 refine QX (Vp tF (DI (f:=λx:Str × Str=>PV.tup [.str x.1,.str x.2]) (l:=L) (λx=>PV.str x.1) (by decide) (Yp [] (by decide) rfl) rfl (by
  rw[HD]
  exact Dh (f:=λx:Str × Str=>(PV.str x.1,PV.str x.2)) (by walk_at "ex")) zL (λx hx=>by walk_at "ex"))
  (DI (f:=λi:Nat=>PV.int i) (l:=Zxv rs.length) (λk=>PV.str (nm k)) (by decide) (Yp ["rests"] (by decide) (by simp only[Zxj,ZxU,v6,Zxu,Zxr])) rfl (by rw[<-jR];walk_at "ex") (by rw[List.length_range];exact sM) ?_) (by rw[ng];exact ne)) VA
 intro k hk
 obtain⟨x,zx,i1,i2⟩:=at2 k (Zui.mp hk)
 have up:=Ba zx
 clear at2 ne eL ng h
 walk_at "ex"
end
theorem cU :((n%2:Nat):Int)=XI (n%2==1):=by
 rcases Cg (ZxT n (by decide:0<2)) with e |e<;>rw[e]<;>rfl
theorem hH     (H:VS S c b1 b3){K:Y5}(hK:K∈Wo)
 (hk:∀U f,LC K is ws f U->jb K ws f->Gives (LT S) 50 (Zg 20) U (Z2 10) d)  (h0:LA K is U) (h1:U "words"=some (.own (Xp K ws))) (hL:LW K ws 4):Gives (LT S) 55 (Zg 20) U (Z2 5) d:=by
 have hG:=J7 _ hK
 obtain⟨R,hR,V,hd,f,rfl,hn,Yh,y5,hh,Wb,hf⟩:=H.NU _ _ ws (WL is/5%2==1) hG.ok hL.four
 have hR:S.cl "_law_hunt" [.own (Xp K ws),.val (.int ((WL is/5%2:Nat):Int))]=some (.tup [.box (Z8 c) [] (pairs (tabOf K.a K.b 0 V)),.lst hd,f]):=by rw[cU];exact hR
 have Nh:∀p∈V,p.1.length<=2:=λp hp=>(Yh p hp).1
 have tl:=U6 K.a K.b V 0
 have tn:=Aw hG.ok (i:=0) Nh
 have zV:V.length<=1000:=Zyi y5 (by decide)
 have zL:(tabOf K.a K.b 0 V).length<=Zyk:=tl.symm ▸ Zyi y5 (by decide)
 have it:S.mt "items" (.val (.box (Z8 c) [] (pairs (tabOf K.a K.b 0 V)))) []=some (.lst ((tabOf K.a K.b 0 V).map λx=>.tup [.str x.1,.str x.2])):=H.items (pairs (tabOf K.a K.b 0 V)) (by rw[pairs,Zyl];exact zL)
 have eD:(tabOf K.a K.b 0 V).map (λx=>PV.tup [.str (ZyU x.1),.str x.2])=(V.map λp=>(enc K.a K.b p.1,enc K.a K.b p.2)).map λx=>PV.tup [.str x.1,.str x.2]:=by rw[w4 hG.ok (i:=0) Nh,ZyM];rfl
 have lr:(V.map λp=>enc K.a K.b p.1).length=V.length:=Zyl ..
 have eR:((V.map λp=>(enc K.a K.b p.1,enc K.a K.b p.2)).map λx=>PV.str x.1)=(V.map λp=>enc K.a K.b p.1).map .str:=by rw[ZyM,ZyM];rfl
 refine EJ hR h0 h1 λτ h=>EU H.mt it zL (λx hx=>Zyi (tn x hx) (by decide)) h λτ h u5=>SI (D:=V.map λp=>(enc K.a K.b p.1,enc K.a K.b p.2)) (by rw[Zyl];exact Zyi y5 (by decide)) h (eD ▸ u5) λτ h v5 v6=>?_
 rw[eR] at v6
 refine OA H.yc (by rw[lr];exact Zyi y5 (by decide)) (Zyi hh (by decide)) (λx hx=>?_) (λx hx=>?_) h v5 v6 (SG (nm:=λk=>Wr K.a K.b (0+k) ((V.map (·.1)).getD k [])) H.mt H.len it zL (by rw[lr];exact zV) ?_ (λk hk=>?_) h v6 (hk _ f ⟨h.la,h.words,h.found⟩ hf))
 ·obtain⟨p,hp,rfl⟩:=Zye.mp hx
  exact Pw hG.ok.ne hn hp
 ·obtain⟨p,hp,rfl⟩:=Wb x hx
  rw[ZyM]
  exact gI hp
 ·have e:=RU (a:=K.a) (b:=K.b) (V:=V) (i:=0)
  rw[lr]
  exact (ZvX (f:=PV.str) λ_ _ e=>by cases e;rfl).mp (by rw[ZyM];exact e)
 ·rw[lr] at hk
  have eg:(V.map (·.1)).getD k []=V[k].1:=by rw[gD,ZyQ,gE hk];rfl
  have qU:=Nh _ (ZxG hk)
  rw[eg,Zxb]
  refine⟨enc K.a K.b V[k].1,Zyi ((ZA (a:=K.a) (b:=K.b) V[k].1).symm ▸ qU) (by decide:2<=5592405),?_,Hs k _⟩
  rw[QU (Zyi (Zx5 (ZxM hk zV)) (by decide)),ZyQ,ZyQ,gE hk];rfl
def Tv(x y:List Nat)(lo hi:Nat):Bool:=match ZH x y lo hi with
 |none=>false
 |some p=>(ZH x y (p+y.length) hi).isSome
theorem Ea  (hy:0<y.length)(hk:Zx2 y=1):decide (2<(ZyE x y).length)=Tv (Zh x) (Zh y) 0 x.length:=by
 have ho:Zy8 x y 0 x.length (x.length+1)=occs (Zh x) (Zh y) x.length (x.length+1) 0:=occ_eq _ _ _ _ _ hy
 unfold Tv
 cases hf:ZH (Zh x) (Zh y) 0 x.length with
 | none=>
   have e:occs (Zh x) (Zh y) x.length (x.length+1) 0=[]:=VI hf
   have:ZyE x y=[x]:=by
    unfold ZyE
    rw[ho,e]
    split
    ·rfl
    ·rfl
   rw[this];rfl
 | some p=>
   obtain⟨_,a2,_⟩:=Uu hf
   rw[Z7] at a2
   obtain⟨m,hm⟩:∃m,x.length=m+1:=⟨x.length-1,by lia⟩
   have e:occs (Zh x) (Zh y) x.length (x.length+1) 0=p::occs (Zh x) (Zh y) x.length (m+1) (p+(Zh y).length):=hm ▸ V3 (hm ▸ hf)
   have hs:ZyE x y=ZyD x (Zy8 x y 0 x.length (x.length+1)) y.length:=by
    unfold ZyE
    have h1:(decide (x.length<y.length)||decide (Zx2 x<Zx2 y))=false:=by
     have:=MZ x
     rw[hk,ZwA,decide_eq_false_iff_not,decide_eq_false_iff_not];lia
    rw[h1,if_neg ZyG,ho,e,if_neg (by simp)]
   rw[hs,KA,ho,e,Zy4]
   show decide (2<(occs (Zh x) (Zh y) x.length (m+1) (p+(Zh y).length)).length+1+1)=(ZH (Zh x) (Zh y) (p+(Zh y).length) x.length).isSome
   cases hg:ZH (Zh x) (Zh y) (p+(Zh y).length) x.length with
   |none=>rw[VI hg];rfl
   | some u=>
     rw[V3 hg]
     show decide (2<(_::_).length+1+1)=true
     rw[decide_eq_true_iff,Zy4]
     lia
theorem EO   (DU:i<=j)(hj:j<=got.length):QN got r i j=Tv (Zh (Yg (some (i:Int)) (some (j:Int)) got)) (Zh r) 0 (Yg (some (i:Int)) (some (j:Int)) got).length:=by
 have hc:Zh (Yg (some (i:Int)) (some (j:Int)) got)=((Zh got).drop i).take (j-i):=by
  rw[Yg,Cb]
  show ZZ _ _ (Zh got)=_
  rw[Ad DU (by rw[Z7];exact hj),Zqk]
 have hl:(Yg (some (i:Int)) (some (j:Int)) got).length=j-i:=by
  rw[<-Z7,hc,ZxZ,Zwa,Z7]
  exact ZxA (Nat.sub_le_sub_right hj i)
 have ej:i+(j-i)=j:=Zv1 DU
 have w:=λlo (h:lo<=j-i)=>BV (Zh got) (Zh r) i lo (j-i) (by rw[Z7,ej];exact hj) h
 unfold QN Tv
 rw[hc,hl]
 have w0:=w 0 (ZyS _)
 rw[show i+0=i from rfl,ej] at w0
 rw[w0]
 cases hf:ZH (((Zh got).drop i).take (j-i)) (Zh r) 0 (j-i) with
 |none=>rfl
 | some p=>
   obtain⟨_,a2,_⟩:=Uu hf
   have w1:=w (p+(Zh r).length) a2
   rw[ej] at w1
   show (ZH (Zh got) (Zh r) (i+p+r.length) j).isSome=_
   rw[<-Z7,Zwi i p,w1,Option.isSome_map]
theorem Et  {i j:Nat}(h:j<=i):Yg (some (i:Int)) (some (j:Int)) x="":=by
 apply Qe
 rw[Yg,Cb,ZZ]
 have:YM (some (j:Int)) x.cps.toList.length x.cps.toList.length-YM (some (i:Int)) x.cps.toList.length 0=0:=by
  rw[QE,QE]
  exact ZvS (Nat.le_min.mpr ⟨Zyi (Zwp _ _) h,ZvN _ _⟩)
 rw[this];rfl
theorem Em  (hr:0<r.length):(ZyE "" r).length=1:=by
 have:ZyE "" r=([""]:List Str):=by
  unfold ZyE
  rw[if_pos]
  rw[Zwy,decide_eq_true_iff]
  exact .inl hr
 rw[this];rfl
theorem zN{got s r z:Str}(hr:0<r.length)(hk:Zx2 r=1)(hz:z.length<=got.length):
 (decide (s.length+z.length<=got.length)&&QN got r s.length (got.length-z.length))=decide (2<(ZyE (Yg (some (s.length:Int)) (some ((got.length-z.length:Nat):Int)) got) r).length):=by
 by_cases h:s.length+z.length<=got.length
 ·rw[decide_eq_true h,ZwF,EO (by lia) (by lia),Ea hr hk]
 ·rw[decide_eq_false h,Zqg,Et (by lia),Em hr];rfl
theorem zF  (K:Wt a b)(l:List Bool):Zx2 (enc a b l)=1:=MY λc hc=>by
 have:=(Dt (a:=a) (b:=b) K.ar.1 K.ar.2 K.br.1 K.br.2 (Zy7 l.length)).lo c hc
 lia
theorem zip_map  :∀{l:List β},Qv (l.map f) (l.map g)=l.map λx=>.tup [f x,g x]
 |[]=>rfl
 | x::l=>by
   have:=zip_map (f:=f) (g:=g) (l:=l)
   unfold Qv at this ⊢
   rw[ZyZ,ZyZ,List.zipWith_cons_cons,this];rfl
theorem zI         {P:Nat->Zx->Prop}(h1:YW sc x=true)(h2:U y=some (.own ds))(h3:Y0 y=true)(h4:Ym sc y=false)
 (h5:P 0 (U.set y (.val (.lst ds)))) (h6:∀j d U,ds[j]?=some d->P j U->Runs T (n+3) sc (U.set x (.val d)) body (P (j+1))):∃σ',Xj T (n+4) sc U (.For (.Name x p1) (.Name y p3) body [] p2)=some (.Z4,σ')/\P ds.length σ':=by
 have:=Dn (f:=λU d=>Xm T (n+3) sc (U.set x (.val d)) body) (P:=P) (l:=ds) 0 h5 λj U d hj hp=>by
  rw[Zxb] at hp ⊢
  exact h6 j d U hj hp
 rw[Zxb] at this
 rw[KQ (HV h2) h1 rfl (Tj (Tf (UO (by rw[h3,h4];rfl) Td) rfl))]
 exact this
theorem Gives.tN        {d0:PV}{ds:List PV}{P:Nat->Zx->Prop}(h1:YW sc x=true)(h2:U y=some (.own ds))(h3:Y0 y=true)(h4:Ym sc y=false)
 (h5:P 0 (U.set y (.val (.lst ds)))) (h6:∀j d U,ds[j]?=some d->P j U->Runs T (n+3) sc (U.set x (.val d)) body (P (j+1))) (h7:∀σ',P ds.length σ'->Gives T (n+4) sc σ' r d0):Gives T (n+5) sc U (.For (.Name x p1) (.Name y p3) body [] p2::r) d0:=by
 obtain⟨σ',e,hp⟩:=zI (P:=P) h1 h2 h3 h4 h5 h6
 exact Gives.next e (h7 _ hp)
def Iw(is:List Int)(ws:List (List Bool)):List (List Bool):=(nums is++[8,4,12]).map λx=>ws.getD (x/4%4) []
def tx(is:List Int)(ws:List (List Bool)):List Bool:=(Iw is ws).flatten
theorem zQ  (F:Wf ws)(L:List (List Bool)):(∀w∈L,w∈ws)->L.flatten.length<=3*L.length:=by
 induction L with
 |nil=>exact λ_=>Zy7 _
 | cons w L ih=>
   intro h
   rw[ZxP,Zyn,Zy4,ZqG,Zwe]
   exact Zxa (ih λv hv=>h v (.tail _ hv)) (F.size w (h w (.head _))).2
theorem Hx   (F:Wf ws):∀w∈Iw is ws,w∈ws:=λw hw=>by
 obtain⟨x,_,rfl⟩:=Zye.mp hw
 exact (getD_mem F (ZxT _ (by decide))).1
theorem Hw  :(Iw is ws).length<=11:=by
 rw[Iw,Zyl,Zyn]
 exact ZxJ (KY is) 3
theorem K8   (F:Wf ws):(tx is ws).length<=33/\ws.getD 3 []<:+tx is ws/\(∀w∈Iw is ws,w∈ws)/\(Iw is ws).length<=11:=by
 refine⟨Zyi (zQ F _ (Hx F)) (Zwf 3 Hw),?_,Hx F,Hw⟩
 have e:Iw is ws=((nums is++[8,4]).map λx=>ws.getD (x/4%4) [])++[ws.getD 3 []]:=by
  rw[Iw,Zy9,Zy9,ZyC];rfl
 rw[tx,e,Zuq,Zqy]
 exact ZqK _ _
theorem M4(x y:List Nat)(hi:Nat):∀k lo,(occs x y hi k lo).length<=k
 |0,lo=>Zy7 _
 | k+1,lo=>by
   cases h:ZH x y lo hi with
   |none=>rw[VI h];exact ZyS _
   |some p=>rw[V3 h];exact ZxX (M4 x y hi k _)
theorem split_len  (hy:0<y.length):(ZyD x (Zy8 x y 0 x.length (x.length+1)) y.length).length<=x.length+2/\(ZyE x y).length<=x.length+2:=by
 have h:(ZyD x (Zy8 x y 0 x.length (x.length+1)) y.length).length<=x.length+2:=by
  rw[KA,occ_eq _ _ _ _ _ hy]
  have:=M4 (Zh x) (Zh y) x.length (x.length+1) 0
  lia
 refine⟨h,?_⟩
 unfold ZyE
 split
 ·simp
 ·split
  ·simp
  ·exact h
theorem vJ  (hx:x.length<=1000)(hy:0<y.length):Xx "split" (.val (.str x)) [.val (.str y)]=some (.lst ((ZyE x y).map .str)):=by
 have h:=(split_len (x:=x) hy).1
 have h2:y.length≠0/\x.length<=Zyk/\(ZyD x (Zy8 x y 0 x.length (x.length+1)) y.length).length<=Zyk:=by rw[Zx1];lia
 exact (if_pos h2)
theorem LZ :Xx "startswith" (.val (.str x)) [.val (.str y)]=some (.bool (ZyY x y)):=rfl
theorem Ra :Xx "endswith" (.val (.str x)) [.val (.str y)]=some (.bool (ZyJ x y)):=rfl
structure LD(K:Y5)(is:List Int)(ws:List (List Bool))(f:PV)(U:Zx):Prop where
 la:LA K is U
 words:U "words"=some (.val (.lst (Xp K ws)))
 found:U "found"=some (.val f)
 text:U "text"=some (.val (.str (enc K.a K.b (tx is ws))))
structure Jf(A:Zx->Prop)(ts:List Str)(T SN W:Str)(U:Zx):Prop where
 rest:A U
 words:U "words"=some (.val (.lst (ts.map .str)))
 text:U "text"=some (.val (.str T))
 seen:U "seen"=some (.val (.str SN))
 one:U "one"=some (.val (.str W))
def RZ(A:Zx->Prop):Prop:=∀U (x:Str) v,(x="fits"∨x="between")->A U->A (U.set x v)
noncomputable def IX(SN W M:Str):Bool:=ZyY SN W&&(ZyJ SN M&&decide (W.length+M.length<=SN.length))
noncomputable def IY(T W B M:Str):Bool:=ZyY T W&&decide (2<(ZyE B M).length)
def lE:List ZyF:=bodyOf (Z2 10)[2]?
theorem uY(a b:Nat):decide ((a:Int)<=(b:Int))=decide (a<=b):=decide_eq_decide.mpr Zws
theorem zH(a b:Nat):decide ((a:Int)<(b:Int))=decide (a<b):=decide_eq_decide.mpr ZxQ
section
variable {S:Sg}{A:Zx->Prop}{ts:List Str}{T SN W M B:Str}{U:Zx}{Q:Zx->Prop}
theorem Jf.set(hA:RZ A)(h:Jf A ts T SN W U){x:Str}  (hx:x="fits"∨x="between"):Jf A ts T SN W (U.set x v):=by
 have e:∀{y:Str},y≠"fits"->y≠"between"->(U.set x v) y=U y:=λa b=>if_neg λe=>hx.elim (λq=>a (e.trans q)) λq=>b (e.trans q)
 exact⟨hA U x v hx h.rest,(e (by decide) (by decide)).trans h.words,(e (by decide) (by decide)).trans h.text,(e (by decide) (by decide)).trans h.seen,(e (by decide) (by decide)).trans h.one⟩
theorem fk(m1:∀nm x as,S.mt nm (.val (.str x)) as=Xx nm (.val (.str x)) as)(ml:∀d,S.cl "len" [.val d]=XO [.val d])(hA:RZ A)(zw:ts.length<=Zyk)(zb:∀m∈ts,W.length+m.length<=Zyk)(zS:SN.length<=Zyk)
 (h:Jf A ts T SN W U) (q:∀τ,Jf A ts T SN W τ->τ "fits"=some (.val (.lst (ts.map λm=>.bool (IX SN W m))))->Runs (Tn S ["words","ends"]) 45 (Zg 20) τ (lE.drop 1) Q):Runs (Tn S ["words","ends"]) 46 (Zg 20) U lE Q:=by
 generalize hb:lE=b at q ⊢
 conv at hb=>lhs;whnf
 subst hb
 have v1:=h.words;have v5:=h.seen;have v6:=h.one
 refine Runs.asg (.lst (ts.map λm=>PV.bool (IX SN W m))) (by decide) rfl rfl ?_ (q _ (h.set hA (.inl rfl)) (if_pos rfl))
 refine DI (f:=PV.str) (l:=ts) _ (by decide) (Yp ["seen","one"] (by decide) (by simp only[Zxj,ZxU,v5,v6,Zxu,Zxr])) rfl (by walk_at "ex") zw λm hm=>?_
 have e1:=@LZ SN W
 have e2:=@Ra SN m
 have e3:(W++m).length=W.length+m.length:=len_app _ _
 have z1:=zb m hm
 have e4:=uY (W.length+m.length) SN.length
 have bs:=@CP
 rw[show IX SN W m=(ZyY SN W&&(ZyJ SN m&&decide (W.length+m.length<=SN.length))) from rfl]
 generalize decide (W.length+m.length<=SN.length)=C at *
 clear q zb h
 cases hA:ZyY SN W with
 |false=>exact ZxO (b:=some (some (.bool false))) (by walk_at "ex") rfl
 | true=>
   cases hB:ZyJ SN m with
   |false=>exact ZxO (b:=some (some (.bool false))) (by walk_at "ex") rfl
   |true=>exact ZxO (b:=some (some (.bool C))) (by walk_at "ex") rfl
theorem cX(zw:ts.length<=Zyk)(z1:W.length+(ZxS "...").length<=Zyk)(z2:∀m∈ts,(W++ZxS "...").length+m.length<=Zyk)(em:∀m∈ts,S.cl "_ellipsis_match" [.val (.str (W++"..."++m)),.val (.str SN)]=some (.bool (IX SN W m)))
 (h:Jf A ts T SN W U) (hf:U "fits"=some (.val (.lst (ts.map λm=>.bool (IX SN W m))))) (q:Runs (Tn S ["words","ends"]) 44 (Zg 20) U (lE.drop 2) Q):Runs (Tn S ["words","ends"]) 45 (Zg 20) U (lE.drop 1) Q:=by
 generalize hb:lE.drop 1=b
 conv at hb=>lhs;whnf
 subst hb
 have v1:=h.words;have t1:=h.seen;have t2:=h.one
 have cn:Ys .NotEq (.val (.lst [])) (.val (.lst []))=some false:=rfl
 refine Runs.next (σ':=U) (QX (Vp tF (a:=.val (.lst [])) (b:=.val (.lst [])) ?_ (by walk_at "ex") cn) VA) q
 have zm:=@zip_map Str PV.str (λm=>PV.bool (IX SN W m)) ts
 rw[N6 (l:=ts) (f:=λm=>PV.tup [.str m,.bool (IX SN W m)]) (λ_=>none) (by decide) (Yp ["one","seen"] (by decide) (by simp only[Zxj,ZxU,t1,t2,Zxu,Zxr])) rfl (by rw[<-zm];clear zm em q;walk_at "ex") zw ?_]
 ·rw[show ts.filterMap (λ_=>(none:Option PV))=[] from Zwh.mpr λ_ _=>rfl]
 ·intro m hm
  have e1:=em m hm
  have z2:=z2 m hm
  have nh:∀x:Bool,Ys .IsNot (.val (.bool x)) (.val (.bool x))=some false:=λx=>by cases x<;>rfl
  have bs:=@CP
  clear zm em q h hf
  generalize IX SN W m=C at *
  walk_at "ex"
theorem Py(ml:∀d,S.cl "len" [.val d]=XO [.val d])(hA:RZ A)(it:ZV (.val (.lst (ts.map .str))) (.int 3)=some (.str M))(hM:M.length<=T.length)(z1:W.length<=Zyk)(z2:M.length<=Zyk)(zT:T.length<=Zyk)
 (h:Jf A ts T SN W U) (q:∀τ,Jf A ts T SN W τ->τ "between"=some (.val (.str (Yg (some (W.length:Int)) (some ((T.length-M.length:Nat):Int)) T)))->Runs (Tn S ["words","ends"]) 43 (Zg 20) τ (lE.drop 3) Q):Runs (Tn S ["words","ends"]) 44 (Zg 20) U (lE.drop 2) Q:=by
 generalize hb:lE.drop 2=b
 conv at hb=>lhs;whnf
 subst hb
 have v1:=h.words;have v2:=h.text;have t2:=h.one
 refine Runs.asg (.str (Yg (some (W.length:Int)) (some ((T.length-M.length:Nat):Int)) T)) (by decide) rfl rfl ?_ (q _ (h.set hA (.inr rfl)) (if_pos rfl))
 have e1:((T.length:Nat):Int)-(M.length:Int)=((T.length-M.length:Nat):Int):=(Zvw hM).symm
 clear q hM
 walk_at "ex"
theorem uX(m1:∀nm x as,S.mt nm (.val (.str x)) as=Xx nm (.val (.str x)) as)(ml:∀d,S.cl "len" [.val d]=XO [.val d])(hA:RZ A)(zw:ts.length<=Zyk)(zB:B.length<=1000)(zb:∀m∈ts,0<m.length)(h:Jf A ts T SN W U)(hB:U "between"=some (.val (.str B)))
 (q:∀τ,Jf A ts T SN W τ->τ "fits"=some (.val (.lst (ts.map λm=>.bool (IY T W B m))))->Runs (Tn S ["words","ends"]) 42 (Zg 20) τ (lE.drop 4) Q):Runs (Tn S ["words","ends"]) 43 (Zg 20) U (lE.drop 3) Q:=by
 generalize hb:lE.drop 3=b
 conv at hb=>lhs;whnf
 subst hb
 have v1:=h.words;have v2:=h.text;have t1:=h.one
 refine Runs.asg (.lst (ts.map λm=>PV.bool (IY T W B m))) (by decide) rfl rfl ?_ (q _ (h.set hA (.inl rfl)) (if_pos rfl))
 refine DI (f:=PV.str) (l:=ts) _ (by decide) (Yp ["text","one","between"] (by decide) (by simp only[Zxj,ZxU,v2,t1,hB,Zxu,Zxr])) rfl (by clear q;walk_at "ex") zw λm hm=>?_
 have e1:=@LZ T W
 have e2:=vJ (x:=B) (y:=m) zB (zb m hm)
 have z1:(ZyE B m).length<=Zyk:=Zyi (split_len (x:=B) (zb m hm)).2 (Zyi (ZxJ zB 2) (by decide))
 have e4:=zH 2 (ZyE B m).length
 replace e4:decide ((2:Int)<((ZyE B m).length:Int))=decide (2<(ZyE B m).length):=e4
 rw[show IY T W B m=(ZyY T W&&decide (2<(ZyE B m).length)) from rfl]
 clear q zb h
 cases hA:ZyY T W with
 |false=>exact ZxO (b:=some (some (.bool false))) (by walk_at "ex") rfl
 |true=>exact ZxO (b:=some (some (.bool (decide (2<(ZyE B m).length))))) (by walk_at "ex") rfl
theorem fh(m1:∀nm x as,S.mt nm (.val (.str x)) as=Xx nm (.val (.str x)) as)(zw:ts.length<=Zyk)(it:ZV (.val (.lst (ts.map .str))) (.int 3)=some (.str M))(jo:∀m∈ts,Zub "..." [W,m,m,M])(em:∀m∈ts,S.cl "_ellipsis_match" [.val (.str (ZwS "..." [W,m,m,M])),.val (.str T)]=some (.bool (IY T W B m)))
 (h:Jf A ts T SN W U) (hf:U "fits"=some (.val (.lst (ts.map λm=>.bool (IY T W B m))))) (q:Q U):Runs (Tn S ["words","ends"]) 42 (Zg 20) U (lE.drop 4) Q:=by
 generalize hb:lE.drop 4=b
 conv at hb=>lhs;whnf
 subst hb
 have v1:=h.words;have v2:=h.text;have t2:=h.one
 have cn:Ys .NotEq (.val (.lst [])) (.val (.lst []))=some false:=rfl
 refine Runs.next (σ':=U) (QX (Vp tF (a:=.val (.lst [])) (b:=.val (.lst [])) ?_ (by walk_at "ex") cn) VA) (Runs.nil q)
 have zm:=@zip_map Str PV.str (λm=>PV.bool (IY T W B m)) ts
 rw[N6 (l:=ts) (f:=λm=>PV.tup [.str m,.bool (IY T W B m)]) (λ_=>none) (by decide) (Yp ["one","words","text"] (by decide) (by simp only[Zxj,ZxU,t2,v1,v2,Zxu,Zxr])) rfl (by rw[<-zm];clear zm em jo;walk_at "ex") zw ?_]
 ·rw[show ts.filterMap (λ_=>(none:Option PV))=[] from Zwh.mpr λ_ _=>rfl]
 ·intro m hm
  have e1:=em m hm
  have jo:=Ci (x:="...") (l:=[W,m,m,M]) (jo m hm)
  replace jo:Xx "join" (.val (.str "...")) [.val (.lst [.str W,.str m,.str m,.str M])]=_:=jo
  have nh:∀x:Bool,Ys .IsNot (.val (.bool x)) (.val (.bool x))=some false:=λx=>by cases x<;>rfl
  clear zm em h hf
  generalize IY T W B m=C at *
  walk_at "ex"
end
section
variable {S:Sg}{c:Zya}{b1:Int->Bool}{b3:Int->Option Str}{K:Y5}{is:List Int}{ws:List (List Bool)}{d f:PV}{U:Zx}
theorem EV(H:VS S c b1 b3)(hL:LW K ws 4)  (h:LC K is ws f U)(hr:Z2 10=(Z2 10).take 1++r)(q:Gives (Tn S ["words","ends"]) 49 (Zg 20) (U.set "text" (.val (.str (enc K.a K.b (tx is ws))))) r d):Gives (Tn S ["words","ends"]) 50 (Zg 20) U (Z2 10) d:=by
 generalize hb:Z2 10=b at hr ⊢
 conv at hb=>lhs;whnf
 subst hb
 cases hr
 have F:=hL.four
 obtain⟨x1,x2,x3,x4⟩:=K8 (is:=is) F
 have s1:=h.la.numbers;have s2:=h.words
 have m1:=H.mt
 have d4:=dv (y:=4) 4 rfl (by decide) (λx=>rfl)
 have e4:=md (y:=4) 4 rfl (by decide)
 refine Gives.asg (.str (enc K.a K.b (tx is ws))) (by decide) rfl rfl ?_ q
 clear q
 refine Kp (a:=.val (.str "")) (as:=[.val (.lst (((Iw is ws).map (enc K.a K.b)).map .str))]) tT Tq (VP tT ?_ Ur) ?_
 rotate_left
 ·have mj:=Ci (x:="") (l:=(Iw is ws).map (enc K.a K.b)) (GH (by decide) (by rw[Zyl];exact Zyi x4 (by decide)) λy hy=>by
   obtain⟨w,hw,rfl⟩:=Zye.mp hy
   rw[ZA];exact Zyi (F.size w (x3 w hw)).2 (by decide))
  rw[Df] at mj
  rw[m1,mj,tx]
 rw[PC (l:=nums is++[8,4,12]) (f:=λn:Nat=>PV.int n) (λx=>some (.str (enc K.a K.b (ws.getD (x/4%4) [])))) (by decide) (Yp ["words"] (by decide) (by simp only[Zxj,ZxU,s2,Zxu,Zxr])) rfl ?_ (by rw[Zyn];exact Zyi (ZxJ (KY is) 3) (by decide)) ?_ ?_ ?_]
 ·have e:(nums is++[8,4,12]).filterMap (λx=>some (PV.str (enc K.a K.b (ws.getD (x/4%4) []))))=((Iw is ws).map (enc K.a K.b)).map .str:=by
   rw[Iw,ZyM,ZyM];exact Zqf ▸ rfl
  rw[e]
 ·have e:(nums is++[8,4,12]).map (λn:Nat=>PV.int n)=Y3 (nums is)++[.int 8,.int 4,.int 12]:=by rw[Zy9];rfl
  have bl:YC .Add (.val (.lst (Y3 (nums is)))) (.val (.lst [.int 8,.int 4,.int 12]))=some (.lst (Y3 (nums is)++[.int 8,.int 4,.int 12])):=PL (by rw[Y3,Zyl];exact Zyi (ZxJ (KY is) 3) (by decide))
  rw[e]
  walk_at "ex"
 ·intro x _
  have h4:x/4%4<4:=ZxT _ (by decide)
  have it:ZV (.val (.lst (Xp K ws))) (.int ((x/4%4:Nat):Int))=some (.str (enc K.a K.b (ws.getD (x/4%4) []))):=by
   rw[Xp,QU (Zyi (Zx5 h4) (by decide)),ZyQ,ZyQ,(getD_mem F h4).2];rfl
  walk_at "ex"
 ·intro x _;left;walk_at "ex"
 ·rw[ZyV];intro y hy
  obtain⟨x,_,e⟩:=Zvq.mp hy
  cases e;rfl
theorem EW  (H:VS S c b1 b3)(hK:K∈Wo)(hL:LW K ws 4)  (hA:RZ A)(lS:W0 100 SN)  (pN:w∈ws)(h:Jf A (ws.map (enc K.a K.b)) (enc K.a K.b (tx is ws)) SN (enc K.a K.b w) U)
 (q:∀τ,Jf A (ws.map (enc K.a K.b)) (enc K.a K.b (tx is ws)) SN (enc K.a K.b w) τ->Q τ):Runs (Tn S ["words","ends"]) 46 (Zg 20) U lE Q:=by
 have hG:=J7 _ hK
 have F:=hL.four
 obtain⟨x1,x2,_,_⟩:=K8 (is:=is) F
 obtain⟨S',Io,em⟩:=H.em
 have l3:∀{m},m∈ws->0<(enc K.a K.b m).length/\(enc K.a K.b m).length<=3/\W0 100 (enc K.a K.b m):=λ{m} hm=>by
  rw[ZA];exact⟨(F.size m hm).1,(F.size m hm).2,Qq hG.ok (F.size m hm).2 (by decide)⟩
 have lT:W0 100 (enc K.a K.b (tx is ws)):=Qq hG.ok x1 (by decide)
 have zz:∀{m},m<=200->m<=Zyk:=λh=>Zyi h (by decide)
 have w3:=getD_mem F (show 3<4 by decide)
 have hw:=l3 pN
 have h3:=l3 w3.1
 have zw:(ws.map (enc K.a K.b)).length<=Zyk:=by rw[Zyl,hL.len];decide
 have al:∀{P:Str->Prop},(∀m∈ws,P (enc K.a K.b m))->∀x∈ws.map (enc K.a K.b),P x:=λh x hx=>(Zye.mp hx).elim λm e=>e.2 ▸ h m e.1
 have it:ZV (.val (.lst ((ws.map (enc K.a K.b)).map .str))) (.int 3)=some (.str (enc K.a K.b (ws.getD 3 []))):=by
  refine (QU (n:=3) (by decide)).trans ?_
  rw[ZyQ,ZyQ,w3.2];rfl
 have hM:(enc K.a K.b (ws.getD 3 [])).length<=(enc K.a K.b (tx is ws)).length:=by rw[ZA,ZA];exact x2.length_le
 have FA:ZyJ (enc K.a K.b (tx is ws)) (enc K.a K.b (ws.getD 3 []))=true:=by rw[QR hG.ok.ne,decide_eq_true_iff];exact x2
 refine fk H.mt H.len hA zw (al λm hm=>zz (Zyi (Zxa hw.2.1 (l3 hm).2.1) (by decide))) (lS.fits (by decide)) h λτ h hf=>?_
 refine cX zw (zz (Zyi (ZxJ hw.2.1 3) (by decide))) (al λm hm=>zz (by rw[len_app];exact Zyi (Zxa (ZxJ hw.2.1 3) (l3 hm).2.1) (by decide))) (al λm hm=>by
  rw[em]
  exact emT Io hw.2.2 (l3 hm).2.2 lS hw.1 (l3 hm).1) h hf ?_
 refine Py H.len hA it hM (zz (Zyi hw.2.1 (by decide))) (zz (Zyi h3.2.1 (by decide))) (lT.fits (by decide)) h λτ h hB=>?_
 refine uX H.mt H.len hA zw (Zyi (Aj _ _ _) (Zyi lT.len (by decide))) (al λm hm=>(l3 hm).1) h hB λτ h hf=>?_
 refine fh H.mt zw it (al λm hm=>GH (by decide) (by decide:4<=100) λy hy=>?_) (al λm hm=>?_) h hf (q _ h)
 ·simp only[ZyT,ZxY,or_false] at hy
  rcases hy with rfl |rfl |rfl |rfl
  ·exact Zyi hw.2.1 (by decide)
  ·exact Zyi (l3 hm).2.1 (by decide)
  ·exact Zyi (l3 hm).2.1 (by decide)
  ·exact Zyi h3.2.1 (by decide)
 ·rw[em,emF Io hw.2.2 (l3 hm).2.2 h3.2.2 lT hw.1 (l3 hm).1 h3.1 FA,zN (l3 hm).1 (zF hG.ok m) hM];rfl
end
theorem hJ     (H:VS S c b1 b3){K:Y5}(hK:K∈Wo)   (hL:LW K ws 4)
 (hk:∀U,LD K is ws f U->Gives (LT S) 47 (Zg 20) U (Z2 13) d)  (h0:LC K is ws f U) (hf:jb K ws f):Gives (LT S) 50 (Zg 20) U (Z2 10) d:=by
 refine EV H hL h0 rfl ?_
 have hk:∀U,LD K is ws f U->Gives (Tn S ["words","ends"]) 47 (Zg 20) U (Z2 13) d:=hk
 have aV:∀U (w:List Bool) {SN:Str},w∈ws->W0 100 SN->Jf (λU=>LA K is U/\U "found"=some (.val f)) (ws.map (enc K.a K.b)) (enc K.a K.b (tx is ws)) SN (enc K.a K.b w) U->Runs (Tn S ["words","ends"]) 46 (Zg 20) U lE λU=>LD K is ws f U/\U "seen"=some (.val (.str SN)):=λU w SN hw lS h=>
  EW H hK hL (λU x v hx h=>by rcases hx with rfl |rfl<;>exact⟨h.1.set (by decide),(if_neg (by decide)).trans h.2⟩) lS hw h λτ h=>⟨⟨h.rest.1,h.words,h.rest.2,h.text⟩,h.seen⟩
 have lN:∀l:List Bool,l.length<=100->W0 100 (enc K.a K.b l):=λl h=>Qq (J7 _ hK).ok h (Zy7 _)
 have x1:=(K8 (is:=is) hL.four).1
 obtain⟨SN,b,lS,h2,h3⟩:∃SN b,W0 100 SN/\Ys .Is (.val f) (.val .none)=some b/\ZV (.val (.lst [f,.str (enc K.a K.b (tx is ws))])) (.bool b)=some (.str SN):=by
  rcases hf with ⟨rfl,_⟩ |⟨t,rfl,_,_,ht⟩
  ·exact⟨_,true,lN (tx is ws) (Zyi x1 (by decide)),rfl,rfl⟩
  ·exact⟨_,false,lN t (Zyi ht (by decide)),rfl,rfl⟩
 generalize hE:lE=eb at aV
 generalize hb:(Z2 10).drop 1=b'
 have YF:Z2 13=b'.drop 2:=by rw[<-hb];rfl
 have N0:eb=bodyOf b'[1]?:=by rw[<-hb,<-hE];rfl
 rw[YF] at hk
 clear YF hE
 conv at hb=>lhs;whnf
 subst hb
 subst N0
 generalize hT:enc K.a K.b (tx is ws)=T at *
 have s2:=h0.words;have s3:=h0.found
 have hA:=h0.la
 clear h0 hf x1 hK
 refine Gives.asg (.str SN) (by decide) rfl rfl (by walk_at "ex") ?_
 refine Gives.tN (P:=λj U=>LD K is ws f U/\U "seen"=some (.val (.str SN))) (by decide) (y:="words") (ds:=Xp K ws) (by walk_at "ex") (by decide) (by decide) ⟨⟨((hA.set (by decide)).set (by decide)).set (by decide),by walk_at "ex",by walk_at "ex",by rw[hT];walk_at "ex"⟩,by walk_at "ex"⟩ (λj v U hj h=>?_) (λσ' h=>hk _ h.1)
 rw[Xp,ZyM,ZyQ] at hj
 obtain⟨w,h1,rfl⟩:=mS hj
 exact aV _ w (ZyH h1) lS ⟨⟨h.1.la.set (by decide),(if_neg (by decide)).trans h.1.found⟩,(if_neg (by decide)).trans h.1.words,(if_neg (by decide)).trans (hT ▸ h.1.text),(if_neg (by decide)).trans h.2,if_pos rfl⟩
theorem fold_max:∀(l:List Int)(a m:Int),a<=m->(∀x∈l,x<=m)->l.foldl max a<=m
 |[],a,m,h,_=>h
 | x::l,a,m,h,hl=>by
   rw[Zw0]
   exact fold_max l _ m (Int.max_le.mpr ⟨h,hl x (by simp)⟩) λy hy=>hl y (by simp [hy])
theorem Dg:∀(l:List Int)(a:Int),a<=l.foldl max a/\∀x∈l,x<=l.foldl max a
 |[],a=>⟨Zqz _,λx hx=>by cases hx⟩
 | y::l,a=>by
   rw[Zw0]
   obtain⟨h1,h2⟩:=Dg l (max a y)
   refine⟨ZqV (Zje a y) h1,λx hx=>?_⟩
   rcases ZyT.mp hx with rfl |hx
   ·exact ZqV (Int.le_max_right a x) h1
   ·exact h2 x hx
theorem M8   (hn:l≠[])(h:∀x∈l,x<=m):maxOf l<=m:=by
 cases l with
 |nil=>exact absurd rfl hn
 |cons a l=>exact fold_max l a m (h a (by simp)) λy hy=>h y (by simp [hy])
theorem OI   (h:x∈l):x<=maxOf l:=by
 cases l with
 |nil=>cases h
 | cons a l=>
   rcases ZyT.mp h with rfl |h
   ·exact (Dg l x).1
   ·exact (Dg l a).2 x h
theorem M7  (h:l≠[]):I8 [.val (.lst (l.map .int))]=some (.int (maxOf l)):=by
 show (((l.map PV.int).mapM G0).bind _)=_
 rw[Mg,Zy2,if_pos h]
theorem Pq(n d:Nat):YM (some (-1)) n d=n-1:=by
 cases n with
 |zero=>rfl
 | succ n=>
   have e:(-1:Int)+((n+1:Nat):Int)=n:=by lia
   show (max 0 (min ((-1:Int)+((n+1:Nat):Int)) ((n+1:Nat):Int))).toNat=n
   rw[e,Zjr (Zws.mpr (Nat.le_succ n)),ZvB (Zwn n)];rfl
theorem SF  :ZZ none (some (-1)) l=l.take (l.length-1):=by
 rw[ZZ]
 rw[Pq];rfl
theorem g7   (hl:0<ds.length)(h:ds[ds.length-1]?=some d):ZV (.val (.lst ds)) (.int (-1))=some d:=by
 have h1:ZJ 0 (2 ^ 63) (-1)=false:=by unfold ZJ;rw[Bool.and_eq_false_iff];left;decide
 have h2:ZJ (-(2 ^ 63)) 0 (-1)=true:=by unfold ZJ;rw[ZyW,decide_eq_true_eq,decide_eq_true_eq];lia
 have h3:decide (-(ds.length:Int)<=-1)=true:=decide_eq_true (Int.neg_le_neg (Zws.mpr hl))
 have h4:((-1:Int)+(ds.length:Int)).toNat=ds.length-1:=by rw[ZqJ];exact Int.toNat_sub ds.length 1
 rw[aY rfl,h1,h2,h3,h4,h];rfl
theorem Gives.ya         (h:Yi T.sg n sc U t=some true)(h2:Gives T n sc U body d):Gives T (n+2) sc U (.If t body LN p::r) d:=by
 obtain⟨σ',e⟩:=h2
 refine Gives.ret (σ':=σ') ?_
 exact Ue h e
theorem HJ  (h0:[]∉ws)(h:VM ws A []):A=[]:=by
 cases A with
 |nil=>rfl
 | cons a A=>
   have e:=h.2
   rw[ZxP,Zqx] at e
   exact absurd (e.1 ▸ h.1 a (by simp)) h0
theorem uS  (h0:[]∉ws)  (h:XD ws t):0<t.length:=by
 cases t with
 | nil=>
   obtain⟨A,B,hn,hA,hB⟩:=h
   exact absurd ((HJ h0 hA).trans (HJ h0 hB).symm) hn
 |cons _ _=>simp
structure LE(K:Y5)(is:List Int)(ws:List (List Bool))(U:Zx):Prop where
 la:LA K is U
 words:U "words"=some (.val (.lst (Xp K ws)))
 FX:U "ways"=some (.val (.lst ((wl ws (tx is ws) (tx is ws).length).map .int)))
section
variable {S:Sg}{U:Zx}{W:PV}{T f:PV}{tt:Str}{A B A' B':List Int}{VL:Int}{d:PV}
theorem EY(wx:S.cl "_law_ways" [.val W,.val T]=some (.lst (A.map .int)))(s2:U "words"=some (.val W))(s4:U "text"=some (.val T))(q:Gives (Tn S ["words","ends"]) 46 (Zg 20) (U.set "ways" (.val (.lst (A.map .int)))) (Z2 14) d):Gives (Tn S ["words","ends"]) 47 (Zg 20) U (Z2 13) d:=by
 generalize hb:Z2 13=b
 have YF:Z2 14=b.drop 1:=by rw[<-hb];rfl
 rw[YF] at q
 clear YF
 conv at hb=>lhs;whnf
 subst hb
 exact Gives.asg (.lst (A.map .int)) (by decide) rfl rfl (by clear q;walk_at "ex") q
theorem EX(t2:U "found"=some (.val .none))(q:Gives (Tn S ["words","ends"]) 45 (Zg 20) U (Z2 15) d):Gives (Tn S ["words","ends"]) 46 (Zg 20) U (Z2 14) d:=by
 generalize hb:Z2 14=b
 have YF:Z2 15=b.drop 1:=by rw[<-hb];rfl
 rw[YF] at q
 clear YF
 conv at hb=>lhs;whnf
 subst hb
 have ci:Ys .IsNot (.val .none) (.val .none)=some false:=rfl
 exact Gives.next (σ':=U) (by clear q;walk_at "ex") q
theorem SK(ml:∀d,S.cl "len" [.val d]=XO [.val d])(mm:∀d,S.cl "max" [.val d]=I8 [.val d])(wt:S.cl "_law_ways" [.val W,.val (.str tt)]=some (.lst (B.map .int)))(p1:ZZ none (some (tt.length:Int)) (A.map PV.int)=A'.map .int)(p2:ZZ none (some (-1)) (B.map PV.int)=B'.map .int)
 (mx:I8 [.val (.lst (A'.map .int++B'.map .int))]=some (.int 1)) (la:ZV (.val (.lst (B.map .int))) (.int (-1))=some (.int VL)) (d1:decide ((1:Int)<VL)=true) (zA:(A.map PV.int).length<=Zyk) (zB:(B.map PV.int).length<=Zyk) (zt:tt.length<=Zyk)
 (bl:YC .Add (.val (.lst (A'.map .int))) (.val (.lst (B'.map .int)))=some (.lst (A'.map .int++B'.map .int))) (t1:U "words"=some (.val W)) (t2:U "found"=some (.val (.str tt))) (t3:U "ways"=some (.val (.lst (A.map .int)))):Gives (Tn S ["words","ends"]) 46 (Zg 20) U (Z2 14) (.bool true):=by
 generalize hb:Z2 14=b
 conv at hb=>lhs;whnf
 subst hb
 have ci:∀y:Str,Ys .IsNot (.val (.str y)) (.val .none)=some true:=λy=>rfl
 generalize A.map PV.int=A at *
 generalize B.map PV.int=B at *
 generalize A'.map PV.int=A' at *
 generalize B'.map PV.int=B' at *
 refine Gives.ya (by walk_at "ex") ?_
 refine Gives.asg (.lst B) (by decide) rfl rfl (by walk_at "ex") ?_
 exact Gives.ret (by walk_at "ex")
end
theorem As  {u t:List Bool}(F:Wf ws)(V8:[]∉ws)(CT:∀v,XD ws v->t.length<=v.length):∀x∈(wl ws u u.length).take t.length,x<=1:=
 yA F.nodup V8 (λj hj Fb h=>ZuJ (CT _ h) (Zxo (Zyi (Zxc ZxZ) (Zwp _ _)) hj)) (Zy7 _)
theorem RX(ws:List (List Bool))(t:List Bool)  (h:j<=k):(wl ws t k)[j]?=some (vl ws t j):=by
 have hl:j<(wl ws t k).length:=(W9 ws t k).symm ▸ Zu5 h
 have e:=DF ws t h
 rw[gD,gE hl] at e
 rw[gE hl]
 exact congrArg some e
theorem hU     (H:VS S c b1 b3){K:Y5}(hK:K∈Wo)   (hL:LW K ws 4)
 (hk:∀U,LE K is ws U->(∀u,¬XD ws u)->Gives (LT S) 45 (Zg 20) U (Z2 15) (.bool true))  (h0:LD K is ws f U) (hf:jb K ws f):Gives (LT S) 47 (Zg 20) U (Z2 13) (.bool true):=by
 have hG:=J7 _ hK
 have F:=hL.four
 have V8:[]∉ws:=λh=>absurd (F.size _ h).1 (Zx7 _)
 have x1:=(K8 (is:=is) F).1
 have wy:∀t:List Bool,t.length<=100->S.cl "_law_ways" [.val (.lst (Xp K ws)),.val (.str (enc K.a K.b t))]=some (.lst ((wl ws t t.length).map .int)):=λt ht=>by
  have:=H.FX (ws.map (enc K.a K.b)) (enc K.a K.b t) (λw hw=>by
   obtain⟨v,hv,rfl⟩:=Zye.mp hw
   have:=F.size v hv
   rw[ZA];lia) (by rw[Zyl,hL.len];decide) (by rw[ZA];lia)
  rw[RV,Mb hG.ok.ne ws t _ (by rw[ZA];exact Zy7 _),ZA] at this
  exact this
 have zw:∀t:List Bool,t.length<=100->((wl ws t t.length).map PV.int).length<=Zyk:=λt ht=>by rw[Zyl,W9];exact Zyi (ZxX ht) (by decide)
 have bK:=Zyi x1 (by decide:33<=100)
 have e:∀{y:Str}{v:AV},y≠"ways"->(U.set "ways" v) y=U y:=λh=>if_neg h
 refine EY (wy (tx is ws) bK) h0.words h0.text ?_
 rcases hf with ⟨rfl,hu⟩ |⟨t,rfl,ha,CT,ht⟩
 ·exact EX ((e (by decide)).trans h0.found) (hk _ ⟨h0.la.set (by decide),(e (by decide)).trans h0.words,if_pos rfl⟩ hu)
 ·have qX:=Zyi ht (by decide:20<=100)
  have g:=(Pl.good (t:=t) F.nodup V8 t.length (Zy7 _)).2.2
  rw[Zx6 (Zy7 _)] at g
  have CH:=uS V8 ha
  have oS:(1:Int)∈(wl ws t t.length).take t.length:=ZyH (i:=0) ((List.getElem?_take_of_lt CH).trans (RX ws t (ZyS _)))
  have hm:=Zww ((wl ws (tx is ws) (tx is ws).length).take t.length) oS
  have qI:maxOf ((wl ws (tx is ws) (tx is ws).length).take t.length++(wl ws t t.length).take t.length)=1:=
   Int.le_antisymm (M8 (Zuh hm) λx hx=>(ZyN.mp hx).elim (As F V8 CT x) (As F V8 CT x)) (OI hm)
  have mx:=M7 (Zuh hm)
  rw[qI,Zy9] at mx
  have et:(enc K.a K.b t).length=t.length:=ZA t
  refine SK (A':=(wl ws (tx is ws) (tx is ws).length).take t.length) (B':=(wl ws t t.length).take t.length) (VL:=vl ws t t.length) H.len H.max (wy t qX) (by rw[et,IT,JX]) (by rw[IT,SF,W9];rfl) mx (g7 (by rw[Zyl,W9];exact Zvc _) (by
   rw[Zyl,W9,ZyQ,ZqW,RX ws t (Zy7 _)];rfl)) (decide_eq_true (Int.lt_of_lt_of_le (by decide) (g.mpr ha))) (zw _ bK) (zw t qX) (et.symm ▸ Zyi qX (by decide)) (PL ?_) ((e (by decide)).trans h0.words) ((e (by decide)).trans h0.found) (if_pos rfl)
  rw[Zyl,Zyl]
  exact Zyi (Zxa (Zyi (Zxc ZxZ) (Zwp _ _)) (Zyi (Zxc ZxZ) (Zwp _ _))) (Zyi (Zxa ht ht) (by decide))
def X3(is:List Int):List Bool:=(Zxv 9).map λk=>WL is/10/2 ^ k%2==1
theorem Be(is:List Int):(X3 is).length=9:=by simp [X3]
structure LF(K:Y5)(is:List Int)(ws:List (List Bool))(U:Zx)(E:List Nat):Prop where
 words:U "words"=some (.val (.lst (Xp K ws)))
 drawn:U "drawn"=some (.val (.str (enc K.a K.b (X3 is))))
 ends : U "ends" = some (.own (Y3 E))
theorem D9{P:Nat->Prop}  (a:∀k,k<n->P k)(b:P n):∀k,k<n+1->P k:=λk h=>(Zvu (ZwB h)).elim (a k) λe=>e ▸ b
theorem j7{P:Nat->Prop}(h0:P 0)(h1:P 1)(h2:P 2)(h3:P 3)(h4:P 4)(h5:P 5)(h6:P 6)(h7:P 7)(h8:P 8):∀k,k<9->P k:=
 D9 (D9 (D9 (D9 (D9 (D9 (D9 (D9 (D9 (λk h=>absurd h (Zv2 k)) h0) h1) h2) h3) h4) h5) h6) h7) h8
theorem jE(k:Nat)(h:k<9):YC .Pow (.val (.int 2)) (.val (.int (k:Int)))=some (.int ((2 ^ k:Nat):Int)):=
 j7 (P:=λk=>YC .Pow (.val (.int 2)) (.val (.int (k:Int)))=some (.int ((2 ^ k:Nat):Int))) rfl rfl rfl rfl rfl rfl rfl rfl rfl k h
theorem xQ(n k:Nat)(h:k<9):YC .FloorDiv (.val (.int (n:Int))) (.val (.int ((2 ^ k:Nat):Int)))=some (.int ((n/2 ^ k:Nat):Int)):=
 j7 (P:=λk=>YC .FloorDiv (.val (.int (n:Int))) (.val (.int ((2 ^ k:Nat):Int)))=some (.int ((n/2 ^ k:Nat):Int))) (dv 1 rfl (by decide) (λ_=>rfl) n) (dv 2 rfl (by decide) (λ_=>rfl) n) (dv 4 rfl (by decide) (λ_=>rfl) n) (dv 8 rfl (by decide) (λ_=>rfl) n) (dv 16 rfl (by decide) (λ_=>rfl) n) (dv 32 rfl (by decide) (λ_=>rfl) n) (dv 64 rfl (by decide) (λ_=>rfl) n) (dv 128 rfl (by decide) (λ_=>rfl) n) (dv 256 rfl (by decide) (λ_=>rfl) n) k h
section
variable {S:Sg}{U:Zx}{d W:PV}{ts:List Str}{w:Nat}{M:Int}{K:Y5}{is:List Int}
noncomputable def wS(x:Str):Nat:=8/2 ^ x.length
theorem SQ(ml:∀d,S.cl "len" [.val d]=XO [.val d])(ms:∀d,S.cl "sum" [.val d]=I7 [.val d])(zw:ts.length<=Zyk)(z3:∀m∈ts,m.length<=3)(s2:U "words"=some (.val (.lst (ts.map .str))))
 (q:Gives (Tn S ["words","ends"]) 44 (Zg 20) (U.set "worth" (.val (.int ((ts.map wS).sum:Nat)))) (Z2 16) d):Gives (Tn S ["words","ends"]) 45 (Zg 20) U (Z2 15) d:=by
 generalize hb:Z2 15=b
 have YF:Z2 16=b.drop 1:=by rw[<-hb];rfl
 rw[YF] at q
 clear YF
 conv at hb=>lhs;whnf
 subst hb
 refine Gives.asg (.int ((ts.map wS).sum:Nat)) (by decide) rfl rfl ?_ q
 clear q
 refine DC tT (as:=[.val (.lst (Y3 (ts.map wS)))]) (VP tT ?_ Ur) ((ms _).trans (Gy _))
 rw[DI (f:=PV.str) (l:=ts) (λm=>PV.int (wS m:Nat)) (by decide) (Yp [] (by decide) rfl) rfl (by walk_at "ex") zw ?_]
 ·rw[show (ts.map λm=>PV.int (wS m:Nat))=Y3 (ts.map wS) from by rw[Y3,ZyM];rfl]
 ·intro m hm
  have h3:=z3 m hm
  have e1:=jE m.length (Zxo h3 (by decide))
  have e2:=xQ 8 m.length (Zxo h3 (by decide))
  have e4:m.length<=Zyk:=Zyi h3 (by decide)
  replace e2:YC .FloorDiv (.val (.int 8)) (.val (.int ((2 ^ m.length:Nat):Int)))=some (.int ((wS m:Nat):Int)):=e2
  clear z3 hm h3
  generalize wS m=WT at *
  generalize 2 ^ m.length=P at *
  walk_at "ex"
theorem OB(mm:∀d,S.cl "max" [.val d]=I8 [.val d])(mx:I8 [.val W]=some (.int M))(d1:decide ((1:Int)<M)=false)(d2:decide ((8:Int)<(w:Int))=false)(t2:U "ways"=some (.val W))(t3:U "worth"=some (.val (.int w)))
 (q:Gives (Tn S ["words","ends"]) 43 (Zg 20) U (Z2 17) d):Gives (Tn S ["words","ends"]) 44 (Zg 20) U (Z2 16) d:=by
 generalize hb:Z2 16=b
 have YF:Z2 17=b.drop 1:=by rw[<-hb];rfl
 rw[YF] at q
 clear YF
 conv at hb=>lhs;whnf
 subst hb
 exact Gives.next (σ':=U) (by clear q;walk_at "ex") q
theorem E8(h8:w<8)(t3:U "worth"=some (.val (.int w))):Gives (Tn S ["words","ends"]) 43 (Zg 20) U (Z2 17) (.bool true):=by
 generalize hb:Z2 17=b
 conv at hb=>lhs;whnf
 subst hb
 have d3:decide ((w:Int)<8)=true:=decide_eq_true (ZxQ.mpr h8)
 exact Gives.ya (by walk_at "ex") (Gives.ret (by walk_at "ex"))
theorem E9(h8:¬w<8)(t3:U "worth"=some (.val (.int w)))(q:Gives (Tn S ["words","ends"]) 42 (Zg 20) U (Z2 18) d):Gives (Tn S ["words","ends"]) 43 (Zg 20) U (Z2 17) d:=by
 generalize hb:Z2 17=b
 have YF:Z2 18=b.drop 1:=by rw[<-hb];rfl
 rw[YF] at q
 clear YF
 conv at hb=>lhs;whnf
 subst hb
 have d3:decide ((w:Int)<8)=false:=decide_eq_false λe=>h8 (ZxQ.mp e)
 exact Gives.next (σ':=U) (by clear q;walk_at "ex") q
theorem Pg(l:List Bool):(l.map λx=>[x]).flatten=l:=by
 induction l with
 |nil=>rfl
 |cons x l ih=>rw[ZyZ,ZxP,ih];rfl
theorem SJ(m1:∀nm x as,S.mt nm (.val (.str x)) as=Xx nm (.val (.str x)) as)(t4:U "total"=some (.val (.int (WL is:Nat))))(t5:U "kin"=some (.val (WB K)))(q:Gives (Tn S ["words","ends"]) 41 (Zg 20) (U.set "drawn" (.val (.str (enc K.a K.b (X3 is))))) (Z2 19) d):Gives (Tn S ["words","ends"]) 42 (Zg 20) U (Z2 18) d:=by
 generalize hb:Z2 18=b
 have YF:Z2 19=b.drop 1:=by rw[<-hb];rfl
 rw[YF] at q
 clear YF
 conv at hb=>lhs;whnf
 subst hb
 refine Gives.asg (.str (enc K.a K.b (X3 is))) (by decide) rfl rfl ?_ q
 clear q
 have z9:ZJ (-(2 ^ 62)) (2 ^ 62) 9=true:=VY (by decide) (by decide)
 refine Kp (a:=.val (.str "")) (as:=[.val (.lst ((((X3 is).map λx=>[x]).map (enc K.a K.b)).map .str))]) tT Tq (VP tT ?_ Ur) ?_
 rotate_left
 ·have mj:=Ci (x:="") (l:=((X3 is).map λx=>[x]).map (enc K.a K.b)) (GH (by decide) (by rw[Zyl,Zyl,Be];decide) λy hy=>by
   obtain⟨w,hw,rfl⟩:=Zye.mp hy
   obtain⟨x,_,rfl⟩:=Zye.mp hw
   rw[ZA];exact (by decide:1<=100))
  rw[Df,Pg] at mj
  rw[m1,mj]
 rw[DI (f:=λi:Nat=>PV.int i) (l:=Zxv 9) (λk=>PV.str (enc K.a K.b [WL is/10/2 ^ k%2==1])) (by decide) (Yp ["kin","total"] (by decide) (by simp only[Zxj,ZxU,t4,t5,Zxu,Zxr])) rfl (by rw[<-jR];walk_at "ex") (by decide) ?_]
 ·rw[show (Zxv 9).map (λk=>PV.str (enc K.a K.b [WL is/10/2 ^ k%2==1]))=(((X3 is).map λx=>[x]).map (enc K.a K.b)).map .str from by rw[X3,ZyM,ZyM,ZyM];rfl]
 ·intro k hk
  have qC:k<9:=Zui.mp hk
  have e0:ZV (.val (WB K)) (.int 0)=some (.str (ZK [K.a,K.b])):=rfl
  have d10:=dv (y:=10) 10 rfl (by decide) (λx=>rfl) (WL is)
  have e1:=jE k qC
  have e2:=xQ (WL is/10) k qC
  have e3:=md (y:=2) 2 rfl (by decide) (WL is/10/2 ^ k)
  have hm:WL is/10/2 ^ k%2<2:=ZxT _ (by decide)
  have e4:=NP K hm
  rw[<-Cm K hm] at e4
  clear hm hk qC
  generalize enc K.a K.b [WL is/10/2 ^ k%2==1]=RR at *
  generalize WL is/10/2 ^ k%2=N3 at *
  generalize WL is/10/2 ^ k=N2 at *
  generalize 2 ^ k=P at *
  generalize WL is/10=N1 at *
  walk_at "ex"
theorem EZ(q:Gives (Tn S ["words","ends"]) 40 (Zg 20) (U.set "ends" (.own [.int 0])) (Z2 20) d):Gives (Tn S ["words","ends"]) 41 (Zg 20) U (Z2 19) d:=by
 generalize hb:Z2 19=b
 have YF:Z2 20=b.drop 1:=by rw[<-hb];rfl
 rw[YF] at q
 clear YF
 conv at hb=>lhs;whnf
 subst hb
 exact Gives.next (σ':=U.set "ends" (.own [.int 0])) (by clear q;walk_at "ex") q
end
theorem hV     (H:VS S c b1 b3){K:Y5}(hK:K∈Wo)   (hL:LW K ws 4)(hu:∀u,¬XD ws u)
 (hk:∀U,LF K is ws U [0]->worth ws=8->Gives (LT S) 40 (Zg 20) U (Z2 20) (.bool true))  (h0:LE K is ws U):Gives (LT S) 45 (Zg 20) U (Z2 15) (.bool true):=by
 have F:=hL.four
 have V8:[]∉ws:=λh=>absurd (F.size _ h).1 (Zx7 _)
 have kr:=(x5 hL.len hL.nodup hL.size hu).1
 have eW:((ws.map (enc K.a K.b)).map wS).sum=worth ws:=by
  rw[ZyM]
  exact congrArg List.sum (Zw6 λm _=>congrArg (λn=>8/2 ^ n) (ZA (a:=K.a) (b:=K.b) m))
 have XA:wl ws (tx is ws) (tx is ws).length≠[]:=List.ne_nil_of_length_pos ((W9 ws (tx is ws) _).symm ▸ Zvc _)
 have qI:maxOf (wl ws (tx is ws) (tx is ws).length)<=1:=M8 XA λx hx=>yA (n:=(tx is ws).length+1) F.nodup V8 (λj _ _=>hu _) (Zy7 _) x (by rw[Zx6 (by rw[W9];exact Zy7 _)];exact hx)
 have e:∀{U:Zx}{y x:Str}{v:AV},¬y=x->(U.set x v) y=U y:=λh=>if_neg h
 refine SQ (ts:=ws.map (enc K.a K.b)) H.len H.sum (by rw[Zyl,hL.len];decide) (λm hm=>(Zye.mp hm).elim λv q=>q.2 ▸ (ZA (a:=K.a) (b:=K.b) v).symm ▸ (F.size v q.1).2) h0.words ?_
 rw[eW]
 refine OB (w:=worth ws) H.max (M7 XA) (decide_eq_false λh=>Zqd.mpr qI h) (decide_eq_false λh=>ZuJ kr (ZxQ.mp h)) ((e (by decide)).trans h0.FX) (if_pos rfl) ?_
 by_cases h8:worth ws<8
 ·exact E8 h8 (if_pos rfl)
 ·exact E9 h8 (if_pos rfl) (SJ H.mt ((e (by decide)).trans h0.la.total) ((e (by decide)).trans h0.la.YG) (EZ (hk _ ⟨(e (by decide)).trans ((e (by decide)).trans ((e (by decide)).trans h0.words)),(e (by decide)).trans (if_pos rfl),if_pos rfl⟩ (ZuR kr (ZwP h8)))))
section
variable {S:Sg}{sc:Zy6}{U:Zx}{n:Nat}{p q:Pos}
theorem mZ    (h2:Yi S n sc (U.set x (.val d)) c=none):YH S (n+1) sc U (.Name x p) [c] elt d=none:=by
 show ((Yi S n sc (U.set x (.val d)) c).bind _)=_
 rw[h2];rfl
theorem il  (h:Wg S n sc U true vs=none):Yi S (n+1) sc U (.BoolOp .And vs p)=none:=h
theorem dX  (h:Wg S n sc U false vs=none):Yi S (n+1) sc U (.BoolOp .Or vs p)=none:=h
theorem xy    (h1:Yi S n sc U e=some all)(h2:Wg S n sc U all r=none):Wg S (n+1) sc U all (e::r)=none:=by
 show ((Yi S n sc U e).bind λb=>if b==all then Wg S n sc U all r else some b)=_
 rw[h1,Zy2,if_pos (beq_self_eq_true _),h2]
theorem jS    (h1:Yi S n sc U e=none):Wg S (n+1) sc U all (e::r)=none:=by
 show ((Yi S n sc U e).bind _)=_
 rw[h1];rfl
theorem ia    (c:Zxx op r=false)(h1:ev S n sc U l=some a)(h2:ev S n sc U r=none):Yi S (n+1) sc U (.Compare l [op] [r] p)=none:=by
 refine (if_neg (ne_true_of_eq_false c)).trans ?_
 rw[h1,Zy2,h2];rfl
theorem ec        (h1:Yi S n sc U t=some b)(h2:Xm ⟨S,ow,sp,wf⟩ n sc U (if b then body else LN)=some r):Xj ⟨S,ow,sp,wf⟩ (n+1) sc U (.If t body LN p)=some r:=by
 cases b
 ·exact QX h1 h2
 ·exact Ue h1 h2
end
theorem ke  (h:ds.all Yv=true):Ys .NotEq (.val (.lst ds)) (.val (.lst []))=some (!ds.isEmpty):=by
 have h1:alikeAll ds []=true:=by cases ds<;>rfl
 have h2:WY ds<=0:=by
  induction ds with
  |nil=>exact Zy7 _
  | cons x l ih=>
    rw[Zxj,ZyW] at h
    refine (Zj7 (a:=dep x)).mpr ⟨?_,ih h.2 (by cases l<;>rfl)⟩
    cases x<;>first |exact Zy7 _ |exact Yr h.1
 refine ZxO (if_pos (⟨h1,by show WY _+1<=8;lia⟩:_/\_)) ?_
 cases ds<;>rfl
theorem sf  :Ys .In (.val (.int x)) (.val (.lst (Y3 E)))=some (E.any λj=>decide ((j:Int)=x)):=by
 show (if (Y3 E).all (λa=>alike a (.int x)&&Yn a&&decide (dep a<=5))=true then some ((Y3 E).any λy=>eqv y (.int x)) else none)=_
 rw[if_pos (by rw[ZyV];intro y hy;obtain⟨z,_,rfl⟩:=Zye.mp hy;rfl)]
 congr 1
 rw[Y3,ZvO]
 congr 1
theorem A5    :∀{l:List β},(∀x∈l,f (g x)=some (h x))->Fw f (l.map g)=some (l.flatMap h)
 |[],_=>rfl
 | x::l,hf=>by
   show (f (g x)).bind _=_
   rw[hf x (.head _),Zy2,A5 λy hy=>hf y (.tail _ hy)];rfl
theorem tR        :ev S (n+1) sc U (.ListComp elt [g1,g2] scope p)=S.xe sc U (.ListComp elt [g1,g2] scope p):=by
 rfl
theorem L3  {i:Nat} :ZZ (some (i:Int)) none l=l.drop i:=by
 by_cases h:i<=l.length
 ·exact KL h
 ·rw[ZZ]
  have:YM (some (i:Int)) l.length 0=l.length:=(QE _ _ _).trans (ZvA (Zjh h))
  rw[this,ZvL,List.drop_eq_nil_of_le (Zjh h),List.take_nil]
theorem HL(ws:List (List Bool))(dr:List Bool):∀k,(Wn ws dr k).length<=k+1
 |0=>Zy7 _
 | k+1=>by
   have:=HL ws dr k
   rw[Wn,K5]
   split
   ·rw[Zyn];simp;lia
   ·lia
theorem Uq   :∀{l:List β},l.filterMap (λx=>if p x=true then some (f x) else none)=(l.filter p).map f
 |[]=>rfl
 | x::l=>by
   by_cases h:p x=true
   ·rw[Zwj (by rw[if_pos h]),ZvJ h,ZyZ,Uq]
   ·rw[Zwk (by rw[if_neg h]),Zw5 h,Uq]
theorem C5   :∀{l:List β},(!((l.filter p).map f).isEmpty)=l.any p
 |[]=>rfl
 | w::l=>by
   by_cases h:p w=true
   ·rw[ZvJ h,ZjE,h];rfl
   ·rw[Zw5 h,ZjE,C5,show p w=false by simpa using h,ZjL]
def yX(S:Sg):Prop:=∃S6:Sg,(∀nm x as,S6.mt nm (.val (.str x)) as=Xx nm (.val (.str x)) as)/\∀sc U e,S.xe sc U e=Rg S6 60 sc U e
theorem kQ         {β γ:Type}{f:β->PV}{l:List β}{g:γ->PV}{m:List γ}(q:β->γ->Option PV)(ps:β->List PV)
 (h1:(Vv scope t1&&Vv scope t2)=true) (h2:Vy scope sc U=true) (h3:(Xe i1&&Xe i2&&(Zc t2).all (λx=>!(Zc t1).contains x))=true) (h5:Y1 S n sc U false t1 i1=some (l.map f)) (h6:l.length<=Zyk)
 (h7:∀x∈l,partsOf t1 (f x)=some (ps x)) (h8:∀x∈l,Y1 S n (Wm scope sc) (Zi (VT scope U) (Zc t1) (ps x)) true t2 i2=some (m.map g))
 (h9:∀x∈l,∀y∈m,YH S n (Wm scope sc) (Zi (VT scope U) (Zc t1) (ps x)) t2 ifs elt (g y)=some (q x y))
 (jy:(l.flatMap λx=>m.filterMap (q x)).all Yv=true) (oT:(l.flatMap λx=>m.filterMap (q x)).length<=Zyk):
 Rg S n sc U (.ListComp elt [⟨t1,i1,[],0⟩,⟨t2,i2,ifs,0⟩] scope pos)=some (.val (.lst (l.flatMap λx=>m.filterMap (q x)))):=by
 rw[wj]
 unfold Pa
 rw[ZyW,ZyW] at h3
 obtain⟨⟨oL,oM⟩,oN⟩:=h3
 rw[h1,h2,oL,oM,oN]
 simp only[Zxr,if_true,h5,Zy2,Zyl,h6]
 rw[A5 (f:=_) (g:=f) (h:=λx=>m.filterMap (q x)) λx hx=>by
  simp only[h7 x hx,Zy2,h8 x hx]
  exact Ql (h9 x hx)]
 simp only[Zy2,jy,decide_eq_true oT,Zxr,if_true]
def lG:List ZyF:=bodyOf (Z2 20)[0]?
noncomputable def QJ(FR:Str)(k:Nat)(E:List Nat)(W:Str):Bool:=ZyJ W FR||(ZyJ FR W&&E.any λi=>ZuV i (k-W.length))
theorem uH{E:List Nat}{k m:Nat}(h:m<=k):(E.any λi=>decide ((i:Int)=(k:Int)-(m:Int)))=E.any λi=>ZuV i (k-m):=by
 congr 1
 funext i
 rw[<-Zvw h,Zx9,decide_eq_true_iff,Nat.beq_eq]
 exact Int.ofNat_inj
section
variable {S:Sg}{U:Zx}{Q:Zx->Prop}{k:Nat}{DR FR:Str}{E:List Nat}{ts:List Str}
theorem SU(e:Yg none (some (k:Int)) DR=FR)(zd:DR.length<=Zyk)(s2:U "drawn"=some (.val (.str DR)))(s4:U "k"=some (.val (.int k)))(q:Runs (Tn S ["words","ends"]) 37 (Zg 20) (U.set "front" (.val (.str FR))) (lG.drop 1) Q):Runs (Tn S ["words","ends"]) 38 (Zg 20) U lG Q:=by
 generalize hb:lG=b at q ⊢
 conv at hb=>lhs;whnf
 subst hb
 exact Runs.asg (.str FR) (by decide) rfl rfl (by clear q;walk_at "ex") q
theorem vE(m1:∀nm x as,S.mt nm (.val (.str x)) as=Xx nm (.val (.str x)) as)(ml:∀d,S.cl "len" [.val d]=XO [.val d])(zw:ts.length<=Zyk)(zE:(Y3 E).length<=Zyk)(z3:∀w∈ts,w.length<=Zyk)(le:∀w∈ts,ZyJ FR w=true->w.length<=k)
 (t1:U "words"=some (.val (.lst (ts.map .str)))) (t3:U "ends"=some (.own (Y3 E))) (t4:U "k"=some (.val (.int k))) (t5:U "front"=some (.val (.str FR))) (q:Q (if ts.any (QJ FR k E) then U.set "ends" (.own (Y3 E++[.int k])) else U)):Runs (Tn S ["words","ends"]) 37 (Zg 20) U (lG.drop 1) Q:=by
 generalize hb:lG.drop 1=b
 conv at hb=>lhs;whnf
 subst hb
 have XY:((ts.filter (QJ FR k E)).map PV.str).all Yv=true:=ZyV.mpr λy hy=>(Zye.mp hy).elim λw q=>q.2 ▸ rfl
 have Fe:=ke XY
 rw[C5] at Fe
 refine Runs.next (σ':=if ts.any (QJ FR k E) then U.set "ends" (.own (Y3 E++[.int k])) else U) ?_ (Runs.nil q)
 generalize ts.any (QJ FR k E)=hv at Fe ⊢
 clear q
 refine ec (Vp tF (a:=.val (.lst ((ts.filter (QJ FR k E)).map PV.str))) (b:=.val (.lst [])) ?_ (by walk_at "ex") Fe) ?_
 rotate_left
 ·clear XY Fe le
  cases hv with
  |false=>exact VA
  |true=>exact ZxO (b:=some (.Z4,U.set "ends" (.own (Y3 E++[.int (k:Nat)])))) (Ub (by walk_at "ex") VA) rfl
 clear Fe
 rw[PC (f:=PV.str) (l:=ts) (λw=>if QJ FR k E w=true then some (PV.str w) else none) (by decide) (Yp ["front","k","ends"] (by decide) (by simp only[Zxj,ZxU,t3,t4,t5,Zxu,Zxr])) rfl (by clear le;walk_at "ex") zw ?_ ?_ (by rw[Uq];exact XY)]
 ·rw[Uq]
 ·intro w hw
  have e1:=@Ra w FR
  have e2:=@Ra FR w
  have zl:=z3 w hw
  have ci:=@sf ((k:Int)-(w.length:Int)) E
  have ce:=le w hw
  rw[show QJ FR k E w=(ZyJ w FR||(ZyJ FR w&&E.any λi=>ZuV i (k-w.length))) from rfl]
  clear XY le z3
  cases hA:ZyJ w FR with
  |true=>clear ce;exact ZxO (b:=some (some (.str w))) (by walk_at "ex") rfl
  | false=>
    cases hB:ZyJ FR w with
    |false=>clear ce;exact ZxO (b:=some none) (by walk_at "ex") rfl
    | true=>
      rw[uH (ce hB)] at ci
      clear ce
      generalize (E.any λi=>ZuV i (k-w.length))=C at *
      cases C with
      |false=>exact ZxO (b:=some none) (by walk_at "ex") rfl
      |true=>exact ZxO (b:=some (some (.str w))) (by walk_at "ex") rfl
 ·intro w hw
  have e1:=@Ra w FR
  have e2:=@Ra FR w
  have zl:=z3 w hw
  rw[show QJ FR k E w=(ZyJ w FR||(ZyJ FR w&&E.any λi=>ZuV i (k-w.length))) from rfl]
  clear XY le z3
  cases hA:ZyJ w FR with
  |true=>right;exact ZxO (b:=some (some (.str w))) (by walk_at "ex") rfl
  | false=>
    cases hB:ZyJ FR w with
    |false=>right;exact ZxO (b:=some none) (by walk_at "ex") rfl
    |true=>left;exact mZ (dX (xy (by walk_at "ex") (jS (il (xy (by walk_at "ex") (jS (ia tF (by walk_at "ex") (by walk_at "ex"))))))))
noncomputable def FU(E:List Nat)(ts:List Str)(p:Nat->Str->Bool):List PV:=E.flatMap λk=>ts.filterMap λw=>if p k w=true then some (PV.int (k:Nat)) else none
theorem E3 :(FU E ts p).all Yv=true:=
 ZyV.mpr λy hy=>(ZxH.mp hy).elim λk q=>(Zvq.mp q.2).elim λw q=>Zl q.2 λ_ e=>Zyb e ▸ rfl
theorem O5 :(FU E ts p).length<=ts.length*E.length:=by
 induction E with
 |nil=>exact Zy7 _
 | cons k L ih=>
   rw[FU,Zjv,Zyn,Zy4,ZqG,Zwe]
   exact Zxa ih (ZvY _ _)
theorem wO  (h:(E.any λk=>ts.any (p k))=true):(FU E ts p).isEmpty=false:=by
 obtain⟨k,hk,h⟩:=ZwZ.mp h
 obtain⟨w,hw,h⟩:=ZwZ.mp h
 have hm:PV.int (k:Nat)∈FU E ts p:=ZxH.mpr ⟨k,hk,Zvq.mpr ⟨w,hw,if_pos h⟩⟩
 exact ZwD.mpr λXA=>absurd (ZuG.mp XA ▸ hm) ZxY
theorem OC  {dr:Nat->Str}(HX:yX S)(zE:E.length<=100)(zw:ts.length<=100)(FA:(E.any λk=>ts.any λw=>ZyY w (dr k))=true)(e4:∀k∈E,Yg (some (k:Int)) none DR=dr k)(zd:DR.length<=Zyk)
 (s1:U "words"=some (.val (.lst (ts.map .str)))) (s2:U "drawn"=some (.val (.str DR))) (s3:U "ends"=some (.own (Y3 E))):Gives (Tn S ["words","ends"]) 39 (Zg 20) U (Z2 21) (.bool true):=by
 generalize hb:Z2 21=b
 conv at hb=>lhs;whnf
 subst hb
 obtain⟨S6,m6,q9⟩:=HX
 have e1:=@E3 E ts λk w=>ZyY w (dr k)
 have e2:(FU E ts λk w=>ZyY w (dr k)).length<=Zyk:=Zyi O5 (Zyi (ZjQ zw zE) (by decide))
 have Fe:=ke e1
 rw[wO FA] at Fe
 refine Gives.ret (σ':=U) (Kb (Nd (jH tF (a:=.val (.lst (FU E ts λk w=>ZyY w (dr k)))) (b:=.val (.lst [])) ?_ (by walk_at "ex") (Fe.trans rfl)) tT))
 rw[tR,q9]
 refine kQ (f:=λk:Nat=>PV.int k) (l:=E) (g:=PV.str) (m:=ts) (λk w=>if ZyY w (dr k)=true then some (PV.int (k:Nat)) else none) (λk=>[PV.int (k:Nat)]) (by decide) (Yp ["words","drawn"] (by decide) (by simp only[Zxj,ZxU,s1,s2,Zxu,Zxr])) (by decide)
  (VG (by decide) (by decide) s3 rfl) (Zyi zE (by decide)) (λ_ _=>rfl) (λk hk=>?_) (λk hk w hw=>?_) e1 e2
 ·clear q9 Fe e1 e2 FA e4
  show Y1 _ _ _ ((VT _ U).set "k" (.val (.int k))) _ _ _=_
  walk_at "ex"
 ·have e3:=@LZ w (dr k)
  have e4:=e4 k hk
  clear q9 Fe e1 e2 FA
  show YH _ _ _ ((VT _ U).set "k" (.val (.int k))) _ _ _ _=_
  generalize ZyY w (dr k)=Bq at *
  cases Bq with
  |false=>exact ZxO (b:=some none) (by walk_at "ex") rfl
  |true=>exact ZxO (b:=some (some (.int k))) (by walk_at "ex") rfl
end
theorem JB   (h:(ZQ 1 10)[j]?=some d):d=.int ((j+1:Nat):Int)/\j<9:=
 ⟨(QH h).1.trans (by rw[ZqJ];rfl),ZxQ.mp (QH h).2⟩
theorem hY  {c:Zya}   (H:VS S c b1 b3)(HX:yX S){K:Y5}(hK:K∈Wo)   (hL:LW K ws 4)(FA:Jc ws (X3 is) (Wn ws (X3 is) 9)=true)
 (h0:LF K is ws U [0]):Gives (LT S) 40 (Zg 20) U (Z2 20) (.bool true):=by
 have hG:=J7 _ hK
 have F:=hL.four
 have ye:=Be is
 have zd:(enc K.a K.b (X3 is)).length<=Zyk:=by rw[ZA,ye];decide
 have zw:(ws.map (enc K.a K.b)).length<=100:=by rw[Zyl,hL.len];decide
 have ex:∀{U:Zx}{y x:Str}{v:AV},¬y=x->(U.set x v) y=U y:=λh=>if_neg h
 have ez:∀k,(Wn ws (X3 is) k).length<=k+1:=HL ws (X3 is)
 have turn:∀j U,j<9->LF K is ws U (Wn ws (X3 is) j)->Runs (Tn S ["words","ends"]) 38 (Zg 20) (U.set "k" (.val (.int ((j+1:Nat):Int)))) lG λU=>LF K is ws U (Wn ws (X3 is) (j+1)):=λj U hj hF=>by
  have XY:((X3 is).take (j+1)).length=j+1:=by rw[ZxZ,ye];exact ZxA hj
  have hE:=ez j
  have eh:(ws.map (enc K.a K.b)).any (QJ (enc K.a K.b ((X3 is).take (j+1))) (j+1) (Wn ws (X3 is) j))=NQ ws ((X3 is).take (j+1)) (j+1) (Wn ws (X3 is) j):=by
   rw[ZvO,NQ]
   congr 1
   funext w
   have a1:ZyJ (enc K.a K.b w) (enc K.a K.b ((X3 is).take (j+1)))=((X3 is).take (j+1)).isSuffixOf w:=by rw[QR hG.ok.ne,Zx9,decide_eq_true_iff,Zu1]
   have a2:ZyJ (enc K.a K.b ((X3 is).take (j+1))) (enc K.a K.b w)=w.isSuffixOf ((X3 is).take (j+1)):=by rw[QR hG.ok.ne,Zx9,decide_eq_true_iff,Zu1]
   show QJ _ _ _ (enc K.a K.b w)=_
   rw[QJ,a1,a2,ZA]
  refine SU (by rw[UM,JX]) zd ((ex (by decide)).trans hF.drawn) (if_pos rfl) (vE H.mt H.len (Zyi zw (by decide)) ?_ (λw hw=>?_) (λw hw h=>?_) ((ex (by decide)).trans ((ex (by decide)).trans hF.words)) ((ex (by decide)).trans ((ex (by decide)).trans hF.ends)) ((ex (by decide)).trans (if_pos rfl)) (if_pos rfl) ?_)
  ·rw[Y3,Zyl];exact Zyi hE (Zyi hj (by decide))
  ·exact (Zye.mp hw).elim λv q=>q.2 ▸ (ZA (a:=K.a) (b:=K.b) v).symm ▸ Zyi (F.size v q.1).2 (by decide)
  ·obtain⟨v,hv,rfl⟩:=Zye.mp hw
   rw[QR hG.ok.ne,decide_eq_true_iff] at h
   rw[ZA,<-XY];exact h.length_le
  ·rw[eh,show Wn ws (X3 is) (j+1)=if NQ ws ((X3 is).take (j+1)) (j+1) (Wn ws (X3 is) j) then Wn ws (X3 is) j++[j+1] else Wn ws (X3 is) j from rfl]
   cases NQ ws ((X3 is).take (j+1)) (j+1) (Wn ws (X3 is) j) with
   | false=>
     rw[if_neg ZyG,if_neg ZyG]
     exact⟨(ex (by decide)).trans ((ex (by decide)).trans hF.words),(ex (by decide)).trans ((ex (by decide)).trans hF.drawn),(ex (by decide)).trans ((ex (by decide)).trans hF.ends)⟩
   | true=>
     rw[if_pos rfl,if_pos rfl]
     exact⟨(ex (by decide)).trans ((ex (by decide)).trans ((ex (by decide)).trans hF.words)),(ex (by decide)).trans ((ex (by decide)).trans ((ex (by decide)).trans hF.drawn)),(if_pos rfl).trans (by rw[Y3,Y3,Zy9];rfl)⟩
 have ret:∀U,LF K is ws U (Wn ws (X3 is) 9)->Gives (Tn S ["words","ends"]) 39 (Zg 20) U (Z2 21) (.bool true):=λU hF=>
  OC (dr:=λk=>enc K.a K.b ((X3 is).drop k)) HX (Zyi (ez 9) (by decide)) zw (by
   rw[<-FA,Jc]
   congr 1
   funext k
   rw[ZvO]
   congr 1
   funext w
   show ZyY (enc K.a K.b w) (enc K.a K.b ((X3 is).drop k))=_
   rw[C7 hG.ok.ne,Zx9,decide_eq_true_iff,Zxk]) (λk _=>by rw[UM,L3]) zd hF.words hF.drawn hF.ends
 show Gives (Tn S ["words","ends"]) _ _ _ _ _
 generalize hE:lG=eb at turn
 generalize hb:Z2 20=b
 have N0:eb=bodyOf b[0]?:=by rw[<-hb,<-hE];rfl
 have YF:Z2 21=b.drop 1:=by rw[<-hb];rfl
 rw[YF] at ret
 clear YF hE
 conv at hb=>lhs;whnf
 subst hb
 subst N0
 have z10:ZJ (-(2 ^ 62)) (2 ^ 62) 10=true:=VY (by decide) (by decide)
 have z01:ZJ (-(2 ^ 62)) (2 ^ 62) 1=true:=VY (by decide) (by decide)
 refine Gives.for (ds:=ZQ 1 10) (P:=λj U=>LF K is ws U (Wn ws (X3 is) j)) (by decide) rfl rfl (by clear turn ret;walk_at "ex") h0 (λj v U hj hF=>?_) ret
 obtain⟨rfl,oe⟩:=JB hj
 exact turn j U oe hF
theorem OG{S:Sg}    (H:VS S c b1 b3)(HX:yX S)(G:Nq b1 b3){is:List Int}(hl:is.length<=63):
 run S 20 ["words","ends"] ["script"] [.val (.lst (is.map .int))]=some (.bool true):=
 have hK:=OO is
 Wk rfl (tw H hl λU hA hw=>hO H G hK hl (λU ws hA hw hL=>hH H hK (λU f hC hF=>hJ H hK hL (λU hD=>hU H hK hL (λU hE hu=>hV H hK hL hu (λU hF h8=>hY H HX hK hL ((x5 hL.len hL.nodup hL.size hu).2 h8 _ (Be is)) hF) hE) hD hF) hC hF) hA hw hL) hA hw)
section
variable (c:Zya)(b1:Int->Bool)(b3:Int->Option Str)
theorem pK{c:Zya}{mt:Str->AV->List AV->Option PV}  (hl:l.length<=Zyk):NR c mt "items" (.val (.box (Z8 c) [] l)) []=some (.lst l):=if_pos ⟨rfl,rfl,rfl,hl⟩
theorem Ph:WO (Sb c b1 b3):=⟨λ_ _ _=>rfl,λd=>rfl,λd=>rfl,rfl⟩
theorem df:WO (S3 c b1 b3):=⟨λ_ _ _=>rfl,λd=>rfl,λd=>rfl,rfl⟩
theorem nO:PT (S1 c b1 b3):=⟨λ_ _ _=>rfl,λd=>rfl,λd=>rfl,λd=>rfl⟩
theorem nP:TX (S2 c b1 b3) where
 mt:=λ_ _ _=>rfl
 chr:=λd=>rfl
 ord:=λd=>rfl
 len:=λd=>rfl
 letter:=λch q hc hq=>by
  have h:(S2 c b1 b3).cl "_law_letter" [.val (.str (ZK [ch])),.val (.int (q:Nat))]=run (S1 c b1 b3) 15 [] ["letter","q"] [.val (.str (one ch)),.val (.int (q:Nat))]:=rfl
  rw[h];exact L0 (nO c b1 b3) hc hq
theorem mz:Bz (S4 c b1 b3) c where
 mt:=λ_ _ _=>rfl
 len:=λd=>rfl
 I9:=λl hl=>if_pos (c:=c=c/\l.length<=Zyk) ⟨rfl,hl⟩
 min:=λd=>rfl
 over:=λs l bk hs hl hn=>by
  have h:(S4 c b1 b3).cl "_law_over" [.val (.str s),.val (.str l),.val (.int (XI bk))]=run (S3 c b1 b3) 17 [] ["short","long","back"] [.val (.str s),.val (.str l),.val (.int (XI bk))]:=rfl
  have e:∀as,(S3 c b1 b3).cl "_ellipsis_match" as=run (Sb c b1 b3) 9 ["ws"] ["want","got"] as:=λas=>rfl
  rw[h]
  exact E2 (df c b1 b3) hs hl hn (by rw[e];exact emS (Ph c b1 b3) hs hl hn) (by rw[e];exact emE (Ph c b1 b3) hs hl hn)
theorem my:PS (S5 c b1 b3) where
 mt:=λ_ _ _=>rfl
 len:=λd=>rfl
 Tc:=λd=>rfl
 gv:=rfl
 sum:=λd=>rfl
theorem nE:VS (S7 c b1 b3) c b1 b3 where
 mt:=λ_ _ _=>rfl
 yc:=λ_ _ _=>rfl
 items:=λl hl=>pK (mt:=Xx) hl
 len:=λd=>rfl
 Tc:=λd=>rfl
 sum:=λd=>rfl
 max:=λd=>rfl
 NV:=λch=>by
  have h:(S7 c b1 b3).cl "in_table_b1" [.val (.str (ZK [ch]))]=nu b1 [.val (.str (ZK [ch]))]:=rfl
  rw[h];rfl
 DM:=λch=>by
  have h:(S7 c b1 b3).cl "map_table_b3" [.val (.str (ZK [ch]))]=kb b3 [.val (.str (ZK [ch]))]:=rfl
  rw[h];rfl
 em:=⟨Sb c b1 b3,Ph c b1 b3,λas=>rfl⟩
 label:=λK n hK=>by
  have h:(S7 c b1 b3).cl "_law_label" [.val (.int (n:Nat)),.val (WB K)]=run (S2 c b1 b3) 16 [] ["n","kin"] [.val (.int (n:Nat)),.val (WB K)]:=rfl
  rw[h];exact SD (nP c b1 b3) hK n
 NU:=λa b ws bk K F=>by
  have h:(S7 c b1 b3).cl "_law_hunt" [.own ((ws.map (enc a b)).map .str),.val (.int (XI bk))]=JH (Th c (S4 c b1 b3) (Zg 18)) 60 (Zg 18) (X2 18) ["words","back"] [.own ((ws.map (enc a b)).map .str),.val (.int (XI bk))]:=rfl
  rw[h]
  obtain⟨d,σ',e,hR⟩:=ES (mz c b1 b3) K F bk
  refine⟨d,?_,hR⟩
  exact (if_pos (rfl:(2:Nat)=2)).trans (congrArg (λo:Option (Z9 × Zx)=>o.bind λp=>AS p.1) e)
 FX:=λws t hw hl ht=>by
  have h:(S7 c b1 b3).cl "_law_ways" [.val (.lst (ws.map .str)),.val (.str t)]=run (S5 c b1 b3) 19 ["ways"] ["words","text"] [.val (.lst (ws.map .str)),.val (.str t)]:=rfl
  rw[h];exact Eg (my c b1 b3) hw hl ht
theorem sL:yX (S7 c b1 b3):=⟨S6 c b1 b3,λ_ _ _=>rfl,λ_ _ _=>rfl⟩
theorem E7(G:Nq b1 b3)(is:List Int)(hl:is.length<=63):PZ c b1 b3 [.val (.lst (is.map .int))]=some (.bool true):=OG (nE c b1 b3) (sL c b1 b3) G hl
end
theorem rY:∀ch∈Wd,∀q,q<12->Vs Uh.LS (WR ch q)=ZK [ch]/\Uh.R9 (WR ch q:Nat)=false:=by decide +kernel
theorem rZ:∀K∈Wo,∀j,j<3->Vs Uh.LS (K.jo.getD j 0)=enc K.a K.b (K.me.getD j [])/\Uh.R9 (K.jo.getD j 0:Nat)=false:=by decide +kernel
theorem r9:∀c∈VH,Uh.R9 (c:Nat)=true:=by decide +kernel
theorem law1_holds:ZxB.Holds:=Uh.z5 λis hl=>E7 242 _ _ ⟨rY,rZ,r9⟩ is hl
end Mine.Internal.L1
end
theorem PySem.Challenge.cw_sr0086_01_holds : PySem.Challenge.rw_sr0086_01.Holds :=
  Mine.Internal.L1.law1_holds
